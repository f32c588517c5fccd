import PyProof.Rows.All
import Wide.All
import OpenK.AllK
import Wide.FinOn
import Lean
import PySem.Challenge.RW_ji0069_01
open PySem PySem.Calls PySem.W PyProof.Rows
set_option Elab.async false
set_option maxRecDepth 100000
set_option linter.unusedVariables false
set_option linter.unusedSimpArgs false
set_option linter.deprecated false
namespace Mine
section
/-- a code object that keeps a table of the codes made in it: the code, its table, the place, the name -/
structure Tab where
  c : Addr
  P : Addr
  pos : Pos
  qual : Str

/-! ## the text's pieces -/
abbrev topBody : List Stmt := PySem.Challenge.pw_ji0069_01.main.body
def nth (l : List Stmt) : Nat → Stmt
  | 0 => match l with | x :: _ => x | [] => .Pass default
  | n + 1 => match l with | _ :: r => nth r n | [] => .Pass default
def bd (s : Stmt) : List Stmt := match s with | .FunctionDef _ _ b .. => b | .ClassDef _ _ _ b .. => b | _ => []
def scp (s : Stmt) : Scope := match s with | .FunctionDef _ _ _ _ _ _ sc .. => sc | _ => default
def prm (s : Stmt) : Arguments := match s with | .FunctionDef _ a .. => a | _ => default
def clsBody : List Stmt := bd (nth topBody 5)
def fnOfS (st : Stmt) (qual : Str) (code : Addr) (dv pm : Value) : FuncData := match st with
  | .FunctionDef name args body _ _ _ scope _ _ _ => fnOf name qual args body scope dv .none .none pm none (.ref code) .none
  | _ => default
def pmC : Value := .str "passlib.utils.binary" 213
def pmL : Value := .str "law_ji0069_01" 522
/-- the def in a def -/
def nvE : Stmt := nth (bd (nth clsBody 9)) 3
def nvD : Stmt := nth (bd (nth clsBody 12)) 4

def fdC (i : Nat) (q : Str) (cd : Addr) (dv : Value := .none) : FuncData := fnOfS (nth clsBody i) q cd dv pmC
abbrev fd57 := fdC 4 "Base64Engine._encode64" 56
abbrev fd64 := fdC 5 "Base64Engine._decode64" 63
abbrev fd71 := fdC 6 "Base64Engine._encode_bytes" 70
abbrev fd78 := fdC 7 "Base64Engine._decode_bytes" 77
abbrev fd91 := fdC 9 "Base64Engine.encode_bytes" 90
abbrev fd112 := fdC 12 "Base64Engine.decode_bytes" 111
def posS (s : Stmt) : Pos := match s with | .FunctionDef _ _ _ _ _ _ _ _ _ p => p | _ => default
def tabE : Tab := ⟨90, 88, posS nvE, "Base64Engine.encode_bytes.<locals>.next_value"⟩
def tabD : Tab := ⟨111, 107, posS nvD, "Base64Engine.decode_bytes.<locals>.next_value"⟩
def fdEL : FuncData := fnOfS (nth clsBody 10) "Base64Engine._encode_bytes_little" 97 .none pmC
def fdEB : FuncData := fnOfS (nth clsBody 11) "Base64Engine._encode_bytes_big" 104 .none pmC
def fdDL : FuncData := fnOfS (nth clsBody 13) "Base64Engine._decode_bytes_little" 118 .none pmC
def fdDB : FuncData := fnOfS (nth clsBody 14) "Base64Engine._decode_bytes_big" 125 .none pmC
abbrev fd222 := fdC 28 "Base64Engine._encode_int" 221
abbrev fd229 := fdC 29 "Base64Engine.encode_int6" 228
abbrev fd234 := fdC 30 "Base64Engine.encode_int12" 233
abbrev fd239 := fdC 31 "Base64Engine.encode_int24" 238
abbrev fd246 := fdC 32 "Base64Engine.encode_int30" 245
abbrev fd253 := fdC 33 "Base64Engine.encode_int64" 252
abbrev fd168 := fdC 20 "Base64Engine.encode_transposed_bytes" 167
abbrev fd175 := fdC 21 "Base64Engine.decode_transposed_bytes" 174
def fdT (i : Nat) (q : Str) (cd : Addr) : FuncData := fnOfS (nth topBody i) q cd .none pmL
abbrev fd265 := fdT 7 "_law_map" 264
abbrev fd272 := fdT 8 "_law_number" 271
abbrev fd277 := fdT 9 "_law_end_right" 276
abbrev fd284 := fdT 10 "_law_numbers_right" 283
abbrev fd289 := fdT 11 "law" 288
def posG (s : Stmt) : Pos := match s with | .Assign _ (.Call _ [.GeneratorExp _ _ _ p] _ _) _ => p | _ => default
def tabI : Tab := ⟨49, 45, posG (nth (bd (nth clsBody 3)) 4), "Base64Engine.__init__.<locals>.<genexpr>"⟩
abbrev fd50 := fdC 3 "Base64Engine.__init__" 49 (.ref 43)
abbrev rw0 : OpenLaw := PySem.Challenge.rw_ji0069_01
def pw : Program := PySem.Challenge.pw_ji0069_01
def qv : Program := { pw with main := { pw.main with body := [0, 2, 3, 6, 7, 8, 9, 10, 11].filterMap fun i => pw.main.body[i]? } }
/-- the part of a heap that is known -/
def fragOf (h : Heap) (as : List Addr) : Frag := as.filterMap fun a => (h.get? a).bind fun o => if o.cls != .none then some (a, o) else none
def fns : List (Addr × FuncData) := [(57, fd57), (64, fd64), (71, fd71), (78, fd78), (91, fd91), (98, fdEL), (105, fdEB), (112, fd112), (119, fdDL), (126, fdDB), (168, fd168), (175, fd175), (222, fd222), (229, fd229), (234, fd234), (239, fd239), (246, fd246), (253, fd253), (50, fd50), (265, fd265), (272, fd272), (277, fd277), (284, fd284), (289, fd289)]
def addrs : List Addr := 256 :: 255 :: 43 :: fns.map (·.1) ++ fns.map (fun p => p.1 - 1)
def fnObj (fd : FuncData) : Obj := { cls := .type "function", data := .func fd }
def meths : List (Str × Addr) := [("_encode64", 57), ("_decode64", 64), ("_encode_bytes", 71), ("_decode_bytes", 78), ("encode_bytes", 91), ("_encode_bytes_little", 98), ("_encode_bytes_big", 105), ("decode_bytes", 112), ("_decode_bytes_little", 119), ("_decode_bytes_big", 126), ("encode_transposed_bytes", 168), ("decode_transposed_bytes", 175), ("_encode_int", 222), ("encode_int6", 229), ("encode_int12", 234), ("encode_int24", 239), ("encode_int30", 246), ("encode_int64", 253), ("__init__", 50)]
def glbs : List (Str × Addr) := [("_law_map", 265), ("_law_number", 272), ("_law_end_right", 277), ("_law_numbers_right", 284), ("Base64Engine", 256), ("law", 289)]
def blts : List (Str × Value) := [("isinstance", .builtin "isinstance"), ("bytes", .type "bytes"), ("str", .type "str"), ("len", .builtin "len"), ("list", .type "list"), ("divmod", .builtin "divmod"), ("range", .type "range"), ("min", .builtin "min"), ("zip", .type "zip"), ("set", .type "set"), ("dict", .type "dict"), ("enumerate", .type "enumerate"), ("reversed", .type "reversed")]
def tabs3 : List Tab := [tabE, tabD, tabI]
/-- a code object of the usual form, with that table -/
def codeChk (c P : Addr) (o : Option Obj) : Bool := match o with
  | some ⟨cl, _, .fields vs, _⟩ => cl == .type "code" && vs[11]? == some (.ref P) && (match vs.getD 18 .none with | .str _ _ => true | _ => false) && (match vs.getD 7 .none with | .int _ _ => true | _ => false) && (match vs.getD 9 .none with | .bool _ => true | _ => false) && (match vs.getD 10 .none with | .int _ _ => true | _ => false) && c != P
  | _ => false
structure Seen where
  size : Nat
  funs : List (Option Obj)
  meth : List (Option (Option Value))
  code : List Bool
  oks : List Bool
  attr : List (Option (Option Value))
  take : List (Option (Option Value))
  seta : Option (Option Value)
  glob : List (Option Value)
  blt : List (Option Value × Option Value)
  dflt : Option Obj
  tcod : List Bool
  ttab : List (Option Obj)
  nss : List (Option Value)
def names3 : List Str := ["bytemap", "_lookup", "big"]
def seenK (K : Frag) (s : Shared) : Seen where
  size := s.heap.objs.size
  funs := fns.map fun p => s.heap.get? p.1
  meth := meths.map fun p => findIn K (.ref 256) p.1
  code := fns.map fun p => codeIn K p.2.code p.2.qualname
  oks := [plainGet K 256 "", hasDictIn K 256, noGet K (some .none), makesIn K 256, plainOver K 256, (clsIn K 256).any (·.hasDict), keepIn K (.ref 256)]
  attr := names3.map fun x => findIn K (.ref 256) x
  take := names3.map fun x => takerIn K 256 x
  seta := findIn K (.ref 256) "__setattr__"
  glob := glbs.map fun p => s.heap.nsMap mainGlobals p.1
  blt := blts.map fun p => (s.heap.nsMap mainGlobals p.1, s.heap.nsMap builtinsNs p.1)
  dflt := s.heap.get? 43
  tcod := tabs3.map fun t => codeChk t.c t.P (s.heap.get? t.c)
  ttab := tabs3.map fun t => s.heap.get? t.P
  nss := [mainGlobals, builtinsNs].map fun a => (s.heap.get? a).map (·.cls)
def obs1 (s : Shared) : Seen := seenK (fragOf s.heap addrs) s
def val1 (w : World) : Seen where
  size := 290
  funs := fns.map fun p => some (fnObj p.2)
  meth := meths.map fun p => some (some (.ref p.2))
  code := fns.map fun _ => true
  oks := [true, true, true, true, true, true, true]
  attr := names3.map fun _ => some (some .none)
  take := names3.map fun _ => some none
  seta := some (some (.builtin "object.__setattr__"))
  glob := glbs.map fun p => some (.ref p.2)
  blt := blts.map fun p => (none, some p.2)
  dflt := some { cls := .type "tuple", data := .seq #[.bool false] }
  tcod := tabs3.map fun _ => true
  ttab := tabs3.map fun _ => some { cls := .none, data := .fields #[] }
  nss := [some (.type "dict"), some (.type "dict")]
/-- the view: the law's def alone; all else is loose -/
def qw : Program := { pw with main := { pw.main with body := [11].filterMap fun i => pw.main.body[i]? } }
def lw : List Str := ["_wall", "ExpectedTypeError", "ExpectedStringError", "Base64Engine", "_law_map", "_law_number", "_law_end_right", "_law_numbers_right"]
set_option maxHeartbeats 0 in
theorem left1 : LeftO pw qw lw (fun _ => true) obs1 val1 3466 := fun w => by kernel_rfl
end
section

/-! ## what a value is, told of a heap -/
structure AV where
  p : Value → Heap → Prop
  mono : ∀ {v : Value} {h h' : Heap}, (∀ b o, h.get? b = some o → h'.get? b = some o) → p v h → p v h'

abbrev view (X : List Addr) (h : Heap) : Heap := hideAll h X

theorem view_get {X : List Addr} {h : Heap} {b : Addr} {o : Obj} (e : h.get? b = some o) (n : b ∉ X) : (view X h).get? b = some o := hideAll_get X e n
theorem view_of {X : List Addr} {h : Heap} {b : Addr} {o : Obj} (e : (view X h).get? b = some o) : h.get? b = some o ∧ b ∉ X :=
  ⟨of_hideAll X e, fun m => by rw [view, hideAll_none X m] at e; cases e⟩
theorem view_keep {X Y : List Addr} {h h' : Heap} (hY : ∀ b, b ∈ Y → b ∈ X) (k : ∀ b o, b ∉ Y → h.get? b = some o → h'.get? b = some o) (b : Addr) (o : Obj) (e : (view X h).get? b = some o) :
    (view X h').get? b = some o := let ⟨g, n⟩ := view_of e; view_get (k b o (fun m => n (hY b m)) g) n
theorem view_less {X Y : List Addr} {h : Heap} (hY : ∀ b o, h.get? b = some o → b ∈ Y → b ∈ X) (b : Addr) (o : Obj) (e : (view X h).get? b = some o) : (view Y h).get? b = some o :=
  let ⟨g, n⟩ := view_of e; view_get g (fun m => n (hY b o g m))

def aInt (i : Int) : AV := ⟨fun v _ => ∃ t, v = .int i t, fun _ h => h⟩
def aBool (b : Bool) : AV := ⟨fun v _ => v = .bool b, fun _ h => h⟩
def aNone : AV := ⟨fun v _ => v = .none, fun _ h => h⟩
/-- bytes, their ints told -/
def aByt (ks : List Int) : AV := ⟨fun v _ => ∃ b t, v = .bytes b t ∧ KBw.bInts b = ks, fun _ h => h⟩
def aVal (u : Value) : AV := ⟨fun v _ => v = u, fun _ h => h⟩
theorem isList_keeps {h h' : Heap} {a : Addr} {items : Array Value} (k : ∀ b o, h.get? b = some o → h'.get? b = some o) (l : h.IsList a items) : h'.IsList a items :=
  let ⟨o, g, c, n, d⟩ := l; ⟨o, k _ _ g, c, n, d⟩
/-- a list of ints that stays -/
def aInts (ns : List Int) : AV := ⟨fun v h => ∃ a vs, v = .ref a ∧ h.IsList a (List.toArray vs) ∧ IntsAre vs ns, fun k ⟨a, vs, e, l, i⟩ => ⟨a, vs, e, isList_keeps k l, i⟩⟩

/-! ## the text's own objects, and what a call may turn -/
structure Gl where
  prog : Program
  w : World
  K : Frag
  h₀ : Heap
  mg : Str → Option Value
  mb : Str → Option Value
  tabs : List Tab
  kin : K.In h₀
  kcls : (K.all fun p => p.2.cls != .none) = true
  ns : h₀.Ns mainGlobals mg
  nb : h₀.Ns builtinsNs mb
  gcls : ∀ o, h₀.get? mainGlobals = some o → o.cls ≠ .none
  bcls : ∀ o, h₀.get? builtinsNs = some o → o.cls ≠ .none
  lim : h₀.NoLimit
  last : ∃ a o, h₀.get? a = some o ∧ h₀.objs.size ≤ a + 1
  bmain : ∀ t ∈ tabs, h₀.BuiltinsAt mg t.P
  tinj : ∀ t ∈ tabs, ∀ t' ∈ tabs, t.P = t'.P → t = t'
  tlt : ∀ t ∈ tabs, t.P < h₀.objs.size ∧ t.P ≠ cStatics ∧ t.c < h₀.objs.size

def Gl.T (G : Gl) : List Addr := G.tabs.map (·.P)

def TabOk (h₀ h : Heap) (t : Tab) : Prop :=
  ∃ c₀ ps₀ ps, h₀.TableAt c₀ t.P ps₀ ∧ h.TableAt t.c t.P ps ∧ h.IsCode t.c t.P ps ∧ (codeAmong t.pos ps.toList = none ∨ ∃ c', codeAmong t.pos ps.toList = some (.ref c') ∧ ∃ o vs tk, h.get? c' = some o ∧ o.cls = .type "code" ∧ o.data = .fields vs ∧ vs[1]? = some (.str t.qual tk))

structure Gl.Ok (G : Gl) (s : Shared) : Prop where
  old : OldK G.h₀ s.heap
  stat : s.heap.get? cStatics = G.h₀.get? cStatics
  tabs : ∀ t ∈ G.tabs, TabOk G.h₀ s.heap t
  bare : AllBare s.gens

theorem lookup_mem {K : Frag} {a : Addr} {o : Obj} (h : K.lookup a = some o) : (a, o) ∈ K := by
  induction K with
  | nil => cases h
  | cons p r ih =>
    obtain ⟨b, ob⟩ := p
    rw [List.lookup_cons] at h
    split at h
    · rename_i q; cases h; rw [beq_iff_eq.mp q]; exact .head _
    · exact .tail _ (ih h)

namespace Gl.Ok
variable {G : Gl} {s s' : Shared}
theorem frag (x : G.Ok s) : G.K.In s.heap := fun a o e => x.old.get_of_cls (G.kin a o e) (by
  have := List.all_eq_true.mp G.kcls _ (lookup_mem e)
  simpa using this)
theorem nsAt {a : Addr} {m : Str → Option Value} (x : G.Ok s) (n : G.h₀.Ns a m) (c : ∀ o, G.h₀.get? a = some o → o.cls ≠ .none) : s.heap.Ns a m :=
  let ⟨o, es, ep, e, r⟩ := n; ⟨o, es, ep, x.old.get_of_cls e (c o e), r⟩
theorem glob (x : G.Ok s) : s.heap.Ns mainGlobals G.mg := x.nsAt G.ns G.gcls
theorem blt (x : G.Ok s) : s.heap.Ns builtinsNs G.mb := x.nsAt G.nb G.bcls
theorem nolim (x : G.Ok s) : s.heap.NoLimit :=
  let ⟨mc, ⟨o, es, ep, e, r⟩, q⟩ := G.lim; ⟨mc, ⟨o, es, ep, x.stat.trans e, r⟩, q⟩
theorem size (x : G.Ok s) {a : Addr} {o : Obj} (e : G.h₀.get? a = some o) : a < s.heap.objs.size := let ⟨_, h⟩ := x.old.there a o e; Heap.lt_size h

theorem low (x : G.Ok s) : G.h₀.objs.size ≤ s.heap.objs.size := let ⟨a, o, e, l⟩ := G.last; Nat.le_trans l (x.size e)

/-- what the tables name -/
def Named (G : Gl) (s : Shared) (c' : Addr) : Prop := ∃ t ∈ G.tabs, ∃ c ps, s.heap.TableAt c t.P ps ∧ codeAmong t.pos ps.toList = some (.ref c')
theorem step' (x : G.Ok s) (k : ∀ b o, b < G.h₀.objs.size → s.heap.get? b = some o → s'.heap.get? b = some o) (kn : ∀ b o, Named G s b → s.heap.get? b = some o → s'.heap.get? b = some o) (hb : AllBare s'.gens) : G.Ok s' := by
  have lt : ∀ {b o}, G.h₀.get? b = some o → b < G.h₀.objs.size := fun e => Heap.lt_size e
  have hs : cStatics < G.h₀.objs.size := let ⟨mc, ⟨o, es, ep, e, r⟩, q⟩ := G.lim; lt e
  have st : s'.heap.get? cStatics = s.heap.get? cStatics := by
    obtain ⟨mc, ⟨o, es, ep, e, r⟩, q⟩ := G.lim
    rw [x.stat, e]
    exact k _ _ hs (x.stat.trans e)
  refine ⟨⟨fun b o e => ?_, fun b o e => let ⟨o', ho'⟩ := x.old.there b o e; ⟨o', k _ _ (lt e) ho'⟩⟩, st.trans x.stat, fun t ht => ?_, hb⟩
  · rcases x.old.old b o e with y | ⟨t, hc, vs, more, hv, y⟩ | ⟨rfl, hc, ⟨o', es, n, ho', r⟩, z⟩
    · exact .inl (k _ _ (lt e) y)
    · exact .inr (.inl ⟨t, hc, vs, more, hv, k _ _ (lt e) y⟩)
    · exact .inr (.inr ⟨rfl, hc, ⟨o', es, n, k _ _ (lt e) ho', r⟩, fun key => by rw [OldK.staticOf_congr st key]; exact z key⟩)
  · obtain ⟨c₀, ps₀, ps, h1, h2, ⟨o2, vs2, file, tf, flags, tg, inF, text, tt, op, a2, r1, r2, r3, r4, r5, r6, b2, r7⟩, h4⟩ := x.tabs t ht
    have h2' := h2
    obtain ⟨⟨o, vs, a, b, r⟩, tp⟩ := h2
    have hP := (G.tlt t ht).1
    have hc := (G.tlt t ht).2.2
    refine ⟨c₀, ps₀, ps, h1, ⟨⟨o, vs, k _ _ hc a, b, r⟩, k _ _ hP tp⟩, ⟨o2, vs2, file, tf, flags, tg, inF, text, tt, op, k _ _ hc a2, r1, r2, r3, r4, r5, r6, k _ _ hP b2, r7⟩, ?_⟩
    rcases h4 with h4 | ⟨c', e, o, vs, tk, g, hcl, r⟩
    · exact .inl h4
    · exact .inr ⟨c', e, o, vs, tk, kn _ _ ⟨t, ht, _, ps, h2', e⟩ g, hcl, r⟩
/-- what a table names is a code -/
theorem named (x : G.Ok s) {c' : Addr} (n : Named G s c') : ∃ o vs, s.heap.get? c' = some o ∧ o.cls = .type "code" ∧ o.data = .fields vs := by
  obtain ⟨t, ht, c, ps, ⟨_, tp⟩, e⟩ := n
  obtain ⟨c₀, ps₀, ps', h1, ⟨_, tp'⟩, _, h4⟩ := x.tabs t ht
  have : ps = ps' := by
    have z := Option.some.inj (tp.symm.trans tp')
    injection z with _ _ z _
    injection z
  subst this
  rcases h4 with h4 | ⟨c'', e', o, vs, tk, g, hcl, r⟩
  · rw [e] at h4; cases h4
  · rw [e] at e'; cases e'; exact ⟨o, vs, g, hcl, r.1⟩
/-- what turns is new, and no code -/
theorem step (x : G.Ok s) (k : ∀ b o, (b < G.h₀.objs.size ∨ (o.cls = .type "code" ∧ ∃ vs, o.data = .fields vs)) → s.heap.get? b = some o → s'.heap.get? b = some o) (hb : AllBare s'.gens) : G.Ok s' :=
  x.step' (fun b o l e => k b o (.inl l) e) (fun b o n e => by
    obtain ⟨o', vs, g, hc, hd⟩ := x.named n
    rw [e] at g; cases g
    exact k b o (.inr ⟨hc, vs, hd⟩) e) hb
end Gl.Ok

/-- the generators stay, more may come -/
def GX (fl : Bool) (a b : Array GenState) : Prop := if fl then ∀ (i : Nat) (g : GenState), a[i]? = some g → b[i]? = some g else b = a
theorem GX.refl (fl : Bool) (a : Array GenState) : GX fl a a := by cases fl <;> simp [GX]
theorem GX.trans {fl : Bool} {a b c : Array GenState} (x : GX fl a b) (y : GX fl b c) : GX fl a c := by
  cases fl
  · simp only [GX, Bool.false_eq_true, if_false] at *; rw [y, x]
  · simp only [GX, if_true] at *; exact fun i g e => y i g (x i g e)
theorem GX.up {a b : Array GenState} {fl : Bool} (x : GX fl a b) : GX true a b := by
  cases fl
  · simp only [GX, Bool.false_eq_true, if_false, if_true] at *; subst x; exact fun _ _ e => e
  · exact x

structure Step (G : Gl) (fl : Bool) (X : List Addr) (s s' : Shared) : Prop where
  keep : ∀ b o, b ∉ X → s.heap.get? b = some o → s'.heap.get? b = some o
  ok : G.Ok s → G.Ok s'
  gens : GX fl s.gens s'.gens
  drawn : s'.drawn = s.drawn
  os : s'.os = s.os

namespace Step
variable {G : Gl} {fl : Bool} {X Y : List Addr} {s s' s'' : Shared}
theorem refl : Step G fl X s s := ⟨fun _ _ _ e => e, id, GX.refl _ _, rfl, rfl⟩
theorem trans (x : Step G fl X s s') (y : Step G fl X s' s'') : Step G fl X s s'' :=
  ⟨fun b o n e => y.keep b o n (x.keep b o n e), fun h => y.ok (x.ok h), x.gens.trans y.gens, y.drawn.trans x.drawn, y.os.trans x.os⟩
theorem more (x : Step G fl X s s') (h : ∀ a, a ∈ X → a ∈ Y) : Step G fl Y s s' := ⟨fun b o n e => x.keep b o (fun m => n (h b m)) e, x.ok, x.gens, x.drawn, x.os⟩
/-- what turned did not stand before -/
theorem less (x : Step G fl X s s') (h : ∀ a o, a ∈ X → s.heap.get? a = some o → a ∈ Y) : Step G fl Y s s' := ⟨fun b o n e => x.keep b o (fun m => n (h b o m e)) e, x.ok, x.gens, x.drawn, x.os⟩
theorem up (x : Step G fl X s s') : Step G true X s s' := ⟨x.keep, x.ok, x.gens.up, x.drawn, x.os⟩
theorem toks {t : Nat} : Step G fl X s { s with toks := t } := ⟨fun _ _ _ e => e, fun h => h.step (fun _ _ _ e => e) h.bare, GX.refl _ _, rfl, rfl⟩
theorem heap {h' : Heap} {t : Nat} (k : ∀ b o, s.heap.get? b = some o → h'.get? b = some o) : Step G fl X s { s with heap := h', toks := t } :=
  ⟨fun b o _ e => k b o e, fun h => h.step (fun b o _ e => k b o e) h.bare, GX.refl _ _, rfl, rfl⟩
theorem push {o : Obj} {t : Nat} : Step G fl X s { s with heap := s.heap.push o, toks := t } := heap fun _ _ e => Heap.get?_push_of_some o e
/-- one new object, no code, turns -/
theorem but {a : Addr} {h' : Heap} {t : Nat} (ha : a ∈ X) (hn : G.h₀.objs.size ≤ a) (hc : ∀ o, s.heap.get? a = some o → o.cls = .type "code" → ∀ vs, o.data ≠ .fields vs)
    (k : ∀ b o, b ≠ a → s.heap.get? b = some o → h'.get? b = some o) : Step G fl X s { s with heap := h', toks := t } := by
  refine ⟨fun b o n e => k b o (fun q => n (q ▸ ha)) e, fun h => h.step (fun b o q e => k b o (fun z => ?_) e) h.bare, GX.refl _ _, rfl, rfl⟩
  subst z
  rcases q with q | q
  · exact Nat.lt_irrefl _ (Nat.lt_of_lt_of_le q hn)
  · exact hc o e q.1 q.2.choose q.2.choose_spec
theorem keeps (x : Step G false [] s s') : Keeps s s' := by
  obtain ⟨k, _, g, d, o⟩ := x
  simp only [GX, Bool.false_eq_true, if_false] at g
  obtain ⟨h, gs, dr, tk, os⟩ := s
  obtain ⟨h', gs', dr', tk', os'⟩ := s'
  simp only at k g d o
  subst g d o
  exact ⟨h', tk', rfl, fun b o e => k b o (by simp) e⟩
end Step
end
section

structure Fx where
  G : Gl
  A : Around
  env : Env
  own : List Addr
  cells : List Str
  fl : Bool
def Fx.T (c : Fx) : List Addr := if c.fl then c.G.T else []
abbrev Fx.M (c : Fx) : Model := model c.G.prog c.G.w

structure St where
  loc : List (Str × AV)
  cel : List (Str × AV)

structure Sat (c : Fx) (σ : St) (X : List Addr) (s : Shared) : Prop where
  ok : c.G.Ok s
  tabs : ∀ t ∈ c.G.T, t ∈ X
  own : ∀ a ∈ c.own, a ∈ X ∧ c.G.h₀.objs.size ≤ a
  live : ∀ a ∈ X, ∃ o, s.heap.get? a = some o
  L : c.env.locals ∈ c.own
  loc : ∃ m, s.heap.Ns c.env.locals m ∧ ∀ x P, (x, P) ∈ σ.loc → ∃ v, m x = some v ∧ P.p v (view X s.heap)
  cel : ∀ x P, (x, P) ∈ σ.cel → ∃ a v, c.env.cells.lookup x = some a ∧ c.G.h₀.objs.size ≤ a ∧ s.heap.IsCell a (some v) ∧ P.p v (view X s.heap)
  put : ∀ x ∈ c.cells, ∃ a v, c.env.cells.lookup x = some a ∧ a ∈ c.own ∧ s.heap.IsCell a v
  inj : ∀ x y a, c.env.cells.lookup x = some a → c.env.cells.lookup y = some a → x = y

theorem mem_T {c : Fx} {a : Addr} (h : a ∈ c.T) : a ∈ c.G.T := by
  unfold Fx.T at h
  split at h
  · exact h
  · cases h
theorem T_lt {G : Gl} {a : Addr} (h : a ∈ G.T) : a < G.h₀.objs.size := by
  obtain ⟨t, ht, rfl⟩ := List.mem_map.mp h
  exact (G.tlt t ht).1

theorem cell_keeps {h h' : Heap} {a : Addr} {v : Option Value} (k : ∀ o, h.get? a = some o → h'.get? a = some o) (x : h.IsCell a v) : h'.IsCell a v := let ⟨o, g, d⟩ := x; ⟨o, k _ g, d⟩
theorem ns_keeps {h h' : Heap} {a : Addr} {m : Str → Option Value} (k : ∀ o, h.get? a = some o → h'.get? a = some o) (x : h.Ns a m) : h'.Ns a m := let ⟨o, es, ep, g, r⟩ := x; ⟨o, es, ep, k _ g, r⟩

namespace Sat
variable {c : Fx} {σ : St} {X : List Addr} {s s' : Shared}
theorem notT (x : Sat c σ X s) {a : Addr} (h : a ∈ c.own) : a ∉ c.T := fun m => Nat.lt_irrefl _ (Nat.lt_of_lt_of_le (T_lt (mem_T m)) (x.own a h).2)
theorem view (x : Sat c σ X s) (k : Step c.G c.fl c.T s s') (b : Addr) (o : Obj) (e : (view X s.heap).get? b = some o) : (Mine.view X s'.heap).get? b = some o :=
  view_keep (fun b m => x.tabs b (mem_T m)) k.keep b o e
theorem Lget (x : Sat c σ X s) : ∃ o, s.heap.get? c.env.locals = some o := let ⟨_, ⟨o, _, _, e, _⟩, _⟩ := x.loc; ⟨o, e⟩
theorem T_ex {G : Gl} (ok : G.Ok s) {a : Addr} (h : a ∈ G.T) : ∃ o, s.heap.get? a = some o := by
  obtain ⟨t, ht, rfl⟩ := List.mem_map.mp h
  obtain ⟨c₀, ps₀, ps, h1, ⟨_, tp⟩, _⟩ := ok.tabs t ht
  exact ⟨_, tp⟩
theorem live' (x : Sat c σ X s) (k : Step c.G c.fl c.T s s') {a : Addr} (h : a ∈ X) : ∃ o, s'.heap.get? a = some o := by
  by_cases m : a ∈ c.T
  · exact T_ex (k.ok x.ok) (mem_T m)
  · obtain ⟨o, e⟩ := x.live a h; exact ⟨o, k.keep _ _ m e⟩
theorem step (x : Sat c σ X s) (k : Step c.G c.fl c.T s s') : Sat c σ X s' := by
  have kL : ∀ o, s.heap.get? c.env.locals = some o → s'.heap.get? c.env.locals = some o := fun o e => k.keep _ _ (x.notT x.L) e
  refine ⟨k.ok x.ok, x.tabs, x.own, fun a h => x.live' k h, x.L, ?_, fun y P h => ?_, fun y h => ?_, x.inj⟩
  · obtain ⟨m, n, h⟩ := x.loc
    exact ⟨m, ns_keeps kL n, fun y P hy => let ⟨v, e, hp⟩ := h y P hy; ⟨v, e, P.mono (x.view k) hp⟩⟩
  · obtain ⟨a, v, e, l, g, hp⟩ := x.cel y P h
    exact ⟨a, v, e, l, cell_keeps (fun o q => k.keep _ _ (fun m => Nat.lt_irrefl _ (Nat.lt_of_lt_of_le (T_lt (mem_T m)) l)) q) g, P.mono (x.view k) hp⟩
  · obtain ⟨a, v, e, l, g⟩ := x.put y h
    exact ⟨a, v, e, l, cell_keeps (fun o q => k.keep _ _ (x.notT l) q) g⟩
theorem weaken {τ : St} (x : Sat c σ X s) (h1 : ∀ p, p ∈ τ.loc → p ∈ σ.loc) (h2 : ∀ p, p ∈ τ.cel → p ∈ σ.cel) : Sat c τ X s :=
  ⟨x.ok, x.tabs, x.own, x.live, x.L, let ⟨m, n, h⟩ := x.loc; ⟨m, n, fun y P hy => h y P (h1 _ hy)⟩, fun y P hy => x.cel y P (h2 _ hy), x.put, x.inj⟩
theorem new_off (x : Sat c σ X s) {a : Addr} (h : s.heap.objs.size ≤ a) : a ∉ X := fun m => by
  obtain ⟨o, e⟩ := x.live a m
  exact Nat.lt_irrefl _ (Nat.lt_of_lt_of_le (Heap.lt_size e) h)
end Sat
/-- what is private is there -/
def Priv (G : Gl) (X : List Addr) (s : Shared) : Prop := (∀ t ∈ G.T, t ∈ X) ∧ ∀ a ∈ X, ∃ o, s.heap.get? a = some o
theorem Sat.priv {c : Fx} {σ : St} {X : List Addr} {s : Shared} (x : Sat c σ X s) : Priv c.G X s := ⟨x.tabs, x.live⟩

/-- an expression's value -/
def Ev (c : Fx) (σ : St) (e : Expr) (P : AV) : Prop :=
  ∀ X s, Sat c σ X s → ∀ (Q E : Value → Shared → Prop), (∀ v s', Step c.G c.fl c.T s s' → P.p v (view X s'.heap) → Q v s') → wpAny c.M c.A (eval e c.env) Q E s
/-- a test's outcome -/
def Tr (c : Fx) (σ : St) (e : Expr) (b : Bool) : Prop :=
  ∀ X s, Sat c σ X s → ∀ (Q : Bool → Shared → Prop) (E : Value → Shared → Prop), (∀ s', Step c.G c.fl c.T s s' → Q b s') → wpAny c.M c.A (isTrue e c.env (eval e c.env)) Q E s
/-- statements that end and go on -/
def Nx (c : Fx) (σ : St) (l : List Stmt) (τ : St) : Prop :=
  ∀ X s, Sat c σ X s → ∀ (Q : Flow → Shared → Prop) (E : Value → Shared → Prop), (∀ s', Step c.G c.fl (c.own ++ c.T) s s' → Sat c τ X s' → Q .next s') → wpAny c.M c.A (execs l c.env) Q E s
def Nx1 (c : Fx) (σ : St) (l : Stmt) (τ : St) : Prop :=
  ∀ X s, Sat c σ X s → ∀ (Q : Flow → Shared → Prop) (E : Value → Shared → Prop), (∀ s', Step c.G c.fl (c.own ++ c.T) s s' → Sat c τ X s' → Q .next s') → wpAny c.M c.A (exec l c.env) Q E s
/-- statements that return -/
def Rt (c : Fx) (σ : St) (l : List Stmt) (P : AV) : Prop :=
  ∀ X s, Sat c σ X s → ∀ (Q : Flow → Shared → Prop) (E : Value → Shared → Prop), (∀ v s', Step c.G c.fl (c.own ++ c.T) s s' → P.p v (view X s'.heap) → Q (.ret v) s') → wpAny c.M c.A (execs l c.env) Q E s
def Rt1 (c : Fx) (σ : St) (l : Stmt) (P : AV) : Prop :=
  ∀ X s, Sat c σ X s → ∀ (Q : Flow → Shared → Prop) (E : Value → Shared → Prop), (∀ v s', Step c.G c.fl (c.own ++ c.T) s s' → P.p v (view X s'.heap) → Q (.ret v) s') → wpAny c.M c.A (exec l c.env) Q E s

section
variable {c : Fx} {σ τ : St} {P : AV}
theorem T_own {c : Fx} : ∀ a, a ∈ c.T → a ∈ c.own ++ c.T := fun _ h => List.mem_append_right _ h
theorem own_own {c : Fx} : ∀ a, a ∈ c.own → a ∈ c.own ++ c.T := fun _ h => List.mem_append_left _ h

theorem Nx.nil : Nx c σ [] σ := fun _ _ x _ _ h => wpAny_execs_nil (h _ .refl x)
theorem Nx.cons {ρ : St} {st : Stmt} {l : List Stmt} (a : Nx1 c σ st τ) (b : Nx c τ l ρ) : Nx c σ (st :: l) ρ := fun X s x Q E h =>
  wpAny_execs_cons (a X s x _ _ fun s' k y => b X s' y _ _ fun s'' k' z => h s'' (k.trans k') z)
theorem Rt.cons {st : Stmt} {l : List Stmt} (a : Nx1 c σ st τ) (b : Rt c τ l P) : Rt c σ (st :: l) P := fun X s x Q E h =>
  wpAny_execs_cons (a X s x _ _ fun s' k y => b X s' y _ _ fun v s'' k' z => h v s'' (k.trans k') z)
theorem Rt.here {st : Stmt} {l : List Stmt} (a : Rt1 c σ st P) : Rt c σ (st :: l) P := fun X s x Q E h =>
  wpAny_execs_cons (a X s x _ _ fun v s' k y => h v s' k y)
theorem Rt1.ret {e : Expr} {pos : Pos} (a : Ev c σ e P) : Rt1 c σ (.Return (some e) pos) P := fun X s x Q E h =>
  wpAny_Return_some (a X s x _ _ fun v s' k y => h v s' (k.more T_own) y)
theorem Nx1.if_t {t : Expr} {b o : List Stmt} {pos : Pos} (a : Tr c σ t true) (n : Nx c σ b τ) : Nx1 c σ (.If t b o pos) τ := fun X s x Q E h =>
  wpAny_If (a X s x _ _ fun s' k => by
    rw [if_pos rfl]
    exact n X s' (x.step k) _ _ fun s'' k' y => h s'' ((k.more T_own).trans k') y)
theorem Nx1.if_f {t : Expr} {b o : List Stmt} {pos : Pos} (a : Tr c σ t false) (n : Nx c σ o τ) : Nx1 c σ (.If t b o pos) τ := fun X s x Q E h =>
  wpAny_If (a X s x _ _ fun s' k => by
    rw [if_neg Bool.false_ne_true]
    exact n X s' (x.step k) _ _ fun s'' k' y => h s'' ((k.more T_own).trans k') y)
theorem Rt1.if_t {t : Expr} {b o : List Stmt} {pos : Pos} (a : Tr c σ t true) (n : Rt c σ b P) : Rt1 c σ (.If t b o pos) P := fun X s x Q E h =>
  wpAny_If (a X s x _ _ fun s' k => by
    rw [if_pos rfl]
    exact n X s' (x.step k) _ _ fun v s'' k' y => h v s'' ((k.more T_own).trans k') y)
theorem Rt1.if_f {t : Expr} {b o : List Stmt} {pos : Pos} (a : Tr c σ t false) (n : Rt c σ o P) : Rt1 c σ (.If t b o pos) P := fun X s x Q E h =>
  wpAny_If (a X s x _ _ fun s' k => by
    rw [if_neg Bool.false_ne_true]
    exact n X s' (x.step k) _ _ fun v s'' k' y => h v s'' ((k.more T_own).trans k') y)
theorem Nx1.pass {pos : Pos} : Nx1 c σ (.Pass pos) σ := fun _ _ x _ _ h => wpAny_Pass (h _ .refl x)
theorem Nx1.assert_t {t : Expr} {msg : Option Expr} {pos : Pos} (a : Tr c σ t true) : Nx1 c σ (.Assert t msg pos) σ := fun X s x Q E h =>
  wpAny_Assert_holds (a X s x _ _ fun s' k => ⟨rfl, h s' (k.more T_own) (x.step k)⟩)

/-! ### names -/
def putA (x : Str) (P : AV) : List (Str × AV) → List (Str × AV)
  | [] => [(x, P)]
  | p :: r => if p.1 = x then (x, P) :: r.filter (fun q => decide (q.1 ≠ x)) else p :: putA x P r
theorem putA_mem {x : Str} {P : AV} : ∀ {l : List (Str × AV)} {p}, p ∈ putA x P l → p = (x, P) ∨ (p ∈ l ∧ p.1 ≠ x)
  | [], p, h => .inl (by simpa [putA] using h)
  | q :: r, p, h => by
    unfold putA at h
    split at h
    · rcases List.mem_cons.mp h with h | h
      · exact .inl h
      · have := List.mem_filter.mp h
        exact .inr ⟨.tail _ this.1, by simpa using this.2⟩
    · rename_i n
      rcases List.mem_cons.mp h with h | h
      · subst h; exact .inr ⟨.head _, n⟩
      · rcases putA_mem h with h | ⟨h, n'⟩
        · exact .inl h
        · exact .inr ⟨.tail _ h, n'⟩
def St.put (σ : St) (x : Str) (P : AV) : St := { σ with loc := putA x P σ.loc }
def St.putC (σ : St) (x : Str) (P : AV) : St := { σ with cel := putA x P σ.cel }

theorem store_loc1 {X : List Addr} {s : Shared} {x : Str} {v : Value} {Q : Unit → Shared → Prop} {E : Value → Shared → Prop} (S : Sat c σ X s) (hp : P.p v (view X s.heap))
    (h : ∀ s', Step c.G c.fl [c.env.locals] s s' → Sat c (σ.put x P) X s' → Q () s')
    (hk : c.env.scope.kind = .function) (hl : c.env.kindOf x = some .local) : wpAny c.M c.A (storeName c.env x v) Q E s := by
  obtain ⟨m, n, hm⟩ := S.loc
  refine wpAny_storeName_local hl n (fun h' n' sb => ?_) (by rw [hk]; rfl)
  have kL : ∀ b o, b ≠ c.env.locals → s.heap.get? b = some o → h'.get? b = some o := fun b o q e => (sb.2 b q).trans e
  have st : Step c.G c.fl [c.env.locals] s { s with heap := h', toks := s.toks + 1 } := Step.but (.head _) (S.own _ S.L).2 (fun o e _ vs d => by obtain ⟨o', _, _, e', d', _⟩ := n; rw [e] at e'; cases e'; rw [d] at d'; cases d') kL
  have vw : ∀ b o, (view X s.heap).get? b = some o → (view X h').get? b = some o :=
    view_keep (Y := [c.env.locals]) (fun b q => by rw [List.mem_singleton.mp q]; exact (S.own _ S.L).1) fun b o q e => kL b o (fun z => q (by rw [z]; exact .head _)) e
  obtain ⟨oL, esL, epL, eL, dL, _⟩ := n
  have cne : ∀ {a o v}, s.heap.get? a = some o → o.data = .cell v → a ≠ c.env.locals := fun e d q => by
    rw [q, eL] at e; cases e; rw [dL] at d; cases d
  refine h _ st ⟨st.ok S.ok, S.tabs, S.own, fun a ha => ?_, S.L, ⟨_, n', fun y P' hy => ?_⟩, fun y P' hy => ?_, fun y hy => ?_, S.inj⟩
  · by_cases z : a = c.env.locals
    · obtain ⟨o, _, _, e, _⟩ := n'; exact ⟨o, z ▸ e⟩
    · obtain ⟨o, e⟩ := S.live a ha; exact ⟨o, kL _ _ z e⟩
  · rcases putA_mem hy with q | ⟨q, ne⟩
    · cases q; exact ⟨v, by simp, P.mono vw hp⟩
    · obtain ⟨u, e, hp'⟩ := hm y P' q
      exact ⟨u, by simp only [ne, if_false]; exact e, P'.mono vw hp'⟩
  · obtain ⟨a, u, e, l, g, hp'⟩ := S.cel y P' hy
    refine ⟨a, u, e, l, ?_, P'.mono vw hp'⟩
    obtain ⟨o, g, d⟩ := g
    exact ⟨o, kL _ _ (cne g d) g, d⟩
  · obtain ⟨a, u, e, l, o, g, d⟩ := S.put y hy
    exact ⟨a, u, e, l, o, kL _ _ (cne g d) g, d⟩

theorem store_loc {X : List Addr} {s : Shared} {x : Str} {v : Value} {Q : Unit → Shared → Prop} {E : Value → Shared → Prop} (S : Sat c σ X s) (hp : P.p v (view X s.heap))
    (h : ∀ s', Step c.G c.fl (c.own ++ c.T) s s' → Sat c (σ.put x P) X s' → Q () s')
    (hk : c.env.scope.kind = .function) (hl : c.env.kindOf x = some .local) : wpAny c.M c.A (storeName c.env x v) Q E s :=
  store_loc1 S hp (fun s' k => h s' (k.more fun a m => by rw [List.mem_singleton.mp m]; exact own_own _ S.L)) hk hl

theorem store_cell {X : List Addr} {s : Shared} {x : Str} {v : Value} {Q : Unit → Shared → Prop} {E : Value → Shared → Prop} (S : Sat c σ X s) (hp : P.p v (view X s.heap))
    (h : ∀ s', Step c.G c.fl (c.own ++ c.T) s s' → Sat c (σ.putC x P) X s' → Q () s')
    (hk : c.env.scope.kind = .function) (hl : c.env.kindOf x = some .cell) (hx : x ∈ c.cells) : wpAny c.M c.A (storeName c.env x v) Q E s := by
  obtain ⟨a, v₀, ea, ha, hc⟩ := S.put x hx
  refine wpAny_storeName_cell hk hl ea hc (fun h' hc' sb => ?_)
  have kL : ∀ b o, b ≠ a → s.heap.get? b = some o → h'.get? b = some o := fun b o q e => (sb.2 b q).trans e
  have st : Step c.G c.fl (c.own ++ c.T) s { s with heap := h' } := Step.but (t := s.toks) (own_own _ ha) (S.own _ ha).2 (fun o e _ vs d => by obtain ⟨o', e', d'⟩ := hc; rw [e] at e'; cases e'; rw [d] at d'; cases d') kL
  have vw : ∀ b o, (view X s.heap).get? b = some o → (view X h').get? b = some o :=
    view_keep (Y := [a]) (fun b q => by rw [List.mem_singleton.mp q]; exact (S.own _ ha).1) fun b o q e => kL b o (fun z => q (by rw [z]; exact .head _)) e
  obtain ⟨m, n, hm⟩ := S.loc
  have aL : c.env.locals ≠ a := fun q => by
    obtain ⟨oL, esL, epL, eL, dL, _⟩ := n
    obtain ⟨o', e', d'⟩ := hc
    rw [q, e'] at eL; cases eL; rw [d'] at dL; cases dL
  refine h _ st ⟨st.ok S.ok, S.tabs, S.own, fun b hb => ?live, S.L, ⟨m, ns_keeps (fun o e => kL _ _ aL e) n, fun y P' hy => let ⟨u, e, hp'⟩ := hm y P' hy; ⟨u, e, P'.mono vw hp'⟩⟩, fun y P' hy => ?_, fun y hy => ?_, S.inj⟩
  case live =>
    by_cases z : b = a
    · obtain ⟨o, e, _⟩ := hc'; exact ⟨o, z ▸ e⟩
    · obtain ⟨o, e⟩ := S.live b hb; exact ⟨o, kL _ _ z e⟩
  · rcases putA_mem hy with q | ⟨q, ne⟩
    · cases q
      exact ⟨a, v, ea, (S.own _ ha).2, hc', P.mono vw hp⟩
    · obtain ⟨a', u, e, l, g, hp'⟩ := S.cel y P' q
      have : a' ≠ a := fun z => ne (S.inj _ _ a (z ▸ e) ea)
      exact ⟨a', u, e, l, cell_keeps (fun o e => kL _ _ this e) g, P'.mono vw hp'⟩
  · obtain ⟨a', u, e, l, g⟩ := S.put y hy
    by_cases z : a' = a
    · exact ⟨a, some v, z ▸ e, z ▸ l, hc'⟩
    · exact ⟨a', u, e, l, cell_keeps (fun o e => kL _ _ z e) g⟩
theorem Nx1.assign {x : Str} {xp pos : Pos} {e : Expr} (he : Ev c σ e P) (hk : c.env.scope.kind = .function) (hl : c.env.kindOf x = some .local) (hs : swapsWith e (some (.Name x xp)) pos.line c.env = pure false) : Nx1 c σ (.Assign [.Name x xp] e pos) (σ.put x P) := fun X s S Q E h =>
  wpAny_Assign_Name (he X s S _ _ fun v s₁ k₁ p₁ => store_loc (S.step k₁) p₁ (fun s₂ k₂ S₂ => h s₂ ((k₁.more T_own).trans k₂) S₂) hk hl) hs
theorem Nx1.assignC {x : Str} {xp pos : Pos} {e : Expr} (he : Ev c σ e P) (hk : c.env.scope.kind = .function) (hl : c.env.kindOf x = some .cell) (hx : x ∈ c.cells) (hs : swapsWith e (some (.Name x xp)) pos.line c.env = pure false) : Nx1 c σ (.Assign [.Name x xp] e pos) (σ.putC x P) := fun X s S Q E h =>
  wpAny_Assign_Name (he X s S _ _ fun v s₁ k₁ p₁ => store_cell (S.step k₁) p₁ (fun s₂ k₂ S₂ => h s₂ ((k₁.more T_own).trans k₂) S₂) hk hl hx) hs
end
end
section

/-- values, each as told -/
def AllP : List AV → List Value → Heap → Prop
  | [], [], _ => True
  | P :: Ps, v :: vs, h => P.p v h ∧ AllP Ps vs h
  | _, _, _ => False
theorem AllP.mono : ∀ {Ps : List AV} {vs : List Value} {h h' : Heap}, (∀ b o, h.get? b = some o → h'.get? b = some o) → AllP Ps vs h → AllP Ps vs h'
  | [], [], _, _, _, x => x
  | P :: Ps, v :: vs, _, _, k, ⟨a, b⟩ => ⟨P.mono k a, AllP.mono k b⟩
  | [], _ :: _, _, _, _, x => x.elim
  | _ :: _, [], _, _, _, x => x.elim
/-- a step of the machine upon one value, upon two -/
def Op1 (c : Fx) (σ : St) (f : Value → Sem Value) (P R : AV) : Prop :=
  ∀ X s a, Sat c σ X s → P.p a (view X s.heap) → ∀ (Q E : Value → Shared → Prop), (∀ v s', Step c.G c.fl c.T s s' → R.p v (view X s'.heap) → Q v s') → wpAny c.M c.A (f a) Q E s
def Op2 (c : Fx) (σ : St) (f : Value → Value → Sem Value) (P P' R : AV) : Prop :=
  ∀ X s a b, Sat c σ X s → P.p a (view X s.heap) → P'.p b (view X s.heap) → ∀ (Q E : Value → Shared → Prop), (∀ v s', Step c.G c.fl c.T s s' → R.p v (view X s'.heap) → Q v s') → wpAny c.M c.A (f a b) Q E s
/-- the truth of a value -/
def TrV (c : Fx) (σ : St) (P : AV) (b : Bool) : Prop :=
  ∀ X s a, Sat c σ X s → P.p a (view X s.heap) → ∀ (Q : Bool → Shared → Prop) (E : Value → Shared → Prop), (∀ s', Step c.G c.fl c.T s s' → Q b s') → wpAny c.M c.A (truthy a) Q E s

section
variable {c : Fx} {σ τ : St} {P P' R : AV}

theorem Ev.bin {l r : Expr} {op : Operator} {pos : Pos} (hl : Ev c σ l P) (hr : Ev c σ r P') (h : Op2 c σ (binaryOp op) P P' R) : Ev c σ (.BinOp l op r pos) R := fun X s S Q E q =>
  wpAny_BinOp (hl X s S _ _ fun a s₁ k₁ p₁ => hr X s₁ (S.step k₁) _ _ fun b s₂ k₂ p₂ =>
    h X s₂ a b (S.step (k₁.trans k₂)) (P.mono ((S.step k₁).view k₂) p₁) p₂ _ _ fun v s₃ k₃ p₃ => q v s₃ ((k₁.trans k₂).trans k₃) p₃)
theorem Ev.un {x : Expr} {op : UnaryOp} {pos : Pos} (hx : Ev c σ x P) (h : Op1 c σ (unaryOp op) P R) : Ev c σ (.UnaryOp op x pos) R := fun X s S Q E q =>
  wpAny_UnaryOp (hx X s S _ _ fun a s₁ k₁ p₁ => h X s₁ a (S.step k₁) p₁ _ _ fun v s₂ k₂ p₂ => q v s₂ (k₁.trans k₂) p₂)
theorem Ev.cmp {l r : Expr} {op : CmpOp} {pos : Pos} (hl : Ev c σ l P) (hr : Ev c σ r P') (h : Op2 c σ (compareOp op) P P' R) (hm : behindInMarks op r = false := by with_unfolding_all rfl) : Ev c σ (.Compare l [op] [r] pos) R := fun X s S Q E q =>
  wpAny_Compare1 (hl X s S _ _ fun a s₁ k₁ p₁ => hr X s₁ (S.step k₁) _ _ fun b s₂ k₂ p₂ =>
    h X s₂ a b (S.step (k₁.trans k₂)) (P.mono ((S.step k₁).view k₂) p₁) p₂ _ _ fun v s₃ k₃ p₃ => q v s₃ ((k₁.trans k₂).trans k₃) p₃) hm
theorem TrV.bool {b : Bool} : TrV c σ (aBool b) b := fun X s a S p Q E q => by
  have e : a = .bool b := p
  subst e; exact wpAny_truthy_bool (q s .refl)
theorem Tr.cmp {l r : Expr} {op : CmpOp} {pos : Pos} {b : Bool} (hl : Ev c σ l P) (hr : Ev c σ r P') (h : Op2 c σ (compareOp op) P P' (aBool b)) (hm : behindInMarks op r = false := by with_unfolding_all rfl) : Tr c σ (.Compare l [op] [r] pos) b := fun X s S Q E q =>
  wpAny_isTrue_Compare1 (hl X s S _ _ fun a s₁ k₁ p₁ => hr X s₁ (S.step k₁) _ _ fun b s₂ k₂ p₂ =>
    h X s₂ a b (S.step (k₁.trans k₂)) (P.mono ((S.step k₁).view k₂) p₁) p₂ _ _ fun v s₃ k₃ p₃ => TrV.bool X s₃ v (S.step ((k₁.trans k₂).trans k₃)) p₃ _ _ fun s₄ k₄ => q s₄ (((k₁.trans k₂).trans k₃).trans k₄)) hm
theorem Tr.not {x : Expr} {pos : Pos} {b : Bool} (h : Tr c σ x b) : Tr c σ (.UnaryOp .Not x pos) (!b) := fun X s S Q E q => wpAny_isTrue_Not (h X s S _ _ fun s' k => q s' k)
theorem Tr.val {e : Expr} {b : Bool} (h : Ev c σ e P) (t : TrV c σ P b) (he : isTrue e c.env (eval e c.env) = (do let v ← eval e c.env; standAt e.pos; holding [v] (truthy v)) := by rfl) : Tr c σ e b := fun X s S Q E q =>
  wpAny_isTrue_value (h X s S _ _ fun v s₁ k₁ p₁ => t X s₁ v (S.step k₁) p₁ _ _ fun s₂ k₂ => q s₂ (k₁.trans k₂)) he
theorem Tr.or_t {x : Expr} {r : List Expr} {pos : Pos} (h : Tr c σ x true) : Tr c σ (.BoolOp .Or (x :: r) pos) true := fun X s S Q E q =>
  wpAny_isTrue_BoolOp (wpAny_allTrue_Or_cons (h X s S _ _ fun s' k => by rw [if_pos rfl]; exact q s' k))
theorem Tr.or_f {x y : Expr} {pos : Pos} (h : Tr c σ x false) (h' : Tr c σ y false) : Tr c σ (.BoolOp .Or [x, y] pos) false := fun X s S Q E q =>
  wpAny_isTrue_BoolOp (wpAny_allTrue_Or_cons (h X s S _ _ fun s₁ k₁ => by
    rw [if_neg Bool.false_ne_true]
    exact wpAny_allTrue_Or_cons (h' X s₁ (S.step k₁) _ _ fun s₂ k₂ => by
      rw [if_neg Bool.false_ne_true]
      exact wpAny_allTrue_Or_nil (q s₂ (k₁.trans k₂)))))
theorem Ev.ife_t {t b o : Expr} {pos : Pos} (h : Tr c σ t true) (hb : Ev c σ b P) : Ev c σ (.IfExp t b o pos) P := fun X s S Q E q =>
  wpAny_IfExp (h X s S _ _ fun s₁ k₁ => by rw [if_pos rfl]; exact hb X s₁ (S.step k₁) _ _ fun v s₂ k₂ p => q v s₂ (k₁.trans k₂) p)
theorem Ev.ife_f {t b o : Expr} {pos : Pos} (h : Tr c σ t false) (hb : Ev c σ o P) : Ev c σ (.IfExp t b o pos) P := fun X s S Q E q =>
  wpAny_IfExp (h X s S _ _ fun s₁ k₁ => by rw [if_neg Bool.false_ne_true]; exact hb X s₁ (S.step k₁) _ _ fun v s₂ k₂ p => q v s₂ (k₁.trans k₂) p)

/-! ### leaves -/
theorem Ev.intC {i : Int} {k : Nat} {pos : Pos} : Ev c σ (.Constant (.int i) k pos) (aInt i) := fun X s S Q E q => wpAny_Constant_int (q _ _ .toks ⟨_, rfl⟩)
theorem Ev.boolC {b : Bool} {k : Nat} {pos : Pos} : Ev c σ (.Constant (.bool b) k pos) (aBool b) := fun X s S Q E q => wpAny_Constant_bool (q _ _ .refl rfl)
theorem Ev.noneC {k : Nat} {pos : Pos} : Ev c σ (.Constant .none k pos) aNone := fun X s S Q E q => wpAny_Constant_none (q _ _ .refl rfl)
theorem Ev.loc {x : Str} {pos : Pos} (h : (x, P) ∈ σ.loc) (hl : c.env.kindOf x = some .local) (hk : c.env.scope.kind = .function) (hd : (x == ("__debug__" : Str)) = false) : Ev c σ (.Name x pos) P := fun X s S Q E q => by
  obtain ⟨m, n, hm⟩ := S.loc
  obtain ⟨v, e, hp⟩ := hm x P h
  exact wpAny_Name (wpAny_loadName_local hk hl n e (q v s .refl hp)) hd
theorem Ev.cell {x : Str} {pos : Pos} (h : (x, P) ∈ σ.cel) (hl : c.env.kindOf x = some .cell) (hk : c.env.scope.kind = .function) (hd : (x == ("__debug__" : Str)) = false) : Ev c σ (.Name x pos) P := fun X s S Q E q => by
  obtain ⟨a, v, e, l, g, hp⟩ := S.cel x P h
  exact wpAny_Name (wpAny_loadName_cell hk hl e g (q v s .refl hp)) hd
theorem Ev.free {x : Str} {pos : Pos} (h : (x, P) ∈ σ.cel) (hl : c.env.kindOf x = some .free) (hk : c.env.scope.kind = .function) (hd : (x == ("__debug__" : Str)) = false) (hn : (x == ("__classdict__" : Str)) = false) : Ev c σ (.Name x pos) P := fun X s S Q E q => by
  obtain ⟨a, v, e, l, g, hp⟩ := S.cel x P h
  exact wpAny_Name (wpAny_loadName_free hk hl e g (q v s .refl hp) hn) hd
theorem Ev.glob {x : Str} {pos : Pos} {v : Value} (h : c.G.mg x = some v) (hl : c.env.kindOf x = some .globalImplicit) (hk : c.env.scope.kind = .function) (hg : c.env.globals = mainGlobals) (hd : (x == ("__debug__" : Str)) = false) : Ev c σ (.Name x pos) (aVal v) := fun X s S Q E q =>
  Name_function_global hk hl (loadGlobal_global (by rw [hg]; exact S.ok.glob) h (q v s .refl rfl)) hd
theorem Ev.blt {x : Str} {pos : Pos} {v : Value} (h : c.G.mg x = .none) (hb : c.G.mb x = some v) (hl : c.env.kindOf x = some .globalImplicit) (hk : c.env.scope.kind = .function) (hg : c.env.globals = mainGlobals) (hbb : c.env.builtins = builtinsNs) (hd : (x == ("__debug__" : Str)) = false) : Ev c σ (.Name x pos) (aVal v) := fun X s S Q E q =>
  Name_function_global hk hl (loadGlobal_builtin (by rw [hg]; exact S.ok.glob) h (by rw [hbb]; exact S.ok.blt) hb (q v s .refl rfl)) hd

/-! ### ints -/
theorem Op2.of_int {f : Value → Value → Sem Value} {a b r : Int} (h : ∀ (s : Shared) (t u : Tok) (Q E : Value → Shared → Prop), c.G.Ok s → (∀ t' k, Q (.int r t') { s with toks := k }) → wpAny c.M c.A (f (.int a t) (.int b u)) Q E s) : Op2 c σ f (aInt a) (aInt b) (aInt r) :=
  fun X s x y S ⟨t, ex⟩ ⟨u, ey⟩ Q E q => by subst ex ey; exact h s t u Q E S.ok fun t' k => q _ _ .toks ⟨t', rfl⟩
theorem Op2.add {a b : Int} : Op2 c σ (binaryOp .Add) (aInt a) (aInt b) (aInt (a + b)) := .of_int fun s t u Q E ok q => PyProof.Rows.add_int (q _ _)
theorem Op2.sub {a b : Int} : Op2 c σ (binaryOp .Sub) (aInt a) (aInt b) (aInt (a - b)) := .of_int fun s t u Q E ok q => PyProof.Rows.sub_int' (q _ _)
theorem Op2.mul {a b : Int} (h : IntMulOk a b) : Op2 c σ (binaryOp .Mult) (aInt a) (aInt b) (aInt (a * b)) := .of_int fun s t u Q E ok q => PyProof.Rows.mul_int (q _ _) h
theorem Op2.div {a b : Int} (hb : b ≠ 0) (hp : Builtin.divisionGoesByPylong a b = false) : Op2 c σ (binaryOp .FloorDiv) (aInt a) (aInt b) (aInt (a.fdiv b)) := .of_int fun s t u Q E ok q => PyProof.Rows.floordiv_int hb (q _ _) (.inl hp)
theorem Op2.mod {a b : Int} (hb : b ≠ 0) : Op2 c σ (binaryOp .Mod) (aInt a) (aInt b) (aInt (a.fmod b)) := .of_int fun s t u Q E ok q => PyProof.Rows.mod_int' hb (q _ _)
theorem Op2.and {a b : Int} : Op2 c σ (binaryOp .BitAnd) (aInt a) (aInt b) (aInt (Builtin.bitAnd a b)) := .of_int fun s t u Q E ok q => PyProof.Rows.and_int (q _ _)
theorem Op2.or {a b : Int} : Op2 c σ (binaryOp .BitOr) (aInt a) (aInt b) (aInt (Builtin.bitOr a b)) := .of_int fun s t u Q E ok q => PyProof.Rows.or_int (q _ _)
theorem Op2.shr {a n : Int} (hn : 0 ≤ n) : Op2 c σ (binaryOp .RShift) (aInt a) (aInt n) (aInt (a.fdiv (2 ^ n.toNat))) := .of_int fun s t u Q E ok q => PyProof.Rows.rshift_int hn (q _ _)
theorem Op2.shl {a n : Int} (hn : 0 ≤ n) (hn2 : n ≤ 1000000) (ha : a.natAbs < 2 ^ 64) : Op2 c σ (binaryOp .LShift) (aInt a) (aInt n) (aInt (a * 2 ^ n.toNat)) := .of_int fun s t u Q E ok q => PyProof.Rows.lshift_int_small hn hn2 ha (q _ _)
theorem Op2.pow {a n : Int} (hn : 0 ≤ n) (hsz : (Builtin.Int.intBits a : Int) * n ≤ 2 ^ 27) : Op2 c σ (binaryOp .Pow) (aInt a) (aInt n) (aInt (a ^ n.toNat)) := .of_int fun s t u Q E ok q => PyProof.Rows.pow_int hn hsz (q _ _)
theorem Op1.neg {a : Int} : Op1 c σ (unaryOp .USub) (aInt a) (aInt (-a)) := fun X s x S ⟨t, ex⟩ Q E q => by subst ex; exact PyProof.Rows.neg_int (q _ _ .toks ⟨_, rfl⟩)
theorem Op2.of_cmp {f : Value → Value → Sem Value} {a b : Int} {r : Bool} (h : ∀ (s : Shared) (t u : Tok) (Q E : Value → Shared → Prop), Q (.bool r) s → wpAny c.M c.A (f (.int a t) (.int b u)) Q E s) : Op2 c σ f (aInt a) (aInt b) (aBool r) :=
  fun X s x y S ⟨t, ex⟩ ⟨u, ey⟩ Q E q => by subst ex ey; exact h s t u Q E (q _ _ .refl rfl)
theorem Op2.lt {a b : Int} {r : Bool} (h : decide (a < b) = r) : Op2 c σ (compareOp .Lt) (aInt a) (aInt b) (aBool r) := .of_cmp fun s t u Q E q => PyProof.Rows.lt_int (h ▸ q)
theorem Op2.gt {a b : Int} {r : Bool} (h : decide (b < a) = r) : Op2 c σ (compareOp .Gt) (aInt a) (aInt b) (aBool r) := .of_cmp fun s t u Q E q => PyProof.Rows.gt_int (h ▸ q)
theorem Op2.ge {a b : Int} {r : Bool} (h : decide (b ≤ a) = r) : Op2 c σ (compareOp .GtE) (aInt a) (aInt b) (aBool r) := .of_cmp fun s t u Q E q => PyProof.Rows.ge_int (h ▸ q)
theorem Op2.eq {a b : Int} {r : Bool} (h : (a == b) = r) : Op2 c σ (compareOp .Eq) (aInt a) (aInt b) (aBool r) := .of_cmp fun s t u Q E q => PyProof.Rows.eq_int (h ▸ q)
theorem Op2.ne {a b : Int} {r : Bool} (h : (a != b) = r) : Op2 c σ (compareOp .NotEq) (aInt a) (aInt b) (aBool r) := .of_cmp fun s t u Q E q => PyProof.Rows.ne_int (h ▸ q)
theorem bInts_inj {a b : Array UInt8} : KBw.bInts a = KBw.bInts b → a = b := fun h => by
  have : a.toList = b.toList := (List.map_inj_right (f := fun c : UInt8 => (c.toNat : Int)) (fun x y e => UInt8.toNat_inj.mp (Int.ofNat.inj e))).mp h
  exact Array.toList_inj.mp this
theorem bInts_beq {a b : Array UInt8} : (a.toList == b.toList) = decide (KBw.bInts a = KBw.bInts b) := by
  by_cases h : a = b
  · subst h; simp
  · have h1 : ¬ KBw.bInts a = KBw.bInts b := fun e => h (bInts_inj e)
    have h2 : ¬ a.toList = b.toList := fun e => h (Array.toList_inj.mp e)
    simp [h1, h]
theorem Op2.eqB {a b : List Int} {r : Bool} (h : decide (a = b) = r) : Op2 c σ (compareOp .Eq) (aByt a) (aByt b) (aBool r) := fun X s x y S ⟨_, t, ex, ea⟩ ⟨_, u, ey, eb⟩ Q E q => by
  subst ex ey; exact eq_bytes (q _ _ .refl (by rw [bInts_beq, ea, eb, h]; rfl))
theorem Op2.neB {a b : List Int} {r : Bool} (h : (!decide (a = b)) = r) : Op2 c σ (compareOp .NotEq) (aByt a) (aByt b) (aBool r) := fun X s x y S ⟨_, t, ex, ea⟩ ⟨_, u, ey, eb⟩ Q E q => by
  subst ex ey; exact ne_bytes (q _ _ .refl (by rw [bne, bInts_beq, ea, eb, h]; rfl))
theorem Op2.addB {a b : List Int} (h : a.length + b.length ≤ 16777216) : Op2 c σ (binaryOp .Add) (aByt a) (aByt b) (aByt (a ++ b)) := fun X s x y S ⟨_, t, ex, ea⟩ ⟨_, u, ey, eb⟩ Q E q => by
  subst ex ey; exact KBa.add_K ea eb h fun t' k e => q _ _ .toks ⟨_, t', rfl, e⟩

/-! ### calls -/
/-- what a call hands back, its arguments' values told -/
def CallV (c : Fx) (σ : St) (f : Value) (Ps : List AV) (R : AV) : Prop :=
  ∀ X s vs, Sat c σ X s → AllP Ps vs (view X s.heap) → ∀ (Q E : Value → Shared → Prop), (∀ v s', Step c.G c.fl c.T s s' → R.p v (view X s'.heap) → Q v s') → wpAny c.M c.A (call f vs) Q E s
/-- who keeps the callee's arguments is known -/
def KeepsIt (c : Fx) (f : Value) : Prop := ∀ s, c.G.Ok s → ∃ k, (k = Keeper.frame ∨ k = Keeper.machine ∨ k = Keeper.boundFrame) ∧ Looks c.M s.heap (keeperOf f) k

/-- the arguments' values -/
inductive EvL (c : Fx) (σ : St) : List Expr → List AV → Prop
  | nil : EvL c σ [] []
  | cons {e : Expr} {l : List Expr} {P : AV} {Ps : List AV} : Ev c σ e P → (starEach (e :: l) c.env = (false, eval e c.env) :: starEach l c.env) → EvL c σ l Ps → EvL c σ (e :: l) (P :: Ps)

theorem EvL.spliced {pos : Pos} : ∀ {l : List Expr} {Ps : List AV}, EvL c σ l Ps → ∀ X s, Sat c σ X s → ∀ (Q : List Value → Shared → Prop) (E : Value → Shared → Prop),
    (∀ vs s', Step c.G c.fl c.T s s' → AllP Ps vs (view X s'.heap) → Q vs s') → wpAny c.M c.A (spliced (backTo pos (starEach l c.env))) Q E s := by
  intro l Ps h
  induction h with
  | nil => intro X s S Q E q; exact spliced_none (q [] s .refl trivial)
  | @cons e l P Ps h hs t ih =>
    intro X s S Q E q
    rw [hs]
    refine spliced_cons (h X s S _ _ fun v s₁ k₁ p₁ => ?_)
    exact ih X s₁ (S.step k₁) _ _ fun vs s₂ k₂ hp => q (v :: vs) s₂ (k₁.trans k₂) ⟨P.mono ((S.step k₁).view k₂) p₁, hp⟩

theorem EvL.plain {l : List Expr} {Ps : List AV} {pos : Pos} (h : EvL c σ l Ps) : (backTo pos (starEach l c.env)).any (·.1) = false := by
  induction h with
  | nil => rfl
  | cons h hs t ih => rw [hs]; show (false || _) = false; rw [Bool.false_or]; exact ih

theorem callWith_any {f : Value} {first : List Value} {pos : Pos} {l : List Expr} {Ps : List AV} {X : List Addr} {s : Shared} {Q E : Value → Shared → Prop} (S : Sat c σ X s) (hl : EvL c σ l Ps) (hk : KeepsIt c f)
    (h : ∀ vs s', Step c.G c.fl c.T s s' → AllP Ps vs (view X s'.heap) → wpAny c.M c.A (call f (first ++ vs)) Q E s') :
    wpAny c.M c.A (callWith pos f first (backTo pos (starEach l c.env)) []) Q E s := by
  have hp := hl.plain (pos := pos)
  have key : wpAny c.M c.A (evalArgs f true (backTo pos (starEach l c.env)) []) (fun a s₁ => (∃ k, (k = Keeper.frame ∨ k = Keeper.machine ∨ k = Keeper.boundFrame) ∧ Looks c.M s₁.heap (keeperOf f) k) ∧ wpAny c.M c.A (call f (first ++ a.pos) a.kw) Q E s₁) E s := by
    cases hl with
    | nil => exact evalArgs_nil3 ⟨hk s S.ok, h [] s .refl trivial⟩
    | @cons e l P Ps h' hs t =>
      have z := EvL.spliced (pos := pos) (EvL.cons h' hs t) X s S (fun vs s₁ => (∃ k, (k = Keeper.frame ∨ k = Keeper.machine ∨ k = Keeper.boundFrame) ∧ Looks c.M s₁.heap (keeperOf f) k) ∧ wpAny c.M c.A (call f (first ++ vs)) Q E s₁) E
        fun vs s₁ k hp => ⟨hk s₁ (k.ok S.ok), h vs s₁ k hp⟩
      rw [hs] at z ⊢
      exact evalArgs_plain z
  refine callWith_of (P := fun hh => ∃ k, (k = Keeper.frame ∨ k = Keeper.machine ∨ k = Keeper.boundFrame) ∧ Looks c.M hh (keeperOf f) k) (by rw [hp]; rfl) (fun _ x => x) key

theorem Ev.call {x : Str} {np pos : Pos} {f : Value} {l : List Expr} {Ps : List AV} (hf : Ev c σ (.Name x np) (aVal f)) (hl : EvL c σ l Ps) (hk : KeepsIt c f) (h : CallV c σ f Ps R) : Ev c σ (.Call (.Name x np) l [] pos) R := fun X s S Q E q => by
  refine wpAny_Call_NameR (hf X s S _ _ fun v s₁ k₁ e => ?_)
  have e : v = f := e
  subst e
  refine callWith_any (first := []) (S.step k₁) hl hk fun vs s₂ k₂ hp => ?_
  exact h X s₂ vs (S.step (k₁.trans k₂)) hp _ _ fun v s₃ k₃ p₃ => q v s₃ ((k₁.trans k₂).trans k₃) p₃
end
end
section

/-! ### the engine -/
def engEs (sg : Array UInt8) (big : Bool) (lk : Addr) (h1 h2 h3 : Int) (t1 t2 t3 tb : Tok) : List DictEntry :=
  [⟨h1, .str "bytemap" t1, .bytes sg tb⟩, ⟨h2, .str "_lookup" t2, .ref lk⟩, ⟨h3, .str "big" t3, .bool big⟩]
def MapAt (sg : List Int) (lk : Addr) (h : Heap) : Prop := ∃ f, h.IntMap lk f ∧ ∀ (i : Nat) (b : Int), sg[i]? = some b → ∃ t, f b = some (.int (i : Int) t)
def EngAt (C : Addr) (sg : List Int) (big : Bool) (x : Addr) (h : Heap) : Prop :=
  ∃ sb dx lk n h1 h2 h3 t1 t2 t3 tb, KBw.bInts sb = sg ∧ h.get? x = some (instObj C dx) ∧ h.get? dx = some (dictOf (engEs sb big lk h1 h2 h3 t1 t2 t3 tb) n) ∧ MapAt sg lk h
theorem intMap_keeps {h h' : Heap} {a : Addr} {f : Int → Option Value} (k : ∀ b o, h.get? b = some o → h'.get? b = some o) (x : h.IntMap a f) : h'.IntMap a f := by
  unfold Heap.IntMap at *
  obtain ⟨o, es, ep, g, r⟩ := x
  exact ⟨o, es, ep, k _ _ g, r⟩
theorem MapAt.keeps {sg : List Int} {lk : Addr} {h h' : Heap} (k : ∀ b o, h.get? b = some o → h'.get? b = some o) (x : MapAt sg lk h) : MapAt sg lk h' := let ⟨f, m, r⟩ := x; ⟨f, intMap_keeps k m, r⟩
theorem EngAt.keeps {C : Addr} {sg : List Int} {big : Bool} {x : Addr} {h h' : Heap} (k : ∀ b o, h.get? b = some o → h'.get? b = some o) (e : EngAt C sg big x h) : EngAt C sg big x h' :=
  let ⟨sb, dx, lk, n, h1, h2, h3, t1, t2, t3, tb, e, a, b, m⟩ := e; ⟨sb, dx, lk, n, h1, h2, h3, t1, t2, t3, tb, e, k _ _ a, k _ _ b, m.keeps k⟩
def aEng (C : Addr) (sg : List Int) (big : Bool) : AV := ⟨fun v h => ∃ x, v = .ref x ∧ EngAt C sg big x h, fun k ⟨x, e, r⟩ => ⟨x, e, r.keeps k⟩⟩
def aMap (sg : List Int) : AV := ⟨fun v h => ∃ x, v = .ref x ∧ MapAt sg x h, fun k ⟨x, e, r⟩ => ⟨x, e, r.keeps k⟩⟩

theorem view_sub {X : List Addr} {h : Heap} (b : Addr) (o : Obj) (e : (view X h).get? b = some o) : h.get? b = some o := (view_of e).1

/-- the class's words that the engine's attributes ask -/
structure ClsOk (K : Frag) (C : Addr) : Prop where
  get : plainGet K C "" = true
  dict : hasDictIn K C = true
  bm : ∃ a, findIn K (.ref C) "bytemap" = some a ∧ noGet K a = true
  lk : ∃ a, findIn K (.ref C) "_lookup" = some a ∧ noGet K a = true
  big : ∃ a, findIn K (.ref C) "big" = some a ∧ noGet K a = true

section
variable {c : Fx} {σ τ : St} {P P' R : AV}

theorem eng_get {C : Addr} {sg : Array UInt8} {big : Bool} {x : Addr} {s : Shared} {name : Str} {v : Value} {attr : Option Value} {Q E : Value → Shared → Prop} {dx lk : Addr} {n : Nat} {h1 h2 h3 : Int} {t1 t2 t3 tb : Tok} {expr : Bool}
    (ok : c.G.Ok s) (hC : ClsOk c.G.K C) (a : s.heap.get? x = some (instObj C dx)) (b : s.heap.get? dx = some (dictOf (engEs sg big lk h1 h2 h3 t1 t2 t3 tb) n))
    (ha : findIn c.G.K (.ref C) name = some attr) (hn : noGet c.G.K attr = true) (hl : getL name (engEs sg big lk h1 h2 h3 t1 t2 t3 tb) = some (some v)) (hv : handedIn v = true) (q : Q v { s with toks := s.toks + 1 }) :
    wpAny c.M c.A (getAttr (.ref x) name expr) Q E s :=
  get_value ok.frag (ox := instObj C dx) (od := some (dictOf (engEs sg big lk h1 h2 h3 t1 t2 t3 tb) n)) (C := C) ⟨a, rfl, rfl, b⟩ (plainGet_of (name := "") hC.get).1 (findObj_own hC.dict ha hn hl) hv q

theorem Ev.bytemap {o : Expr} {pos : Pos} {C : Addr} {sg : List Int} {big : Bool} (ho : Ev c σ o (aEng C sg big)) (hC : ClsOk c.G.K C)
    (he : eval (.Attribute o "bytemap" pos) c.env = (do
      let o' ← eval o c.env
      standAt pos.atName
      let r ← holding [o'] (getAttr o' "bytemap" true)
      letTemporaryGo o o' r
      pure r) := by with_unfolding_all rfl) : Ev c σ (.Attribute o "bytemap" pos) (aByt sg) := fun X s S Q E q =>
  Attribute_any_ (ho X s S _ _ fun v s₁ k₁ p₁ => by
    obtain ⟨x, rfl, sb, dx, lk, n, h1, h2, h3, t1, t2, t3, tb, eb, a, b, m⟩ := p₁
    obtain ⟨at_, f1, f2⟩ := hC.bm
    exact eng_get (S.step k₁).ok hC (view_sub _ _ a) (view_sub _ _ b) f1 f2 rfl rfl (q _ _ (k₁.trans .toks) ⟨_, tb, rfl, eb⟩)) he
theorem Ev.big {o : Expr} {pos : Pos} {C : Addr} {sg : List Int} {big : Bool} (ho : Ev c σ o (aEng C sg big)) (hC : ClsOk c.G.K C)
    (he : eval (.Attribute o "big" pos) c.env = (do
      let o' ← eval o c.env
      standAt pos.atName
      let r ← holding [o'] (getAttr o' "big" true)
      letTemporaryGo o o' r
      pure r) := by with_unfolding_all rfl) : Ev c σ (.Attribute o "big" pos) (aBool big) := fun X s S Q E q =>
  Attribute_any_ (ho X s S _ _ fun v s₁ k₁ p₁ => by
    obtain ⟨x, rfl, sb, dx, lk, n, h1, h2, h3, t1, t2, t3, tb, eb, a, b, m⟩ := p₁
    obtain ⟨at_, f1, f2⟩ := hC.big
    exact eng_get (S.step k₁).ok hC (view_sub _ _ a) (view_sub _ _ b) f1 f2 (by rfl) rfl (q _ _ (k₁.trans .toks) rfl)) he
theorem Ev.lookup {o : Expr} {pos : Pos} {C : Addr} {sg : List Int} {big : Bool} (ho : Ev c σ o (aEng C sg big)) (hC : ClsOk c.G.K C)
    (he : eval (.Attribute o "_lookup" pos) c.env = (do
      let o' ← eval o c.env
      standAt pos.atName
      let r ← holding [o'] (getAttr o' "_lookup" true)
      letTemporaryGo o o' r
      pure r) := by with_unfolding_all rfl) : Ev c σ (.Attribute o "_lookup" pos) (aMap sg) := fun X s S Q E q =>
  Attribute_any_ (ho X s S _ _ fun v s₁ k₁ p₁ => by
    obtain ⟨x, rfl, sb, dx, lk, n, h1, h2, h3, t1, t2, t3, tb, eb, a, b, m⟩ := p₁
    obtain ⟨at_, f1, f2⟩ := hC.lk
    exact eng_get (S.step k₁).ok hC (view_sub _ _ a) (view_sub _ _ b) f1 f2 (by rfl) rfl (q _ _ (k₁.trans .toks) ⟨lk, rfl, m⟩)) he

/-! ### subscripts -/
/-- o[i] -/
def Sub2 (c : Fx) (σ : St) (value slice : Expr) (P P' R : AV) : Prop := Op2 c σ (subscriptTail value slice) P P' R
theorem Ev.sub {o i : Expr} {pos : Pos} (ho : Ev c σ o P) (hi : Ev c σ i P') (h : Sub2 c σ o i P P' R) : Ev c σ (.Subscript o i pos) R := fun X s S Q E q =>
  Subscript_ (ho X s S _ _ fun a s₁ k₁ p₁ => hi X s₁ (S.step k₁) _ _ fun b s₂ k₂ p₂ =>
    h X s₂ a b (S.step (k₁.trans k₂)) (P.mono ((S.step k₁).view k₂) p₁) p₂ _ _ fun v s₃ k₃ p₃ => q v s₃ ((k₁.trans k₂).trans k₃) p₃)
theorem Sub2.bytes {o i : Expr} {b : List Int} {k : Int} {r : Int} (hfit : b.length ≤ 1099511627776) (h0 : 0 ≤ k) (h1 : k < b.length) (hr : b.getD k.toNat 0 = r)
    (hs : ∀ o' i', subscripted i false o' i' = operate [o', i'] (getItem o' i') := by intro _ _; with_unfolding_all rfl) : Sub2 c σ o i (aByt b) (aInt k) (aInt r) := fun X s x y S ⟨a, t, ex, ea⟩ ⟨u, ey⟩ Q E q => by
  subst ex ey hr
  subst ea
  obtain ⟨l⟩ := a
  rw [KBw.ints_length] at hfit h1
  refine tail_any (typeIs_bytes s _ t) FB.slot_bytes_getitem.lookup (getItem_bytes (l := l) (by simpa using hfit) h0 (by simpa using h1) (q _ _ .toks ⟨s.toks, ?_⟩)) (hs _ _)
  rw [KBw.getD_ints]; rfl
theorem Sub2.ints {o i : Expr} {ns : List Int} {k : Int} {r : Int} (h0 : 0 ≤ k) (hk : k < 2 ^ 63) (h1 : ns[k.toNat]? = some r)
    (hs : ∀ o' i', subscripted i false o' i' = operate [o', i'] (getItem o' i') := by intro _ _; with_unfolding_all rfl) : Sub2 c σ o i (aInts ns) (aInt k) (aInt r) := fun X s x y S ⟨a, vs, ex, l, ia⟩ ⟨u, ey⟩ Q E q => by
  subst ex ey
  have l' : s.heap.IsList a vs.toArray := isList_keeps view_sub l
  obtain ⟨t, e⟩ := ia.get _ _ h1
  exact tail_any l'.typeIs slot_list_getitem.lookup (wpAny_getItem_list l' h0 hk (by simpa using e) (q _ _ .refl ⟨t, rfl⟩)) (hs _ _)
theorem Sub2.map {o i : Expr} {sg : List Int} {k : Nat} {b : Int} (h1 : sg[k]? = some b)
    (hs : ∀ o' i', subscripted i false o' i' = operate [o', i'] (getItem o' i') := by intro _ _; with_unfolding_all rfl) : Sub2 c σ o i (aMap sg) (aInt b) (aInt k) := fun X s x y S ⟨a, ex, f, m, r⟩ ⟨u, ey⟩ Q E q => by
  subst ex ey
  have m' : s.heap.IntMap a f := intMap_keeps view_sub m
  obtain ⟨t, e⟩ := r k b h1
  exact tail_any m'.typeIs slot_dict_getitem.lookup (wpAny_getItem_intMap m' e (q _ _ .toks ⟨t, rfl⟩)) (hs _ _)
end
end
section

/-- room for n more calls, one in another -/
structure Rm (A : Around) (n : Nat) : Prop where
  h : A.handled = none
  d : A.depth + n < recursionLimit
  u : A.units + 8 * n < cLine
theorem Rm.deeper {A : Around} {n : Nat} {env : Env} (r : Rm A (n + 1)) : Rm (A.deeper env) n := ⟨r.h, by have := r.d; show A.depth + 1 + n < _; omega, by have := r.u; show A.units + 3 + _ < _; omega⟩
theorem Rm.in1 {A : Around} {n : Nat} (r : Rm A (n + 1)) : Rm A.in1 n := ⟨r.h, by have := r.d; show A.depth + n < _; omega, by have := r.u; show A.units + 1 + _ < _; omega⟩
theorem Rm.less {A : Around} {n m : Nat} (r : Rm A n) (h : m ≤ n) : Rm A m := ⟨r.h, by have := r.d; omega, by have := r.u; omega⟩

def Gl.Tf (G : Gl) (fl : Bool) : List Addr := if fl then G.T else []
theorem tf_sub {G : Gl} {fl : Bool} {a : Addr} (h : a ∈ G.Tf fl) : a ∈ G.T := by
  unfold Gl.Tf at h
  split at h
  · exact h
  · cases h

/-- what a call of the def at f hands back -/
def FnV (G : Gl) (fl : Bool) (n : Nat) (f : Addr) (Ps : List AV) (R : AV) : Prop :=
  ∀ (A : Around) X s vs, Rm A n → G.Ok s → Priv G X s → AllP Ps vs (view X s.heap) → ∀ (Z : Result → Shared → Prop),
    (∀ v s', Step G fl (G.Tf fl) s s' → R.p v (view X s'.heap) → Z (.ok (.ret v)) s') → codeAny (model G.prog G.w) A (.call (.ref f) ⟨vs, []⟩) Z s

/-- a call's frame -/
abbrev fxOf (G : Gl) (A : Around) (fl : Bool) (fd : FuncData) (f L : Addr) : Fx :=
  { G, A := A.deeper (callEnvC fd L f), env := callEnvC fd L f, own := L :: (cellsFrom (L + 1) fd.scope.names []).filterMap (fun p => (cellsFrom (L + 1) fd.scope.names []).lookup p.1), cells := (cellsFrom (L + 1) fd.scope.names []).map (·.1), fl }

def stOf (kindOf : Str → Option NameKind) : List Str → List AV → St
  | x :: xs, P :: Ps => if kindOf x = some .local then { stOf kindOf xs Ps with loc := (x, P) :: (stOf kindOf xs Ps).loc } else { stOf kindOf xs Ps with cel := (x, P) :: (stOf kindOf xs Ps).cel }
  | _, _ => ⟨[], []⟩

theorem bindL_other {k : Str → Option NameKind} {x : Str} : ∀ {b : List (Str × Value)} {m : Str → Option Value}, x ∉ b.map (·.1) → bindL k b m x = m x
  | [], _, _ => rfl
  | (n, v) :: r, m, h => by
    rw [List.map_cons, List.mem_cons, not_or] at h
    unfold bindL
    rw [bindL_other h.2]
    split
    · simp [h.1]
    · rfl
theorem bindC_other {k : Str → Option NameKind} {x : Str} : ∀ {b : List (Str × Value)} {m : Str → Option Value}, x ∉ b.map (·.1) → bindC k b m x = m x
  | [], _, _ => rfl
  | (n, v) :: r, m, h => by
    rw [List.map_cons, List.mem_cons, not_or] at h
    unfold bindC
    rw [bindC_other h.2]
    split
    · rfl
    · simp [h.1]
theorem zip_fst {x : Str} : ∀ {xs : List Str} {vs : List Value}, x ∈ (xs.zip vs).map (·.1) → x ∈ xs
  | [], _, h => by simp at h
  | _ :: _, [], h => by simp at h
  | y :: xs, v :: vs, h => by
    rw [List.zip_cons_cons, List.map_cons, List.mem_cons] at h
    rcases h with h | h
    · exact h ▸ .head _
    · exact .tail _ (zip_fst h)
theorem stOf_ok {k : Str → Option NameKind} {h : Heap} : ∀ {xs : List Str} {Ps : List AV} {vs : List Value} (m m' : Str → Option Value), xs.Nodup → AllP Ps vs h →
    (∀ x P, (x, P) ∈ (stOf k xs Ps).loc → ∃ v, bindL k (xs.zip vs) m x = some v ∧ P.p v h) ∧ (∀ x P, (x, P) ∈ (stOf k xs Ps).cel → ∃ v, bindC k (xs.zip vs) m' x = some v ∧ P.p v h)
  | [], _, _, _, _, _, _ => ⟨fun x P h => by simp [stOf] at h, fun x P h => by simp [stOf] at h⟩
  | _ :: _, [], _, _, _, _, _ => ⟨fun x P h => by simp [stOf] at h, fun x P h => by simp [stOf] at h⟩
  | y :: xs, P :: Ps, [], _, _, _, a => a.elim
  | y :: xs, P :: Ps, v :: vs, m, m', nd, ⟨hp, a⟩ => by
    have ⟨ny, nd'⟩ := List.nodup_cons.mp nd
    have no : y ∉ (xs.zip vs).map (·.1) := fun q => ny (zip_fst q)
    unfold stOf
    rw [List.zip_cons_cons]
    unfold bindL bindC
    by_cases hy : k y = some .local
    · simp only [if_pos hy]
      obtain ⟨i1, i2⟩ := stOf_ok (k := k) (h := h) (xs := xs) (Ps := Ps) (vs := vs) (fun z => if z = y then some v else m z) m' nd' a
      refine ⟨fun x P' hx => ?_, i2⟩
      rcases List.mem_cons.mp hx with e | hx
      · cases e; exact ⟨v, by rw [bindL_other no]; simp, hp⟩
      · exact i1 x P' hx
    · simp only [if_neg hy]
      obtain ⟨i1, i2⟩ := stOf_ok (k := k) (h := h) (xs := xs) (Ps := Ps) (vs := vs) m (fun z => if z = y then some v else m' z) nd' a
      refine ⟨i1, fun x P' hx => ?_⟩
      rcases List.mem_cons.mp hx with e | hx
      · cases e; exact ⟨v, by rw [bindC_other no]; simp, hp⟩
      · exact i2 x P' hx

/-- a def of the text, as the head left it -/
structure FnAt (G : Gl) (f : Addr) (fd : FuncData) : Prop where
  obj : ∃ oc od osl, G.K.lookup f = some ⟨oc, od, .func fd, osl⟩
  code : codeIn G.K fd.code fd.qualname = true

theorem cells_inj {cs : List (Str × Addr)} (hp : cs.Pairwise fun x y => x.2 ≠ y.2) (x y : Str) (a : Addr) (e : cs.lookup x = some a) (e' : cs.lookup y = some a) : x = y :=
  name_of_addr hp (mem_of_lookup e) (mem_of_lookup e')
theorem lookup_of_fst {cs : List (Str × Addr)} {x : Str} (h : x ∈ cs.map (·.1)) : ∃ a, cs.lookup x = some a := by
  induction cs with
  | nil => cases h
  | cons p r ih =>
    obtain ⟨n, c⟩ := p
    rw [List.lookup_cons]
    cases hb : x == n with
    | true => exact ⟨c, rfl⟩
    | false =>
      rw [List.map_cons, List.mem_cons] at h
      rcases h with h | h
      · subst h; simp at hb
      · exact ih h

/-- the call enters the def: its frame is as told -/
theorem enter {G : Gl} {fl : Bool} {f : Addr} {fd : FuncData} {X : List Addr} {s s₁ : Shared} {xs : List Str} {Ps : List AV} {vs : List Value} {A : Around} (ok : G.Ok s) (ht : Priv G X s) (ha : AllP Ps vs (view X s.heap)) (hk : fd.scope.kind = .function) (nd : xs.Nodup)
    (hc : ∀ x P, (x, P) ∈ (stOf (callEnvC fd s.heap.objs.size f).kindOf xs Ps).cel → x ∈ (cellsFrom (s.heap.objs.size + 1) fd.scope.names []).map (·.1))
    (hI : InCallC s (callEnvC fd s.heap.objs.size f).locals (bindL (callEnvC fd s.heap.objs.size f).kindOf (xs.zip vs) fun _ => none) (callEnvC fd s.heap.objs.size f).cells (bindC (callEnvC fd s.heap.objs.size f).kindOf (xs.zip vs) fun _ => none) s₁) :
    Sat (fxOf G A fl fd f s.heap.objs.size) (stOf (callEnvC fd s.heap.objs.size f).kindOf xs Ps) ((fxOf G A fl fd f s.heap.objs.size).own ++ X) s₁ ∧ Step G fl [] s s₁ ∧ (∀ a ∈ (fxOf G A fl fd f s.heap.objs.size).own, s.heap.get? a = none) := by
  obtain ⟨h', tk, rfl, kp⟩ := hI.done
  have st : Step G fl [] s { s with heap := h', toks := tk } := Step.heap kp
  have lo : ∀ a ∈ (fxOf G A fl fd f s.heap.objs.size).own, s.heap.objs.size ≤ a := fun a h => by
    rcases List.mem_cons.mp h with h | h
    · exact Nat.le_of_eq h.symm
    · obtain ⟨p, hp, e⟩ := List.mem_filterMap.mp h
      exact Nat.le_of_lt (hI.above p.1 a (mem_of_lookup e))
  have nn : ∀ a ∈ (fxOf G A fl fd f s.heap.objs.size).own, s.heap.get? a = none := fun a h => by
    cases e : s.heap.get? a with
    | none => rfl
    | some o => exact absurd (Heap.lt_size e) (Nat.not_lt.mpr (lo a h))
  have n0 : G.h₀.objs.size ≤ s.heap.objs.size := ok.low
  have vw : ∀ b o, (view X s.heap).get? b = some o → (view ((fxOf G A fl fd f s.heap.objs.size).own ++ X) h').get? b = some o := fun b o e => by
    obtain ⟨g, n⟩ := view_of e
    refine view_get (kp b o g) fun m => ?_
    rcases List.mem_append.mp m with m | m
    · rw [nn b m] at g; cases g
    · exact n m
  obtain ⟨r1, r2⟩ := stOf_ok (k := (callEnvC fd s.heap.objs.size f).kindOf) (m := fun _ => none) (m' := fun _ => none) nd (ha.mono vw)
  refine ⟨⟨st.ok ok, fun t h => List.mem_append_right _ (ht.1 t h), fun a h => ⟨List.mem_append_left _ h, Nat.le_trans n0 (lo a h)⟩, fun a h => ?_, .head _, ⟨_, hI.toInCall.ns, r1⟩, fun x P h => ?_, fun x h => ?_, cells_inj hI.apart⟩, st, nn⟩
  · rcases List.mem_append.mp h with h | h
    · rcases List.mem_cons.mp h with h | h
      · obtain ⟨o, _, _, e, _⟩ := hI.toInCall.ns; exact ⟨o, h ▸ e⟩
      · obtain ⟨p, hp, ea⟩ := List.mem_filterMap.mp h
        obtain ⟨o, e, _⟩ := hI.cell p.1 a ea
        exact ⟨o, e⟩
    · obtain ⟨o, e⟩ := ht.2 a h; exact ⟨o, kp _ _ e⟩
  · obtain ⟨v, e, hp⟩ := r2 x P h
    obtain ⟨a, ea⟩ := lookup_of_fst (hc x P h)
    refine ⟨a, v, ea, Nat.le_trans n0 (lo a (.tail _ (List.mem_filterMap.mpr ⟨_, mem_of_lookup ea, ea⟩))), ?_, hp⟩
    have := hI.cell x a ea
    rw [e] at this
    exact this
  · obtain ⟨a, ea⟩ := lookup_of_fst h
    exact ⟨a, _, ea, .tail _ (List.mem_filterMap.mpr ⟨_, mem_of_lookup ea, ea⟩), hI.cell x a ea⟩

theorem code_enter {G : Gl} {s : Shared} {A : Around} {R : Result → Shared → Prop} {a : Addr} {o : Obj} {fd : FuncData} {body : List Stmt} {args : Args} {binds : List (Str × Value)}
    (hroom : A.depth < recursionLimit) (ho : s.heap.get? a = some o) (hdata : o.data = .func fd) (hlim : s.heap.NoLimit) (hcd : s.heap.CodeRec fd.code fd.qualname)
    (hbody : fd.body = .stmts body) (hbind : BindsTo s fd args binds) (hclo : fd.closure = [])
    (hkind : ∀ x ∈ binds, fd.scope.names.lookup x.1 = some .local ∨ (fd.scope.names.lookup x.1 = some .cell ∧ ((cellsFrom (s.heap.objs.size + 1) fd.scope.names []).lookup x.1).isSome = true))
    (h : ∀ s₁, InCallC s (callEnvC fd s.heap.objs.size a).locals (bindL (callEnvC fd s.heap.objs.size a).kindOf binds fun _ => none) (callEnvC fd s.heap.objs.size a).cells
        (bindC (callEnvC fd s.heap.objs.size a).kindOf binds fun _ => none) s₁ →
      wpAny (model G.prog G.w) (A.deeper (callEnvC fd s.heap.objs.size a)) (execs body (callEnvC fd s.heap.objs.size a)) (fun f s' => R (.ok (.ret (match f with | .ret v => v | _ => .none))) s')
        (fun _ _ => False) s₁)
    (hco : fd.scope.isCoroutine = false) (hgen : fd.scope.isGenerator = false) (hk : fd.scope.kind = .function) :
    codeAny (model G.prog G.w) A (.call (.ref a) args) R s := by
  refine codeAny_call_function hroom ho hdata hco hgen hbody hcd (hbind _ _ _ _ ?_)
  rw [hclo]
  refine wpAny_newFunctionEnv_cells hk hkind fun env he s' x => ?_
  subst he
  exact ⟨hlim.keeps x.toInCall.keep, codeAny_func (wpAny_mono (h s' x) (fun _ _ y => y) fun _ _ y => y.elim)⟩

theorem kind_env {fd : FuncData} {L f : Addr} {x : Str} : (callEnvC fd L f).kindOf x = fd.scope.names.lookup x := rfl

/-- a call goes into the def's body -/
theorem fn_enter {G : Gl} {fl : Bool} {f : Addr} {fd : FuncData} {body : List Stmt} {xs : List Str} {Ps : List AV} {σ : St} {A : Around} {X : List Addr} {s : Shared} {vs : List Value} {Z : Result → Shared → Prop} (F : FnAt G f fd)
    (hbody : fd.body = .stmts body) (hclo : fd.closure = []) (hbind : ∀ s vs, G.Ok s → vs.length = xs.length → BindsTo s fd ⟨vs, []⟩ (xs.zip vs)) (hlen : xs.length = Ps.length)
    (nd : xs.Nodup) (hkinds : (xs.all fun x => fd.scope.names.lookup x == some .local || fd.scope.names.lookup x == some .cell) = true) (hσ : stOf (fun x => fd.scope.names.lookup x) xs Ps = σ)
    (hcel : ∀ L, ∀ p ∈ σ.cel, p.1 ∈ (cellsFrom L fd.scope.names []).map (·.1))
    (hco : fd.scope.isCoroutine = false) (hgen : fd.scope.isGenerator = false) (hk : fd.scope.kind = .function) (hd : A.depth < recursionLimit) (ok : G.Ok s) (ht : Priv G X s) (ha : AllP Ps vs (view X s.heap))
    (h : ∀ s₁, Sat (fxOf G A fl fd f s.heap.objs.size) σ ((fxOf G A fl fd f s.heap.objs.size).own ++ X) s₁ → Step G fl [] s s₁ → (∀ a ∈ (fxOf G A fl fd f s.heap.objs.size).own, s.heap.get? a = none) →
      wpAny (model G.prog G.w) (A.deeper (callEnvC fd s.heap.objs.size f)) (execs body (callEnvC fd s.heap.objs.size f)) (fun f s' => Z (.ok (.ret (match f with | .ret v => v | _ => .none))) s') (fun _ _ => False) s₁) :
    codeAny (model G.prog G.w) A (.call (.ref f) ⟨vs, []⟩) Z s := by
  obtain ⟨oc, od, osl, hl⟩ := F.obj
  have hvl : vs.length = xs.length := by
    rw [hlen]
    clear hσ hlen
    induction Ps generalizing vs with
    | nil => cases vs with | nil => rfl | cons => exact ha.elim
    | cons P Ps ih => cases vs with | nil => exact ha.elim | cons v vs => exact congrArg (· + 1) (ih ha.2)
  have hcel' : ∀ x P, (x, P) ∈ (stOf (callEnvC fd s.heap.objs.size f).kindOf xs Ps).cel → x ∈ (cellsFrom (s.heap.objs.size + 1) fd.scope.names []).map (·.1) := fun x P hx => by
    have hx' : (x, P) ∈ (stOf (fun x => fd.scope.names.lookup x) xs Ps).cel := hx
    rw [hσ] at hx'
    exact hcel _ _ hx'
  refine code_enter hd (ok.frag _ _ hl) rfl ok.nolim (codeRec_of ok.frag F.code) hbody (hbind s vs ok hvl) hclo (kindsX ?_ _) (fun s₁ hI => ?_) hco hgen hk
  · rw [List.all_eq_true]
    intro p hp
    obtain ⟨x, v⟩ := p
    exact List.all_eq_true.mp hkinds x (List.of_mem_zip hp).1
  · obtain ⟨S, st, nn⟩ := enter (A := A) (fl := fl) ok ht ha hk nd hcel' hI
    have S' : Sat (fxOf G A fl fd f s.heap.objs.size) σ ((fxOf G A fl fd f s.heap.objs.size).own ++ X) s₁ := by
      have e : stOf (callEnvC fd s.heap.objs.size f).kindOf xs Ps = σ := hσ
      rw [e] at S; exact S
    exact h s₁ S' st nn

/-- a def's contract, from its body -/
theorem FnV.mk {G : Gl} {fl : Bool} {n : Nat} {f : Addr} {fd : FuncData} {body : List Stmt} {xs : List Str} {Ps : List AV} {R : AV} {σ : St} (F : FnAt G f fd)
    (hbody : fd.body = .stmts body) (hclo : fd.closure = []) (hbind : ∀ vs, vs.length = xs.length → bindArgs fd ⟨vs, []⟩ = pure (xs.zip vs)) (hlen : xs.length = Ps.length)
    (nd : xs.Nodup) (hkinds : (xs.all fun x => fd.scope.names.lookup x == some .local || fd.scope.names.lookup x == some .cell) = true) (hσ : stOf (fun x => fd.scope.names.lookup x) xs Ps = σ)
    (hcel : ∀ L, ∀ p ∈ σ.cel, p.1 ∈ (cellsFrom L fd.scope.names []).map (·.1))
    (hco : fd.scope.isCoroutine = false) (hgen : fd.scope.isGenerator = false) (hk : fd.scope.kind = .function)
    (h : ∀ A L, Rm A n → Rt (fxOf G A fl fd f L) σ body R) : FnV G fl (n + 1) f Ps R := by
  intro A X s vs rm ok ht ha Z q
  refine fn_enter (fl := fl) F hbody hclo (fun _ vs _ hv => .of_eq (hbind vs hv)) hlen nd hkinds hσ hcel hco hgen hk (by have := rm.d; omega) ok ht ha fun s₁ S' st nn => ?_
  refine h A s.heap.objs.size ⟨rm.h, by have := rm.d; omega, by have := rm.u; omega⟩ _ s₁ S' _ _ fun v s' k p => ?_
  refine q v s' ?_ (R.mono (view_less fun b o e m => List.mem_append_right _ m) p)
  refine Step.less (X := (fxOf G A fl fd f s.heap.objs.size).own ++ G.Tf fl) ((st.more fun _ m => nomatch m).trans k) fun a o m e => ?_
  rcases List.mem_append.mp m with m | m
  · rw [nn a m] at e; cases e
  · exact m

section
variable {c : Fx} {σ τ : St} {P P' R : AV}
theorem Tf_le {G : Gl} {a b : Bool} (h : a = true → b = true) {x : Addr} (m : x ∈ G.Tf a) : x ∈ G.Tf b := by
  unfold Gl.Tf at *
  cases a
  · cases m
  · rw [h rfl]; exact m
theorem Step.flag {G : Gl} {a b : Bool} {s s' : Shared} (h : a = true → b = true) (x : Step G a (G.Tf a) s s') : Step G b (G.Tf b) s s' := by
  have y := x.more (Y := G.Tf b) fun _ m => Tf_le h m
  cases b with
  | true => exact y.up
  | false =>
    cases a with
    | true => exact absurd (h rfl) (by decide)
    | false => exact y
theorem CallV.fn {fl : Bool} {n : Nat} {f : Addr} {Ps : List AV} (h : FnV c.G fl n f Ps R) (hfl : fl = true → c.fl = true) (rm : Rm c.A n) : CallV c σ (.ref f) Ps R := fun X s vs S ha Q E q =>
  wpAny_call (h c.A X s vs rm S.ok S.priv ha _ fun v s' k p => q v s' (k.flag hfl) p)
theorem KeepsIt.fn {f : Addr} {fd : FuncData} (F : FnAt c.G f fd) : KeepsIt c (.ref f) := fun s ok => by
  obtain ⟨oc, od, osl, hl⟩ := F.obj
  exact ⟨.frame, .inl rfl, (Looks.ld (part := none) (ok.frag _ _ hl)).andThen .now⟩
theorem KeepsIt.builtin {id : String} : KeepsIt c (.builtin id) := fun s ok => ⟨.machine, .inr (.inl rfl), Looks.of_pure rfl⟩
theorem KeepsIt.type {n : String} : KeepsIt c (.type n) := fun s ok => ⟨.machine, .inr (.inl rfl), Looks.of_pure rfl⟩

/-- a method of the engine -/
theorem meth_raw {o : Expr} {name : Str} {apos pos : Pos} {l : List Expr} {Ps : List AV} {C f : Addr} {sg : List Int} {big : Bool} {fd : FuncData} {X : List Addr} {s : Shared} {Q E : Value → Shared → Prop} (S : Sat c σ X s) (ho : Ev c σ o (aEng C sg big)) (hl : EvL c σ l Ps) (hC : ClsOk c.G.K C)
    (hf : findIn c.G.K (.ref C) name = some (some (.ref f))) (ht : typeIn c.G.K (.ref f) = some (.type "function")) (F : FnAt c.G f fd)
    (hes : ∀ sb lk h1 h2 h3 t1 t2 t3 tb, getL name (engEs sb big lk h1 h2 h3 t1 t2 t3 tb) = some none)
    (hbase : attributeBase o name c.env (eval o c.env) = eval o c.env) (hn : l.length < 29) (hline : (apos.endLine == pos.line) = true)
    (h : ∀ vs s₂, Sat c σ X s₂ → Step c.G c.fl c.T s s₂ → AllP (aEng C sg big :: Ps) vs (view X s₂.heap) → wpAny c.M c.A (call (.ref f) vs) Q E s₂) :
    wpAny c.M c.A (eval (.Call (.Attribute o name apos) l [] pos) c.env) Q E s := by
  rw [arm_eval_Call, hbase]
  refine wpAny_bind (ho X s S _ _ fun ov s₁ k₁ p₁ => wpAny_bind (wpAny_standAt ?_))
  have S₁ := S.step k₁
  obtain ⟨x, rfl, en⟩ := id p₁
  have hp := hl.plain (pos := pos)
  have hform : methodCallForm (l.length + ([] : List Keyword).length) (backTo pos (starEach l c.env)) (backToKw pos (keywordEach [] c.env)) = true := by
    unfold methodCallForm
    rw [Bool.and_eq_true, Bool.and_eq_true]
    refine ⟨⟨?_, rfl⟩, ?_⟩
    · rw [← Bool.not_eq_true', ] at hp
      simpa [List.all_eq_not_any_not] using hp
    · show decide (l.length + 0 + (if ([] : List (Option Str × Sem Value)).isEmpty then 0 else 1) < 30) = true
      simp; omega
  have hpos : methodCallPos true o c.env apos pos = pure pos := by unfold methodCallPos; simp [hline]
  unfold methodCall
  rw [hform]
  obtain ⟨sb, dx, lk, n', h1, h2, h3, t1, t2, t3, tb, eb, a, b, m⟩ := en
  refine wpAny_bind (wpAny_holding (method_fn S₁.ok.frag (x := x) (ox := instObj C dx) (od := some (dictOf (engEs sb big lk h1 h2 h3 t1 t2 t3 tb) n')) (C := C) ⟨view_sub _ _ a, rfl, rfl, view_sub _ _ b⟩ (plainGet_of (name := "") hC.get).1 (plainGet_of (name := "") hC.get).2 hf ht (by show (lookIn name (dictOf _ n')).map _ = _; rw [lookIn_dict, hes]; rfl) ?_))
  refine wpAny_bind (wpAny_of_eq hpos ?_)
  refine callWith_any (first := [.ref x]) S₁ hl (.fn F) fun vs s₂ k₂ hv => ?_
  exact h (.ref x :: vs) s₂ (S₁.step k₂) (k₁.trans k₂) ⟨(aEng C sg big).mono (S₁.view k₂) p₁, hv⟩
theorem Ev.meth {o : Expr} {name : Str} {apos pos : Pos} {l : List Expr} {Ps : List AV} {C f : Addr} {sg : List Int} {big : Bool} {fd : FuncData} {fl : Bool} {n : Nat} (ho : Ev c σ o (aEng C sg big)) (hl : EvL c σ l Ps) (hC : ClsOk c.G.K C)
    (hf : findIn c.G.K (.ref C) name = some (some (.ref f))) (ht : typeIn c.G.K (.ref f) = some (.type "function")) (F : FnAt c.G f fd) (h : FnV c.G fl n f (aEng C sg big :: Ps) R) (hfl : fl = true → c.fl = true) (rm : Rm c.A n)
    (hes : ∀ sb lk h1 h2 h3 t1 t2 t3 tb, getL name (engEs sb big lk h1 h2 h3 t1 t2 t3 tb) = some none)
    (hbase : attributeBase o name c.env (eval o c.env) = eval o c.env) (hn : l.length < 29) (hline : (apos.endLine == pos.line) = true) :
    Ev c σ (.Call (.Attribute o name apos) l [] pos) R := fun X s S Q E q =>
  meth_raw S ho hl hC hf ht F hes hbase hn hline fun vs s₂ S₂ k₂ hv => wpAny_call (h c.A X s₂ vs rm S₂.ok S₂.priv hv _ fun v s₃ k₃ p₃ => q v s₃ (k₂.trans (k₃.flag hfl)) p₃)
end
end
section

/-! ## a generator def that draws from a list and yields ints -/
structure Gc where
  G : Gl
  env : Env
  lv : Addr
  B : Heap
  Xg : List Addr
  rd : Int → Value → Prop
  items : List Int
  nc : Nat
  fix : List (Addr × Obj)
  Fr : List Addr
def Gc.Pv (k : Gc) : List Addr := [k.env.locals, k.lv]
abbrev Gc.M (k : Gc) : Model := model k.G.prog k.G.w
abbrev Gc.fx (k : Gc) (A : Around) : Fx := { G := k.G, A, env := k.env, own := [k.env.locals], cells := [], fl := false }

/-- a list whose every item is told -/
def ListOf (rd : Int → Value → Prop) (lv : Addr) (rest : List Int) (h : Heap) : Prop := ∃ vs : List Value, h.PlainList lv vs.toArray ∧ Paired rd rest vs ∧ rest.length < 16777216

structure Gc.Ok (k : Gc) : Prop where
  hid : ∀ b o, k.B.get? b = some o → b ∉ k.Xg ∧ b < k.nc
  tabs : ∀ t ∈ k.G.T, t ∈ k.Xg
  xlt : ∀ a ∈ k.Xg, a < k.nc
  L : k.env.locals ∈ k.Xg ∧ k.G.h₀.objs.size ≤ k.env.locals ∧ k.env.locals < k.nc
  lv : k.lv ∈ k.Xg ∧ k.G.h₀.objs.size ≤ k.lv ∧ k.lv < k.nc
  inj : ∀ x y a, k.env.cells.lookup x = some a → k.env.cells.lookup y = some a → x = y
  fix : ∀ p ∈ k.fix, p.1 < k.nc ∧ p.1 ≠ k.env.locals ∧ p.1 ≠ k.lv
  fr : ∀ b ∈ k.Fr, b ∈ k.Xg ∧ b ≠ k.env.locals ∧ b ≠ k.lv ∧ k.G.h₀.objs.size ≤ b ∧ ∀ p ∈ k.fix, p.1 ≠ b

structure GSat (k : Gc) (σ : List (Str × AV)) (rest : List Int) (s : Shared) : Prop where
  ok : k.G.Ok s
  base : ∀ b o, k.B.get? b = some o → s.heap.get? b = some o
  loc : ∃ m, s.heap.Ns k.env.locals m ∧ ∀ x P, (x, P) ∈ σ → ∃ v, m x = some v ∧ P.p v k.B
  lst : ListOf k.rd k.lv rest s.heap
  named : ∀ c, Gl.Ok.Named k.G s c → c < k.nc
  live : ∀ a ∈ k.Xg, ∃ o, s.heap.get? a = some o
  fix : ∀ p ∈ k.fix, s.heap.get? p.1 = some p.2

section
variable {k : Gc} {σ τ : List (Str × AV)} {rest rest' : List Int} {s s' : Shared}
theorem GSat.pv (x : GSat k σ rest s) : ∀ b ∈ k.Pv, ∃ o, s.heap.get? b = some o := fun b hb => by
  rcases List.mem_cons.mp hb with m | m
  · obtain ⟨m', ⟨o, _, _, e, _⟩, _⟩ := x.loc; exact ⟨o, m ▸ e⟩
  · obtain ⟨vs, ⟨n, e⟩, _⟩ := x.lst; exact ⟨_, List.mem_singleton.mp m ▸ e⟩
theorem GSat.baseV (K : k.Ok) (x : GSat k σ rest s) (b : Addr) (o : Obj) (e : k.B.get? b = some o) : (view k.Xg s.heap).get? b = some o := view_get (x.base b o e) (K.hid b o e).1
theorem GSat.sat (K : k.Ok) (x : GSat k σ rest s) (A : Around) : Sat (k.fx A) ⟨σ, []⟩ k.Xg s where
  ok := x.ok
  tabs := K.tabs
  own := fun a h => by rw [List.mem_singleton.mp h]; exact ⟨K.L.1, K.L.2.1⟩
  live := x.live
  L := .head _
  loc := let ⟨m, n, h⟩ := x.loc; ⟨m, n, fun y P hy => let ⟨v, e, p⟩ := h y P hy; ⟨v, e, P.mono (x.baseV K) p⟩⟩
  cel := fun _ _ h => nomatch h
  put := fun _ h => nomatch h
  inj := K.inj
theorem named_step {G : Gl} {c : Addr} (x : G.Ok s) (k : ∀ b o, b < G.h₀.objs.size → s.heap.get? b = some o → s'.heap.get? b = some o) (n : Gl.Ok.Named G s' c) : Gl.Ok.Named G s c := by
  obtain ⟨t, ht, c₁, ps, ⟨_, tp⟩, e⟩ := n
  obtain ⟨c₀, ps₀, ps', h1, h2, _, _⟩ := x.tabs t ht
  have := k _ _ (G.tlt t ht).1 h2.2
  rw [tp] at this
  have : ps = ps' := by
    injection this with z
    injection z with _ _ z _
    injection z
  subst this
  exact ⟨t, ht, _, ps, h2, e⟩
/-- a step that leaves the list and the frame -/
theorem GSat.step (K : k.Ok) (x : GSat k σ rest s) (h : Step k.G false [] s s') : GSat k σ rest s' where
  ok := h.ok x.ok
  base := fun b o e => h.keep _ _ (by simp) (x.base b o e)
  loc := let ⟨m, n, q⟩ := x.loc; ⟨m, ns_keeps (fun o e => h.keep _ _ (by simp) e) n, q⟩
  lst := let ⟨vs, ⟨n, e⟩, p⟩ := x.lst; ⟨vs, ⟨n, h.keep _ _ (by simp) e⟩, p⟩
  named := fun c n => x.named c (named_step x.ok (fun b o _ e => h.keep _ _ (by simp) e) n)
  live := fun a m => let ⟨o, e⟩ := x.live a m; ⟨o, h.keep _ _ (by simp) e⟩
  fix := fun p m => h.keep _ _ (by simp) (x.fix p m)

/-- a pure value: no heap is asked -/
def AV.Pure (P : AV) : Prop := ∀ v h h', P.p v h → P.p v h'
theorem pure_int {i : Int} : (aInt i).Pure := fun _ _ _ h => h

/-- a statement of the generator that does not yield -/
def GNx (k : Gc) (σ : List (Str × AV)) (rest : List Int) (st : Stmt) (τ : List (Str × AV)) (rest' : List Int) : Prop :=
  ∀ A s, Rm A 4 → GSat k σ rest s → ∀ (Q : Flow → Shared → Prop) (E : Value → Shared → Prop), (∀ s', Step k.G false k.Pv s s' → GSat k τ rest' s' → Q .next s') → wpAny k.M A (exec st k.env) Q E s

theorem GSat.store {A : Around} {x : Str} {v : Value} {P : AV} {Q : Unit → Shared → Prop} {E : Value → Shared → Prop} (K : k.Ok) (S : GSat k σ rest s) (hp : P.p v k.B) (hk : k.env.scope.kind = .function) (hl : k.env.kindOf x = some .local)
    (h : ∀ s', Step k.G false k.Pv s s' → GSat k (putA x P σ) rest s' → Q () s') : wpAny k.M A (storeName k.env x v) Q E s := by
  obtain ⟨m, n, hm⟩ := S.loc
  refine wpAny_storeName_local hl n (fun h' n' sb => ?_) (by rw [hk]; rfl)
  have kL : ∀ b o, b ≠ k.env.locals → s.heap.get? b = some o → h'.get? b = some o := fun b o q e => (sb.2 b q).trans e
  have st : Step k.G false k.Pv s { s with heap := h', toks := s.toks + 1 } := Step.but (.head _) K.L.2.1 (fun o e _ vs d => by obtain ⟨o', _, _, e', d', _⟩ := n; rw [e] at e'; cases e'; rw [d] at d'; cases d') kL
  refine h _ st ⟨st.ok S.ok, fun b o e => kL b o (fun q => (K.hid b o e).1 (q ▸ K.L.1)) (S.base b o e), ⟨_, n', fun y P' hy => ?_⟩, ?_, fun c nm => S.named c (named_step S.ok (fun b o l e => kL b o (Nat.ne_of_lt (Nat.lt_of_lt_of_le l K.L.2.1)) e) nm), fun a ha => ?live, fun p m => kL _ _ (K.fix p m).2.1 (S.fix p m)⟩
  case live =>
    by_cases z : a = k.env.locals
    · obtain ⟨o, _, _, e, _⟩ := n'; exact ⟨o, z ▸ e⟩
    · obtain ⟨o, e⟩ := S.live a ha; exact ⟨o, kL _ _ z e⟩
  · rcases putA_mem hy with q | ⟨q, ne⟩
    · cases q; exact ⟨v, by simp, hp⟩
    · obtain ⟨u, e, hp'⟩ := hm y P' q
      exact ⟨u, by simp only [ne, if_false]; exact e, hp'⟩
  · obtain ⟨vs, ⟨n3, e⟩, p⟩ := S.lst
    refine ⟨vs, ⟨n3, kL _ _ (fun q => ?_) e⟩, p⟩
    obtain ⟨o', _, _, e', d', _⟩ := n
    rw [q, e'] at e; cases e; cases d'

/-- what a step does to the private objects too -/
theorem Step.pv (h : Step k.G false [] s s') : Step k.G false k.Pv s s' := h.more fun _ m => nomatch m

theorem GNx.assign {x : Str} {xp pos : Pos} {e : Expr} {i : Int} (K : k.Ok) (he : ∀ A, Rm A 4 → Ev (k.fx A) ⟨σ, []⟩ e (aInt i)) (hk : k.env.scope.kind = .function) (hl : k.env.kindOf x = some .local) (hs : swapsWith e (some (.Name x xp)) pos.line k.env = pure false) :
    GNx k σ rest (.Assign [.Name x xp] e pos) (putA x (aInt i) σ) rest := fun A s rm S Q E h =>
  wpAny_Assign_Name (he A rm k.Xg s (S.sat K A) _ _ fun v s₁ k₁ p₁ => (S.step K k₁).store K (P := aInt i) p₁ hk hl fun s₂ k₂ S₂ => h s₂ (k₁.pv.trans k₂) S₂) hs
theorem GNx.incr {x : Str} {xp pos : Pos} {e : Expr} {i j : Int} (K : k.Ok) (hx : (x, aInt j) ∈ σ) (he : ∀ A, Rm A 4 → Ev (k.fx A) ⟨σ, []⟩ e (aInt i)) (hk : k.env.scope.kind = .function) (hl : k.env.kindOf x = some .local) :
    GNx k σ rest (.AugAssign (.Name x xp) .Add e pos) (putA x (aInt (j + i)) σ) rest := fun A s rm S Q E h => by
  obtain ⟨m, n, hm⟩ := S.loc
  obtain ⟨v, ev, t, rfl⟩ := hm x _ hx
  refine wpAny_AugAssign_Name (wpAny_loadName_local hk hl n ev ?_)
  refine he A rm k.Xg s (S.sat K A) _ _ fun v s₁ k₁ ⟨u, e₁⟩ => ?_
  subst e₁
  refine PyProof.Rows.iadd_int ?_
  have k₂ : Step k.G false [] s₁ { s₁ with toks := s₁.toks + 1 } := .toks
  exact ((S.step K k₁).step K k₂).store K (P := aInt (j + i)) ⟨_, rfl⟩ hk hl fun s₂ k₃ S₂ => h s₂ ((k₁.trans k₂).pv.trans k₃) S₂
theorem GNx.assert_t {t : Expr} {msg : Option Expr} {pos : Pos} (K : k.Ok) (a : ∀ A, Rm A 4 → Tr (k.fx A) ⟨σ, []⟩ t true) : GNx k σ rest (.Assert t msg pos) σ rest := fun A s rm S Q E h =>
  wpAny_Assert_holds (a A rm k.Xg s (S.sat K A) _ _ fun s' k' => ⟨rfl, h s' k'.pv (S.step K k')⟩)

/-- a call of next_value: the next of the list -/
def NextV (k : Gc) (f : Addr) : Prop := ∀ A s x rest, Rm A 3 → k.G.Ok s → (∀ b o, k.B.get? b = some o → s.heap.get? b = some o) → (∀ p ∈ k.fix, s.heap.get? p.1 = some p.2) → ListOf k.rd k.lv (x :: rest) s.heap → ∀ (Z : Result → Shared → Prop),
  (∀ v s', Step k.G false [k.lv] s s' → (∃ t, v = .int x t) → ListOf k.rd k.lv rest s'.heap → Z (.ok (.ret v)) s') → codeAny k.M A (.call (.ref f) ⟨[], []⟩) Z s
theorem GNx.draw {x y : Str} {xp np pos cp : Pos} {f : Addr} {i : Int} (K : k.Ok) (hn : (y, aVal (.ref f)) ∈ σ) (N : NextV k f) (hkp : ∃ fd, (f, ({ cls := .type "function", data := .func fd } : Obj)) ∈ k.fix) (hk : k.env.scope.kind = .function) (hl : k.env.kindOf x = some .local) (hy : k.env.kindOf y = some .local) (hd : (y == ("__debug__" : Str)) = false)
    (hs : swapsWith (.Call (.Name y np) [] [] cp) (some (.Name x xp)) pos.line k.env = pure false) :
    GNx k σ (i :: rest) (.Assign [.Name x xp] (.Call (.Name y np) [] [] cp) pos) (putA x (aInt i) σ) rest := fun A s rm S Q E h => by
  refine wpAny_Assign_Name (wpAny_Call_NameR ?_) hs
  refine (Ev.loc (c := k.fx A) (σ := ⟨σ, []⟩) (P := aVal (.ref f)) hn hy hk hd) k.Xg s (S.sat K A) _ _ fun v s₁ k₁ e₁ => ?_
  have e₁ : v = .ref f := e₁
  subst e₁
  have S₁ := S.step K k₁
  obtain ⟨fd, hfd⟩ := hkp
  refine callWith_of (P := fun hh => ∃ q, (q = Keeper.frame ∨ q = Keeper.machine ∨ q = Keeper.boundFrame) ∧ Looks k.M hh (keeperOf (.ref f)) q) rfl (fun _ x => x) (evalArgs_nil3 ⟨⟨.frame, .inl rfl, (Looks.ld (part := Option.none) (S₁.fix _ hfd)).andThen .now⟩, ?_⟩)
  show wpAny k.M A (call (.ref f) []) _ _ _
  have k₂ : Step k.G false [] s₁ s₁ := .refl
  have S₂ := S₁
  refine wpAny_call (N A s₁ i rest (rm.less (by omega)) S₂.ok S₂.base S₂.fix S₂.lst _ fun v s₃ k₃ ⟨t, e₃⟩ l₃ => ?_)
  subst e₃
  have lL : k.lv ≠ k.env.locals := fun q => by
    obtain ⟨_, ⟨o, _, _, e, d, _⟩, _⟩ := S₂.loc
    obtain ⟨vs, ⟨_, e'⟩, _⟩ := S₂.lst
    rw [q, e] at e'; cases e'; cases d
  have S₃ : GSat k σ rest s₃ := by
    refine ⟨k₃.ok S₂.ok, fun b o e => k₃.keep b o (fun q => (K.hid b o e).1 (by rw [List.mem_singleton.mp q]; exact K.lv.1)) (S₂.base b o e), ?_, l₃, fun c nm => S₂.named c (named_step S₂.ok (fun b o l e => k₃.keep b o (fun q => by rw [List.mem_singleton.mp q] at l; exact Nat.lt_irrefl _ (Nat.lt_of_lt_of_le l K.lv.2.1)) e) nm), fun a ha => ?live, fun p m => k₃.keep _ _ (fun q => (K.fix p m).2.2 (List.mem_singleton.mp q)) (S₂.fix p m)⟩
    case live =>
      by_cases z : a = k.lv
      · obtain ⟨_, ⟨_, e⟩, _⟩ := l₃; exact ⟨_, z ▸ e⟩
      · obtain ⟨o, e⟩ := S₂.live a ha; exact ⟨o, k₃.keep _ _ (fun q => z (List.mem_singleton.mp q)) e⟩
    obtain ⟨m, n, hm⟩ := S₂.loc
    exact ⟨m, ns_keeps (fun o e => k₃.keep _ _ (fun q => lL (List.mem_singleton.mp q).symm) e) n, hm⟩
  refine S₃.store K (P := aInt i) ⟨t, rfl⟩ hk hl fun s₄ k₄ S₄ => h s₄ (((k₁.trans k₂).pv.trans (k₃.more fun a q => ?_)).trans k₄) S₄
  rw [List.mem_singleton.mp q]; exact .tail _ (.head _)

/-! ### the yields -/
def Alive (k : Gc) (s' s'' : Shared) : Prop := k.G.Ok s'' ∧ ∀ b o, b < k.nc → s'.heap.get? b = some o → (b ∉ k.Fr → s''.heap.get? b = some o) ∧ ∃ o', s''.heap.get? b = some o'
theorem Alive.refl {k : Gc} {s' s'' : Shared} (ok : k.G.Ok s'') (h : ∀ b o, s'.heap.get? b = some o → s''.heap.get? b = some o) : Alive k s' s'' := ⟨ok, fun b o _ e => ⟨fun _ => h b o e, o, h b o e⟩⟩
def Yv (k : Gc) : Protocol := fun n s₀ v s' kap => (∃ i t pre post, k.items = pre ++ i :: post ∧ post.length = n ∧ v = .int i t) ∧ Step k.G false k.Pv s₀ s' ∧ (∀ c, Gl.Ok.Named k.G s' c → c < k.nc) ∧ (∀ b ∈ k.Pv, ∃ o, s'.heap.get? b = some o) ∧ (∀ s'', Alive k s' s'' → kap (.send .none) s'')
def Re (k : Gc) : GenEnd := fun n s₀ r s₁ => r = .ok (.ret .none) ∧ n = 0 ∧ Step k.G false k.Pv s₀ s₁

theorem GSat.alive (K : k.Ok) (S : GSat k σ rest s) (a : Alive k s s') : GSat k σ rest s' where
  ok := a.1
  base := fun b o e => (a.2 b o (K.hid b o e).2 (S.base b o e)).1 fun m => (K.hid b o e).1 (K.fr b m).1
  loc := let ⟨m, n, q⟩ := S.loc; ⟨m, ns_keeps (fun o e => (a.2 _ _ K.L.2.2 e).1 fun m => (K.fr _ m).2.1 rfl) n, q⟩
  lst := let ⟨vs, ⟨n, e⟩, p⟩ := S.lst; ⟨vs, ⟨n, (a.2 _ _ K.lv.2.2 e).1 fun m => (K.fr _ m).2.2.1 rfl⟩, p⟩
  named := fun c n => S.named c (named_step S.ok (fun b o l e => (a.2 b o (Nat.lt_trans (Nat.lt_of_lt_of_le l K.lv.2.1) K.lv.2.2) e).1 fun m => Nat.lt_irrefl _ (Nat.lt_of_lt_of_le l (K.fr b m).2.2.2.1)) n)
  live := fun b m => let ⟨o, e⟩ := S.live b m; (a.2 b o (K.xlt b m) e).2
  fix := fun p m => (a.2 _ _ (K.fix p m).1 (S.fix p m)).1 fun q => (K.fr _ q).2.2.2.2 p m rfl

/-- statements that yield ys, then go on -/
def GS (k : Gc) (σ : List (Str × AV)) (rest : List Int) (l : List Stmt) (ys : List Int) (τ : List (Str × AV)) (rest' : List Int) : Prop :=
  ∀ (A : Around) (code : Code) (fs : List Frame) (Kn : Flow → Sem Fin) (H : Value → Sem Fin) (gd : Bool → Bool) (lv : List Value → List Value) (m : Nat) (s₀ s : Shared) (pre post : List Int),
    Rm (A.over code fs) 4 → splitAtGen fs = none → fs.any Frame.guarded = false → gd false = false → k.items = pre ++ ys ++ post → post.length = m → GSat k σ rest s → Step k.G false k.Pv s₀ s →
    (∀ s₀' s', GSat k τ rest' s' → Step k.G false k.Pv s₀' s' → Seg k.M A (Re k) (Yv k) m s₀' code (Kn .next) fs s') →
    Seg k.M A (Re k) (Yv k) (m + ys.length) s₀ code ((execs l k.env).wrap Kn H gd lv) fs s

theorem GS.nil : GS k σ rest [] [] σ rest := fun A code fs Kn H gd lv m s₀ s pre post _ _ _ _ _ _ S st q => seg_execs_nil (q s₀ s S st)
theorem GS.cons {υ : List (Str × AV)} {rest'' : List Int} {st : Stmt} {l : List Stmt} {ys : List Int} (a : GNx k σ rest st τ rest') (b : GS k τ rest' l ys υ rest'') : GS k σ rest (st :: l) ys υ rest'' :=
  fun A code fs Kn H gd lv m s₀ s pre post rm h1 h2 h3 h4 h5 S st' q => by
    refine seg_execs_cons (seg_wrap (a (A.over code fs) s rm S _ _ fun s₁ k₁ S₁ => ?_))
    exact b A code fs Kn H gd lv m s₀ s₁ pre post rm h1 h2 h3 h4 h5 S₁ (st'.trans k₁) q
theorem GS.yield {e : Expr} {yp pos : Pos} {l : List Stmt} {y : Int} {ys : List Int} (K : k.Ok) (he : ∀ A, Rm A 4 → Ev (k.fx A) ⟨σ, []⟩ e (aInt y)) (b : GS k σ rest l ys τ rest') (hco : k.env.scope.isCoroutine = false) (hi : interactive k.env = false) :
    GS k σ rest (.Expr (.Yield (some e) yp) pos :: l) (y :: ys) τ rest' := fun A code fs Kn H gd lv m s₀ s pre post rm h1 h2 h3 h4 h5 S st' q => by
  refine seg_execs_cons ?_
  have : m + (y :: ys).length = (m + ys.length) + 1 := by rw [List.length_cons, Nat.add_assoc]
  rw [this]
  refine seg_Expr_Yield h1 h3 h2 (he (A.over code fs) rm k.Xg s (S.sat K _) _ _ fun v s₁ k₁ ⟨t, e₁⟩ => ?_) hco hi
  subst e₁
  intro kap hk
  have S₁ := S.step K k₁
  refine ⟨⟨y, t, pre, ys ++ post, by rw [h4]; simp, by rw [List.length_append, h5, Nat.add_comm], rfl⟩, st'.trans k₁.pv, S₁.named, S₁.pv, fun s'' al => hk .none s'' ?_⟩
  exact b A code fs Kn H gd lv m s'' s'' (pre ++ [y]) post rm h1 h2 h3 (by rw [h4]; simp) h5 (S₁.alive K al) .refl q
theorem seg_If {M : Model} {A : Around} {R : GenEnd} {Y : Protocol} {n : Nat} {s₀ : Shared} {c : Code} {fs : List Frame} {s : Shared} {env : Env} {K : Flow → Sem Fin} {H : Value → Sem Fin} {gd : Bool → Bool} {lv : List Value → List Value} {t : Expr} {b o : List Stmt} {pos : Pos}
    (h : wpAny M (A.over c fs) (isTrue t env (eval t env)) (fun x s' => Seg M A R Y n s₀ c ((if x then execs b env else execs o env).wrap K H gd lv) fs s') (fun x s' => Seg M A R Y n s₀ c (H x) fs s') s) :
    Seg M A R Y n s₀ c ((exec (.If t b o pos) env).wrap K H gd lv) fs s := by
  rw [exec_If]
  show Seg M A R Y n s₀ c (.at pos fun _ => (isTrue t env (eval t env) >>= fun x => if x then execs b env else execs o env).wrap K H gd lv) fs s
  refine seg_at ?_
  rw [Sem.bind_eq_wrap', Sem.wrap_wrap]
  exact seg_wrap h
theorem GS.if_t {υ : List (Str × AV)} {rest'' : List Int} {t : Expr} {b o : List Stmt} {pos : Pos} {l : List Stmt} {ys zs : List Int} (K : k.Ok) (a : ∀ A, Rm A 4 → Tr (k.fx A) ⟨σ, []⟩ t true) (hb : GS k σ rest b ys τ rest') (hl : GS k τ rest' l zs υ rest'') :
    GS k σ rest (.If t b o pos :: l) (ys ++ zs) υ rest'' := fun A code fs Kn H gd lv m s₀ s pre post rm h1 h2 h3 h4 h5 S st' q => by
  refine seg_execs_cons ?_
  refine seg_If (a (A.over code fs) rm k.Xg s (S.sat K _) _ _ fun s₁ k₁ => ?_)
  rw [if_pos rfl]
  have hln : m + (ys ++ zs).length = (m + zs.length) + ys.length := by rw [List.length_append]; omega
  rw [hln]
  refine hb A code fs _ H gd lv (m + zs.length) s₀ s₁ pre (zs ++ post) rm h1 h2 h3 (by rw [h4]; simp) (by rw [List.length_append, h5, Nat.add_comm]) (S.step K k₁) (st'.trans k₁.pv) fun s₀' s' S' k' => ?_
  exact hl A code fs Kn H gd lv m s₀' s' (pre ++ ys) post rm h1 h2 h3 (by rw [h4]; simp) h5 S' k' q
theorem GS.if_f {υ : List (Str × AV)} {rest'' : List Int} {t : Expr} {b o : List Stmt} {pos : Pos} {l : List Stmt} {ys zs : List Int} (K : k.Ok) (a : ∀ A, Rm A 4 → Tr (k.fx A) ⟨σ, []⟩ t false) (hb : GS k σ rest o ys τ rest') (hl : GS k τ rest' l zs υ rest'') :
    GS k σ rest (.If t b o pos :: l) (ys ++ zs) υ rest'' := fun A code fs Kn H gd lv m s₀ s pre post rm h1 h2 h3 h4 h5 S st' q => by
  refine seg_execs_cons ?_
  refine seg_If (a (A.over code fs) rm k.Xg s (S.sat K _) _ _ fun s₁ k₁ => ?_)
  rw [if_neg Bool.false_ne_true]
  have hln : m + (ys ++ zs).length = (m + zs.length) + ys.length := by rw [List.length_append]; omega
  rw [hln]
  refine hb A code fs _ H gd lv (m + zs.length) s₀ s₁ pre (zs ++ post) rm h1 h2 h3 (by rw [h4]; simp) (by rw [List.length_append, h5, Nat.add_comm]) (S.step K k₁) (st'.trans k₁.pv) fun s₀' s' S' k' => ?_
  exact hl A code fs Kn H gd lv m s₀' s' (pre ++ ys) post rm h1 h2 h3 (by rw [h4]; simp) h5 S' k' q
end
end
section
section
variable {k : Gc} {σ τ υ : List (Str × AV)} {rest rest' rest'' : List Int} {s s' : Shared}

theorem rm_in {A : Around} {c : Code} {fs : List Frame} {t : Expr} {b o : List Stmt} {env : Env} {K : Result → Sem Fin} {g : Bool} {l : List Value} {p : Pos} {kp : List Value} {n : Nat}
    (r : Rm (A.over c fs) n) : Rm (A.over (.whileLoop t b o env) (.ret K none g l c p kp :: fs)) n := by
  obtain ⟨h, d, u⟩ := r
  have e1 : frameCount ((Frame.ret K none g l c p kp :: fs).map Frame.where_) = c.weight + frameCount (fs.map Frame.where_) := by
    rw [List.map_cons]; exact frameCount_cons c p _
  have e2 : unitsOf ((Frame.ret K none g l c p kp :: fs).map Frame.where_) = c.cUnits + unitsOf (fs.map Frame.where_) := by
    rw [List.map_cons]; exact unitsOf_cons c p _
  refine ⟨h, ?_, ?_⟩
  · show A.depth + frameCount ((Frame.ret K none g l c p kp :: fs).map Frame.where_) + (Code.whileLoop t b o env).weight + n < recursionLimit
    have d' : A.depth + frameCount (fs.map Frame.where_) + c.weight + n < recursionLimit := d
    rw [e1, show (Code.whileLoop t b o env).weight = 0 from rfl]; omega
  · show A.units + unitsOf ((Frame.ret K none g l c p kp :: fs).map Frame.where_) + (Code.whileLoop t b o env).cUnits + 8 * n < cLine
    have u' : A.units + unitsOf (fs.map Frame.where_) + c.cUnits + 8 * n < cLine := u
    rw [e2, show (Code.whileLoop t b o env).cUnits = 0 from rfl]; omega
theorem split_ret {K : Result → Sem Fin} {h : Option Value} {g : Bool} {l : List Value} {c : Code} {p : Pos} {kp : List Value} {fs : List Frame} (e : splitAtGen fs = none) : splitAtGen (.ret K h g l c p kp :: fs) = none := by
  show (splitAtGen fs).map _ = none
  rw [e]; rfl

/-- the turns of a loop -/
inductive GW (k : Gc) (t : Expr) (b : List Stmt) : List (Str × AV) → List Int → List Int → List (Str × AV) → List Int → Prop
  | done {σ : List (Str × AV)} {rest : List Int} : (∀ A, Rm A 4 → Tr (k.fx A) ⟨σ, []⟩ t false) → GW k t b σ rest [] σ rest
  | turn {σ τ υ : List (Str × AV)} {rest rest' rest'' ys zs : List Int} : (∀ A, Rm A 4 → Tr (k.fx A) ⟨σ, []⟩ t true) → GS k σ rest b ys τ rest' → GW k t b τ rest' zs υ rest'' → GW k t b σ rest (ys ++ zs) υ rest''

theorem GW.seg {t : Expr} {b : List Stmt} {ys : List Int} (K : k.Ok) (w : GW k t b σ rest ys τ rest') : ∀ {A : Around} {fs : List Frame} {m : Nat} {s₀ s : Shared} {pre post : List Int},
    Rm (A.over (.whileLoop t b [] k.env) fs) 4 → splitAtGen fs = none → fs.any Frame.guarded = false → k.items = pre ++ ys ++ post → post.length = m → GSat k σ rest s → Step k.G false k.Pv s₀ s →
    (∀ s₀' s', GSat k τ rest' s' → Step k.G false k.Pv s₀' s' → Seg k.M A (Re k) (Yv k) m s₀' (.whileLoop t b [] k.env) (.pure (.done .next)) fs s') →
    Seg k.M A (Re k) (Yv k) (m + ys.length) s₀ (.whileLoop t b [] k.env) (k.M.den (.whileLoop t b [] k.env)) fs s := by
  induction w with
  | @done σ rest a =>
    intro A fs m s₀ s pre post rm h1 h2 h4 h5 S st q
    refine seg_whileLoop (a _ rm k.Xg s (S.sat K _) _ _ fun s₁ k₁ => ?_)
    rw [if_neg Bool.false_ne_true]
    exact q s₀ s₁ (S.step K k₁) (st.trans k₁.pv)
  | @turn σ τ υ rest rest' rest'' ys zs a hb w ih =>
    intro A fs m s₀ s pre post rm h1 h2 h4 h5 S st q
    refine seg_whileLoop (a _ rm k.Xg s (S.sat K _) _ _ fun s₁ k₁ => ?_)
    rw [if_pos rfl]
    have hln : m + (ys ++ zs).length = (m + zs.length) + ys.length := by rw [List.length_append]; omega
    rw [hln]
    refine hb A _ fs _ _ id id (m + zs.length) s₀ s₁ pre (zs ++ post) rm h1 h2 rfl (by rw [h4]; simp) (by rw [List.length_append, h5, Nat.add_comm]) (S.step K k₁) (st.trans k₁.pv) fun s₀' s' S' k' => ?_
    refine seg_again rfl (ih rm h1 h2 (pre := pre ++ ys) (by rw [h4]; simp) h5 S' k' q)

theorem GS.while {t : Expr} {b : List Stmt} {pos : Pos} {l : List Stmt} {ys zs : List Int} (K : k.Ok) (w : GW k t b σ rest ys τ rest') (hl : GS k τ rest' l zs υ rest'') : GS k σ rest (.While t b [] pos :: l) (ys ++ zs) υ rest'' :=
  fun A code fs Kn H gd lv m s₀ s pre post rm h1 h2 h3 h4 h5 S st q => by
    refine seg_execs_cons (seg_While fun p => ?_)
    have hln : m + (ys ++ zs).length = (m + zs.length) + ys.length := by rw [List.length_append]; omega
    rw [hln]
    refine w.seg K (rm_in rm) (split_ret h1) (by show (gd false || fs.any Frame.guarded) = false; rw [h3, h2]; rfl) (pre := pre) (post := zs ++ post) (by rw [h4]; simp) (by rw [List.length_append, h5, Nat.add_comm]) S st fun s₀' s' S' k' => ?_
    refine seg_leaf (.ok .next) ?_
    exact hl A code fs Kn H gd lv m s₀' s' (pre ++ ys) post rm h1 h2 h3 (by rw [h4]; simp) h5 S' k' q

/-- the whole body, from its first call -/
theorem GS.fresh {body : List Stmt} {A : Around} (g : GS k σ rest body k.items τ rest') (rm : Rm (A.over (.func body k.env) []) 4) (S : GSat k σ rest s) : Seg k.M A (Re k) (Yv k) k.items.length s (.func body k.env) (k.M.den (.func body k.env)) [] s := by
  refine seg_func ?_
  have := g A (.func body k.env) [] (fun f => .pure (.done (.ret (match f with | .ret v => v | _ => .none)))) (fun e => (leaving k.env e).wrap (fun _ => .raise e) .raise id id) id id 0 s s [] [] rm rfl rfl rfl (by simp) rfl S .refl fun s₀' s' S' k' => seg_end (.ok (.ret .none)) ⟨rfl, rfl, k'⟩
  rw [Nat.zero_add] at this
  exact this

/-! ### the generator as an iterator -/
structure GenSt (k : Gc) (A : Around) (I g : Nat) (i : Nat) (s : Shared) : Prop where
  gen : s.heap.IsGen I g
  ok : k.G.Ok s
  named : ∀ c, Gl.Ok.Named k.G s c → c < k.nc
  pv : ∀ b ∈ k.Pv, ∃ o, s.heap.get? b = some o
  goes : ∃ gs, s.gens[g]? = some gs ∧ ∀ s'', Alive k s s'' → gs.Goes k.M A.in1 (Re k) (Yv k) (k.items.length - i) (.send .none) s''

theorem bare_set {gens : Array GenState} {g : Nat} {x : GenState} (h : AllBare gens) (hx : x.bare = true) : AllBare (gens.setIfInBounds g x) := fun y hy => by
  rcases Array.mem_or_eq_of_mem_setIfInBounds hy with h' | h'
  · exact h y h'
  · rw [h']; exact hx
theorem Gl.Ok.setGen {G : Gl} {g : Nat} {x : GenState} (h : G.Ok s) (hx : x.bare = true) : G.Ok (s.setGen g x) := h.step (fun _ _ _ e => e) (bare_set h.bare hx)
theorem named_setGen {G : Gl} {g : Nat} {x : GenState} {c : Nat} (h : Gl.Ok.Named G (s.setGen g x) c) : Gl.Ok.Named G s c := h

/-- what waking the generator turns: its own objects, its own state -/
structure Woke (k : Gc) (g : Nat) (s s' : Shared) : Prop where
  keep : ∀ b o, b ∉ k.Pv → s.heap.get? b = some o → s'.heap.get? b = some o
  ok : k.G.Ok s'
  gens : ∀ i, i ≠ g → s'.gens[i]? = s.gens[i]?
  size : s'.gens.size = s.gens.size
  drawn : s'.drawn = s.drawn
  os : s'.os = s.os

theorem woke_of {g : Nat} {x : GenState} {s₁ : Shared} (st : Step k.G false k.Pv (s.setGen g .running) s₁) (ok : k.G.Ok s) (hx : x.bare = true) : Woke k g s (s₁.setGen g x) := by
  have hg : s₁.gens = s.gens.setIfInBounds g .running := by
    have := st.gens
    simpa [GX, Shared.setGen] using this
  refine ⟨st.keep, (st.ok (ok.setGen rfl)).setGen hx, fun i hi => ?_, ?_, st.drawn, st.os⟩
  · show (s₁.gens.setIfInBounds g x)[i]? = _
    rw [Array.getElem?_setIfInBounds_ne (Ne.symm hi), hg, Array.getElem?_setIfInBounds_ne (Ne.symm hi)]
  · show (s₁.gens.setIfInBounds g x).size = _
    rw [Array.size_setIfInBounds, hg, Array.size_setIfInBounds]

theorem isGen_keeps {h h' : Heap} {a g : Nat} (x : h.IsGen a g) (hk : ∀ o, h.get? a = some o → h'.get? a = some o) : h'.IsGen a g := let ⟨o, nm, qn, ho, r⟩ := x; ⟨o, nm, qn, hk _ ho, r⟩

theorem gen_item {A : Around} {I g i : Nat} {Q : Option Value → Shared → Prop} {E : Value → Shared → Prop} (K : k.Ok) (rm : Rm A 1) (hI : k.nc ≤ I) (hi : i < k.items.length) (S : GenSt k A I g i s)
    (q : ∀ v s', (∃ t, v = .int (k.items.getD i 0) t) → Woke k g s s' → GenSt k A I g (i + 1) s' → Q (some v) s') : wpAny k.M A (pyNext (.ref I)) Q E s := by
  obtain ⟨hg, ok, nm, pv, gs, hgs, hgo⟩ := S
  have hIP : I ∉ k.Pv := fun m => by
    rcases List.mem_cons.mp m with m | m
    · exact Nat.lt_irrefl _ (Nat.lt_of_lt_of_le (m ▸ K.L.2.2) hI)
    · rw [List.mem_singleton.mp m] at hI; exact Nat.lt_irrefl _ (Nat.lt_of_lt_of_le K.lv.2.2 hI)
  have hgo' := hgo (s.setGen g .running) (.refl (ok.setGen rfl) fun _ _ e => e)
  obtain ⟨m, hm⟩ : ∃ m, k.items.length - i = m + 1 := ⟨k.items.length - i - 1, by omega⟩
  rw [hm] at hgo'
  unfold pyNext
  refine wpAny_bind (wpAny_attempt (wpAny_callSpecial?_slot (name := Str.ofString "__next__") hg.typeIs slot_gen_next
    (wpAny_call_entry slot_gen_next hg.typeIs entry_gen_next ?_ (args_gen_next _))))
  show wpAny _ A.in1 (Builtin.Generator.genWake (.ref I) (.send .none)) _ _ s
  unfold Builtin.Generator.genWake
  refine wpAny_bind (wpAny_holding (wpAny_genNumber hg (wpAny_bind (wpAny_genState hgs ?_))))
  cases gs with
  | running => exact hgo'.elim
  | finished => exact hgo'.elim
  | _ =>
    refine wpAny_bind (wpAny_roomToWake ok.nolim (by have := rm.d; show A.depth < _; omega) ?_)
    show wpAny _ A.in1 (.resume g (.send .none) [] _) _ _ s
    refine wpAny_resumeQ hgs hgo' (fun x s₁ hx => ?_) (fun v s₁ gs' hb hv => ?_)
    · exact absurd hx.2.1 (Nat.succ_ne_zero m)
    · obtain ⟨⟨y, t, pre, post, e1, e2, rfl⟩, st, nm', pv', al⟩ := hv
      refine wpAny_pure ⟨_, rfl, wpAny_pure (q _ _ ⟨t, ?_⟩ (woke_of st ok hb) ⟨?_, (woke_of st ok hb).ok, nm', pv', gs', ?_, fun s'' a => ?_⟩)⟩
      · have hp : pre.length = i := by
          have := congrArg List.length e1
          simp only [List.length_append, List.length_cons] at this
          omega
        rw [e1, List.getD_eq_getElem?_getD, List.getElem?_append_right (by omega)]
        simp [hp]
      · exact isGen_keeps hg fun o e => st.keep _ _ hIP e
      · have hlt : g < s.gens.size := (Array.getElem?_eq_some_iff.mp hgs).1
        have hg1 : s₁.gens = s.gens.setIfInBounds g .running := by
          have := st.gens
          simpa [GX, Shared.setGen] using this
        show (s₁.gens.setIfInBounds g gs')[g]? = some gs'
        rw [Array.getElem?_setIfInBounds_self_of_lt (by rw [hg1, Array.size_setIfInBounds]; exact hlt)]
      · have e : k.items.length - (i + 1) = m := by omega
        rw [e]
        exact al s'' ⟨a.1, a.2⟩

theorem gen_done {A : Around} {I g : Nat} {Q : Option Value → Shared → Prop} {E : Value → Shared → Prop} (K : k.Ok) (rm : Rm A 1) (hI : k.nc ≤ I) (S : GenSt k A I g k.items.length s)
    (q : ∀ s', Woke k g s s' → Q none s') : wpAny k.M A (pyNext (.ref I)) Q E s := by
  obtain ⟨hg, ok, nm, pv, gs, hgs, hgo⟩ := S
  have hgo' := hgo (s.setGen g .running) (.refl (ok.setGen rfl) fun _ _ e => e)
  rw [Nat.sub_self] at hgo'
  unfold pyNext
  refine wpAny_bind (wpAny_attempt (wpAny_callSpecial?_slot (name := Str.ofString "__next__") hg.typeIs slot_gen_next
    (wpAny_call_entry slot_gen_next hg.typeIs entry_gen_next ?_ (args_gen_next _))))
  show wpAny _ A.in1 (Builtin.Generator.genWake (.ref I) (.send .none)) _ _ s
  unfold Builtin.Generator.genWake
  refine wpAny_bind (wpAny_holding (wpAny_genNumber hg (wpAny_bind (wpAny_genState hgs ?_))))
  cases gs with
  | running => exact hgo'.elim
  | finished => exact hgo'.elim
  | _ =>
    refine wpAny_bind (wpAny_roomToWake ok.nolim (by have := rm.d; show A.depth < _; omega) ?_)
    show wpAny _ A.in1 (.resume g (.send .none) [] _) _ _ s
    refine wpAny_resumeQ hgs hgo' (fun x s₁ hx => ?_) (fun v s₁ gs' hb hv => ?_)
    · obtain ⟨rfl, _, st⟩ := hx
      show wpAny _ A.in1 (newExc (.type "StopIteration") [] >>= _) _ _ _
      refine wpAny_bind ?_
      simp only [newExc, newTuple]
      refine wpAny_bind (wpAny_newObj_type ?_ (by size_fits))
      refine wpAny_bind (m := firstArgMember _ _) (wpAny_of_eq (a := Value.none) (by first | rfl | (simp only [firstArgMember]; rfl)) ?_)
      refine wpAny_newObj_type ?_ (by size_fits)
      simp only [raiseNew]
      refine wpAny_bind (wpAny_bind (wpAny_handled ?_))
      rw [show A.in1.handled = none from rm.h]
      refine wpAny_throw ?_
      refine wpAny_bind (wpAny_isInstance (T := "StopIteration") (b := true) ⟨_, Heap.get?_push_size _ rfl, rfl⟩ isSubtype_stop ?_)
      have w := woke_of (x := .finished) st ok rfl
      refine wpAny_pure (q _ ⟨fun b o hb e => Heap.get?_push_of_some _ (Heap.get?_push_of_some _ (w.keep b o hb e)), w.ok.step (fun b o _ e => Heap.get?_push_of_some _ (Heap.get?_push_of_some _ e)) w.ok.bare, w.gens, w.size, w.drawn, w.os⟩)
    · obtain ⟨⟨y, t, pre, post, e1, e2, rfl⟩, st, nm', pv', al⟩ := hv
      exact False.elim (al s₁ (.refl (st.ok (ok.setGen rfl)) fun _ _ e => e))
end
end
section

/-- what a walk's step turns -/
structure Mv (G : Gl) (wr : List Addr) (gx : Option Nat) (s s' : Shared) : Prop where
  keep : ∀ b o, b ∉ wr → s.heap.get? b = some o → s'.heap.get? b = some o
  ok : G.Ok s'
  gens : ∀ i, gx ≠ some i → s'.gens[i]? = s.gens[i]?
  size : s'.gens.size = s.gens.size
  drawn : s'.drawn = s.drawn
  os : s'.os = s.os
namespace Mv
variable {G : Gl} {wr : List Addr} {gx : Option Nat} {s s' s'' : Shared}
theorem refl (ok : G.Ok s) : Mv G wr gx s s := ⟨fun _ _ _ e => e, ok, fun _ _ => rfl, rfl, rfl, rfl⟩
theorem trans (x : Mv G wr gx s s') (y : Mv G wr gx s' s'') : Mv G wr gx s s'' :=
  ⟨fun b o n e => y.keep b o n (x.keep b o n e), y.ok, fun i h => (y.gens i h).trans (x.gens i h), y.size.trans x.size, y.drawn.trans x.drawn, y.os.trans x.os⟩
/-- behind it, things that did not stand ahead turn -/
theorem then_ (x : Mv G wr gx s s') (ok : G.Ok s'') (k : ∀ b o, s.heap.get? b = some o → s'.heap.get? b = some o → s''.heap.get? b = some o) (g : s''.gens = s'.gens) (d : s''.drawn = s'.drawn) (o : s''.os = s'.os) : Mv G wr gx s s'' :=
  ⟨fun b ob n e => k b ob e (x.keep b ob n e), ok, fun i h => by rw [g]; exact x.gens i h, by rw [g]; exact x.size, d.trans x.drawn, o.trans x.os⟩
theorem step (x : Mv G wr none s s') (ok : G.Ok s) : Step G false wr s s' := ⟨x.keep, fun _ => x.ok, by
  show s'.gens = s.gens
  exact Array.ext_getElem? fun i => x.gens i (by simp), x.drawn, x.os⟩
theorem of_step (x : Step G false wr s s') (ok : G.Ok s) : Mv G wr gx s s' := by
  have g : s'.gens = s.gens := x.gens
  exact ⟨x.keep, x.ok ok, fun _ _ => by rw [g], by rw [g], x.drawn, x.os⟩
end Mv

/-- an iterator that gives n things -/
structure Itr (G : Gl) (A : Around) (I : Addr) (nc : Nat) (fp : Addr → Prop) (wr : List Addr) (gx : Option Nat) (n : Nat) (P : Nat → Value → Prop) (Z : Nat → Shared → Prop) : Prop where
  wlt : ∀ b ∈ wr, b < nc
  flt : ∀ b, fp b → b < nc
  item : ∀ i s (Q : Option Value → Shared → Prop) (E : Value → Shared → Prop), i < n → G.Ok s → Z i s → (∀ v s', P i v → Z (i + 1) s' → Mv G wr gx s s' → Q (some v) s') → wpAny (model G.prog G.w) A (pyNext (.ref I)) Q E s
  done : ∀ s (Q : Option Value → Shared → Prop) (E : Value → Shared → Prop), G.Ok s → Z n s → (∀ s', Mv G wr gx s s' → Q none s') → wpAny (model G.prog G.w) A (pyNext (.ref I)) Q E s
  self : ∀ i s (Q : Value → Shared → Prop) (E : Value → Shared → Prop), Z i s → Q (.ref I) s → wpAny (model G.prog G.w) A (pyIter (.ref I)) Q E s
  stay : ∀ i s s', Z i s → G.Ok s' → (∀ b o, fp b → s.heap.get? b = some o → s'.heap.get? b = some o) → (∀ g, gx = some g → s'.gens[g]? = s.gens[g]?) → Z i s'
  noc : ∀ i s, Z i s → ∃ o, s.heap.get? I = some o ∧ ∀ v, o.data ≠ .cell v
  wex : ∀ i s, Z i s → ∀ b ∈ wr, ∃ o, s.heap.get? b = some o

theorem Itr.gen {k : Gc} {A : Around} {I g nc : Nat} (K : k.Ok) (rm : Rm A 1) (hI : k.nc ≤ I) (hn : I < nc) : Itr k.G A I nc (· < nc) k.Pv (some g) k.items.length (fun i v => ∃ t, v = .int (k.items.getD i 0) t) (fun i s => GenSt k A I g i s) where
  wlt := fun b hb => by
    rcases List.mem_cons.mp hb with m | m
    · rw [m]; exact Nat.lt_trans (Nat.lt_of_lt_of_le K.L.2.2 hI) hn
    · rw [List.mem_singleton.mp m]; exact Nat.lt_trans (Nat.lt_of_lt_of_le K.lv.2.2 hI) hn
  flt := fun _ h => h
  item := fun i s Q E hi ok S q => gen_item K rm hI hi S fun v s' hv w S' => q v s' hv S' ⟨w.keep, w.ok, fun i h => w.gens i fun e => h (e ▸ rfl), w.size, w.drawn, w.os⟩
  done := fun s Q E ok S q => gen_done K rm hI S fun s' w => q s' ⟨w.keep, w.ok, fun i h => w.gens i fun e => h (e ▸ rfl), w.size, w.drawn, w.os⟩
  self := fun i s Q E S q => wpAny_pyIter_gen S.gen q
  stay := fun i s s' S ok kp g => by
    obtain ⟨a, b, c, pv, gs, e, h⟩ := S
    have lt : ∀ b, b < k.nc → b < nc := fun b h => Nat.lt_trans (Nat.lt_of_lt_of_le h hI) hn
    refine ⟨isGen_keeps a fun o e => kp _ _ hn e, ok, fun c' n => c c' (named_step b (fun b o l e => kp b o (lt b (Nat.lt_trans (Nat.lt_of_lt_of_le l K.lv.2.1) K.lv.2.2)) e) n), fun b hb => let ⟨o, e⟩ := pv b hb; ⟨o, kp _ _ (by
      rcases List.mem_cons.mp hb with m | m
      · rw [m]; exact lt _ K.L.2.2
      · rw [List.mem_singleton.mp m]; exact lt _ K.lv.2.2) e⟩, gs, by rw [g _ rfl]; exact e, fun s'' al => h s'' ⟨al.1, fun b o l e => al.2 b o l (kp b o (lt b l) e)⟩⟩
  noc := fun i s S => let ⟨o', nm, qn, e', _, d', _⟩ := S.gen; ⟨o', e', fun v d => by rw [d] at d'; cases d'⟩
  wex := fun i s S => S.pv

/-- a walk that the library knows -/
theorem Itr.walk {G : Gl} {A : Around} {I nc : Nat} {fp : List Addr} {n : Nat} {P : Nat → Value → Prop} {St : Nat → Heap → Prop} (W : Walks G.prog G.w A I fp [I] n P St) (h0 : G.h₀.objs.size ≤ I) (hfp : ∀ b ∈ fp, b < nc) (hI : I < nc)
    (hc : ∀ i h, St i h → ∃ o, h.get? I = some o ∧ o.cls ≠ .type "code" ∧ ∀ v, o.data ≠ .cell v) : Itr G A I nc (· ∈ fp) [I] none n P (fun i s => St i s.heap) where
  wlt := fun b hb => by rw [List.mem_singleton.mp hb]; exact hI
  flt := hfp
  item := fun i s Q E hi ok S q => W.item i s Q E hi S fun v h' tk hp S' k => q v _ hp S' (.of_step (Step.but (.head _) h0 (fun o e hcl _ _ => let ⟨o', e', n, _⟩ := hc i _ S; n (Option.some.inj (e'.symm.trans e) ▸ hcl)) fun b o ne e => k b o (by simpa using ne) e) ok)
  done := fun s Q E ok S q => W.done s Q E S fun h' tk k => q _ (.of_step (Step.but (.head _) h0 (fun o e hcl _ _ => let ⟨o', e', m, _⟩ := hc n _ S; m (Option.some.inj (e'.symm.trans e) ▸ hcl)) fun b o ne e => k b o (by simpa using ne) e) ok)
  self := fun i s Q E S q => W.self i s Q E S q
  stay := fun i s s' S ok kp _ => W.frame i s.heap s'.heap S fun b hb o e => kp b o hb e
  noc := fun i s S => let ⟨o, e, _, d⟩ := hc i _ S; ⟨o, e, d⟩
  wex := fun i s S b hb => let ⟨o, e, _, d⟩ := hc i _ S; ⟨o, List.mem_singleton.mp hb ▸ e⟩

section
variable {G : Gl} {A : Around} {env : Env} {scope : Scope} {cl : List (Str × Addr)} {x : Str} {elt iter : Expr} {pos px : Pos} {I nc n : Nat} {fp : Addr → Prop} {wr : List Addr} {gx : Option Nat} {P F : Nat → Value → Prop} {Z : Nat → Shared → Prop} {s₂ : Shared} {E : Value → Shared → Prop} {Q : Value → Shared → Prop}

theorem none_of_ge {h : Heap} {a : Addr} (l : h.objs.size ≤ a) : h.get? a = none := by
  cases e : h.get? a with
  | none => rfl
  | some o => exact absurd (Heap.lt_size e) (Nat.not_lt.mpr l)

theorem comp_itr (W : Itr G A I nc fp wr gx n P Z) (hsz : n ≤ sizeLine) (hcell : ∀ y ∈ scope.names, y.2 ≠ .cell) (hkind : scope.kind = .function) (hx : scope.names.lookup x = some .local) (ok : G.Ok s₂) (hst : Z 0 s₂) (hnc : nc ≤ s₂.heap.objs.size)
    (helt : ∀ i v C s m (E' : Value → Shared → Prop), i < n → P i v → s₂.heap.objs.size ≤ C → G.Ok s → (∀ b o, b ∉ wr → s₂.heap.get? b = some o → s.heap.get? b = some o) → (∀ b ∈ wr, ∃ o, s.heap.get? b = some o) → s.heap.Ns C m → m x = some v → ∀ (Q' : Value → Shared → Prop), (∀ y s', F i y → Step G false [] s s' → Q' y s') → wpAny (model G.prog G.w) A (eval elt (compEnvC scope cl C env)) Q' E' s)
    {RR : Value → Addr → Result → Shared → Prop}
    (q : ∀ D C m' s' ys, s₂.heap.objs.size ≤ D → s₂.heap.objs.size ≤ C → D ≠ C → s'.heap.Ns C m' → s'.heap.PlainList D ys → ItemsOf F ys n → Mv G wr gx s₂ s' → RR (.ref D) C (.ok .next) s') :
    wpAny (model G.prog G.w) A (newList []) (fun acc s₃ => wpAny (model G.prog G.w) A (newFunctionEnv scope env.globals cl [] env.qual none .none (some env)) (fun cenv s₄ =>
      codeAny (model G.prog G.w) A (.compStart (.ListComp elt [⟨.Name x px, iter, [], 0⟩] scope pos) 0 (.ref I) acc { cenv with scope := relabel scope env }) (RR acc cenv.locals) s₄) E s₃) E s₂ := by
  refine wpAny_newObj_type (wpAny_newFunctionEnv hcell (by intro y hy; simp at hy) (fun h₁ hns₁ hsb₁ => ?_) hkind)
  dsimp only at hns₁ hsb₁ ⊢
  generalize hH2 : s₂.heap.push { cls := .type "list", dict := none, data := .seq ([] : List Value).toArray } = H2 at hns₁ hsb₁ ⊢
  have hC : H2.objs.size = s₂.heap.objs.size + 1 := by rw [← hH2, Heap.size_push]
  generalize hD : s₂.heap.objs.size = D at hC ⊢
  generalize hCe : H2.objs.size = C at hC hns₁ hsb₁ ⊢
  have hDC : D ≠ C := by omega
  have hncD : nc ≤ D := hD ▸ hnc
  have hCD : D < C := by omega
  have old : ∀ b o, s₂.heap.get? b = some o → h₁.get? b = some o := fun b o e => hsb₁.extBut b o (Nat.ne_of_lt (Nat.lt_trans (hD ▸ Heap.lt_size e) hCD)) (Heap.get?_push_of_some _ (hH2 ▸ Heap.get?_push_of_some _ e))
  have hacc : h₁.PlainList D #[] := ⟨_, hsb₁.extBut _ _ hDC (Heap.get?_push_of_some _ (hH2 ▸ hD ▸ Heap.get?_push_size _ rfl))⟩
  have hlow := ok.low
  have fD : s₂.heap.get? D = none := none_of_ge (Nat.le_of_eq hD)
  have fC : s₂.heap.get? C = none := none_of_ge (by omega)
  have loop : ∀ s₃ : Shared, s₃ = { s₂ with heap := h₁, toks := s₂.toks + ([] : List (Str × Value)).length } →
      codeAny (model G.prog G.w) A (.compLoop (.ListComp elt [⟨.Name x px, iter, [], 0⟩] scope pos) 0 (.ref I) (.ref D) (compEnvC scope cl C env))
        (RR (.ref D) C) s₃ := by
    rintro s₃ rfl
    have ok₁ : G.Ok { s₂ with heap := h₁, toks := s₂.toks + ([] : List (Str × Value)).length } := ok.step (fun b o _ e => old b o e) ok.bare
    refine codeAny_compLoop_tests (fun k s' => ∃ i ys m', Z i s' ∧ s'.heap.PlainList D ys ∧ s'.heap.Ns C m' ∧ ItemsOf F ys i ∧ i ≤ n ∧ k = n + 1 - i ∧ Mv G wr gx s₂ s') ?_ (n + 1)
      ⟨0, #[], _, W.stay 0 _ _ hst ok₁ (fun b o _ e => old b o e) (fun _ _ => rfl), hacc, hns₁, ItemsOf.nil F, Nat.zero_le _, rfl, (Mv.refl ok).then_ ok₁ (fun b o e _ => old b o e) rfl rfl rfl⟩
    rintro k s' ⟨i, ys, m', hz, hl, hn, hF, hi, rfl, mv⟩
    have nwr : ∀ b, D ≤ b → b ∉ wr := fun b h m => Nat.lt_irrefl _ (Nat.lt_of_lt_of_le (W.wlt b m) (Nat.le_trans hncD h))
    by_cases hlt : i < n
    · refine W.item i s' _ _ hlt mv.ok hz fun v s₁ hP hz₁ mv₁ => ?_
      have hn₁ : s₁.heap.Ns C m' := ns_keeps (fun o e => mv₁.keep C o (nwr C (by omega)) e) hn
      have hl₁ : s₁.heap.PlainList D ys := let ⟨c, e⟩ := hl; ⟨c, mv₁.keep D _ (nwr D (Nat.le_refl _)) e⟩
      have mv' := mv.trans mv₁
      refine wpAny_assign_Name (wpAny_storeName_local (lookup_relabel_local hx) hn₁ (fun h₂ hn₂ hs₂ => ?_) (by simp [compEnvC, relabel, hkind]))
      have st₂ : Step G false [C] s₁ { s₁ with heap := h₂, toks := s₁.toks + 1 } := Step.but (.head _) (by omega) (fun o e _ vs d => by obtain ⟨o', _, _, e', d', _⟩ := hn₁; rw [e] at e'; cases e'; rw [d] at d'; cases d') fun b o ne e => hs₂.extBut b o ne e
      have ok₂ := st₂.ok mv'.ok
      have hl₂ : h₂.PlainList D ys := let ⟨c, e⟩ := hl₁; ⟨c, hs₂.extBut _ _ hDC e⟩
      have hz₂ : Z (i + 1) { s₁ with heap := h₂, toks := s₁.toks + 1 } := W.stay _ _ _ hz₁ ok₂ (fun b o l e => hs₂.extBut b o (Nat.ne_of_lt (Nat.lt_trans (Nat.lt_of_lt_of_le (W.flt _ l) hncD) hCD)) e) (fun _ _ => rfl)
      have mv₂ : Mv G wr gx s₂ { s₁ with heap := h₂, toks := s₁.toks + 1 } := mv'.then_ ok₂ (fun b o e e' => hs₂.extBut b o (by rintro rfl; show False; rw [fC] at e; cases e) e') rfl rfl rfl
      refine wpAny_pure ?_
      simp only [if_true]
      refine helt i v C _ _ _ hlt hP (by omega) ok₂ mv₂.keep (W.wex _ _ hz₂) hn₂ (by simp) _ fun y s₃ hF₃ k₃ => ?_
      have hz₃ := W.stay _ _ _ hz₂ (k₃.ok ok₂) (fun b o _ e => k₃.keep b o (by simp) e) (fun g _ => by rw [show s₃.gens = s₁.gens from k₃.gens])
      have hl₃ : s₃.heap.PlainList D ys := let ⟨c, e⟩ := hl₂; ⟨c, k₃.keep _ _ (by simp) e⟩
      have hn₃ : s₃.heap.Ns C _ := ns_keeps (fun o e => k₃.keep _ _ (by simp) e) hn₂
      have mv₃ : Mv G wr gx s₂ s₃ := mv₂.then_ (k₃.ok ok₂) (fun b o _ e => k₃.keep b o (by simp) e) k₃.gens k₃.drawn k₃.os
      refine wpAny_list_append_plain (hsz := by rw [hF.1]; omega) hl₃ fun h₄ hl₄ hs₄ => ?_
      have st₄ : Step G false [D] s₃ { s₃ with heap := h₄ } := Step.but (t := s₃.toks) (.head _) (by omega) (fun o e hc _ _ => by obtain ⟨c, e'⟩ := hl₃; rw [e] at e'; cases e'; simp at hc) fun b o ne e => hs₄.extBut b o ne e
      have ok₄ := st₄.ok mv₃.ok
      refine ⟨n + 1 - (i + 1), by omega, i + 1, ys.push y, _, W.stay _ _ _ hz₃ ok₄ (fun b o l e => hs₄.extBut b o (Nat.ne_of_lt (Nat.lt_of_lt_of_le (W.flt _ l) hncD)) e) (fun _ _ => rfl), hl₄, hn₃.sameBut hs₄ (Ne.symm hDC), hF.push hF₃, hlt, rfl, mv₃.then_ ok₄ (fun b o e e' => hs₄.extBut b o (by rintro rfl; show False; rw [fD] at e; cases e) e') rfl rfl rfl⟩
    · have hin : i = n := by omega
      subst hin
      refine W.done s' _ _ mv.ok hz fun s₁ mv₁ => ?_
      have hn₁ : s₁.heap.Ns C m' := ns_keeps (fun o e => mv₁.keep C o (nwr C (by omega)) e) hn
      have hl₁ : s₁.heap.PlainList D ys := let ⟨c, e⟩ := hl; ⟨c, mv₁.keep D _ (nwr D (Nat.le_refl _)) e⟩
      exact q D C m' _ ys (by omega) (by omega) hDC hn₁ hl₁ hF (mv.trans mv₁)
  have ok₁ : G.Ok { s₂ with heap := h₁, toks := s₂.toks + ([] : List (Str × Value)).length } := ok.step (fun b o _ e => old b o e) ok.bare
  exact codeAny_compStart_list (loop _ rfl) (W.self 0 _ _ _ (W.stay 0 _ _ hst ok₁ (fun b o _ e => old b o e) (fun _ _ => rfl)) (loop _ rfl))

/-- the comprehension's own names are let go -/
theorem comp_end {C D : Addr} {m' : Str → Option Value} {s' : Shared} {ys : Array Value} (hlow : G.h₀.objs.size ≤ s₂.heap.objs.size) (hDC : D ≠ C) (hC : s₂.heap.objs.size ≤ C) (hn₁ : s'.heap.Ns C m') (hl₁ : s'.heap.PlainList D ys) (mv : Mv G wr gx s₂ s')
    (q : ∀ s'', s''.heap.PlainList D ys → Mv G wr gx s₂ s'' → Q (.ref D) s'') : compPost (model G.prog G.w) A E none Q (.ref D) C (.ok .next) s' := by
  refine ⟨m', hn₁, fun h' hs' => ?_⟩
  have st' : Step G false [C] s' { s' with heap := h' } := Step.but (t := s'.toks) (.head _) (Nat.le_trans hlow hC) (fun o e _ vs d => by obtain ⟨o', _, _, e', d', _⟩ := hn₁; rw [e] at e'; cases e'; rw [d] at d'; cases d') fun b o ne e => hs'.extBut b o ne e
  exact q _ (let ⟨c, e⟩ := hl₁; ⟨c, hs'.extBut _ _ hDC e⟩) (mv.then_ (st'.ok mv.ok) (fun b o e e' => hs'.extBut b o (by rintro rfl; show False; rw [none_of_ge hC] at e; cases e) e') rfl rfl rfl)

/-- what a comprehension asks of its walk -/
structure CompOn (G : Gl) (A : Around) (env : Env) (scope : Scope) (cl : List (Str × Addr)) (x : Str) (elt : Expr) (it : Value) (s₂ : Shared) (R : List Addr → Option Nat → Nat → (Nat → Value → Prop) → Prop) : Prop where
  get : ∃ I nc fp wr gx n P F Z, it = .ref I ∧ Itr G A I nc fp wr gx n P Z ∧ n ≤ sizeLine ∧ G.Ok s₂ ∧ Z 0 s₂ ∧ nc ≤ s₂.heap.objs.size ∧
      (∀ i v C s m (E' : Value → Shared → Prop), i < n → P i v → s₂.heap.objs.size ≤ C → G.Ok s → (∀ b o, b ∉ wr → s₂.heap.get? b = some o → s.heap.get? b = some o) → (∀ b ∈ wr, ∃ o, s.heap.get? b = some o) → s.heap.Ns C m → m x = some v → ∀ (Q' : Value → Shared → Prop), (∀ y s', F i y → Step G false [] s s' → Q' y s') → wpAny (model G.prog G.w) A (eval elt (compEnvC scope cl C env)) Q' E' s) ∧ R wr gx n F

theorem listcomp_ev {s : Shared} (hclos : closureFor scope env = pure cl) (hcell : ∀ y ∈ scope.names, y.2 ≠ .cell) (hkind : scope.kind = .function) (hnames : ∀ y ∈ scope.names, y.2 = .local → scope.names.lookup y.1 = some .local) (hx : scope.names.lookup x = some .local)
    (h : wpAny (model G.prog G.w) A (eval iter env) (fun xv s₁ => wpAny (model G.prog G.w) A (pyIter xv) (fun it s₂ => CompOn G A env scope cl x elt it s₂ fun wr gx n F =>
      ∀ D s' ys, s₂.heap.objs.size ≤ D → s'.heap.PlainList D ys → ItemsOf F ys n → Mv G wr gx s₂ s' → Q (.ref D) s') E s₁) E s)
    (hs : ∀ x, foldedSetIterable iter env x = pure x) :
    wpAny (model G.prog G.w) A (eval (.ListComp elt [⟨.Name x px, iter, [], 0⟩] scope pos) env) Q E s := by
  rw [eval_ListComp]
  refine wpAny_comprehension_free (use := none) rfl hs hclos hkind hnames (wpAny_mono h (fun xv s₁ h₁ => wpAny_mono h₁ (fun it s₂ h₂ => ?_) fun _ _ e => e) fun _ _ e => e)
  obtain ⟨I, nc, fp, wr, gx, n, P, F, Z, rfl, W, hsz, ok, hst, hnc, he, hq⟩ := h₂.get
  exact comp_itr (RR := compPost (model G.prog G.w) A E none Q) W hsz hcell hkind hx ok hst hnc he fun D C m' s' ys hD hC hDC hn hl hF mv => comp_end ok.low hDC hC hn hl mv fun s'' hl' mv' => hq D s'' ys hD hl' hF mv'

/-- the list goes straight into a name: y = [..] -/
theorem listcomp_store {s : Shared} {y : Str} {py spos : Pos} {Q : Flow → Shared → Prop} (hsw : swapsWith (.ListComp elt [⟨.Name x px, iter, [], 0⟩] scope pos) (some (.Name y py)) spos.line env = pure true)
    (hclos : closureFor scope env = pure cl) (hcell : ∀ y ∈ scope.names, y.2 ≠ .cell) (hkind : scope.kind = .function) (hnames : ∀ y ∈ scope.names, y.2 = .local → scope.names.lookup y.1 = some .local) (hx : scope.names.lookup x = some .local)
    (h : wpAny (model G.prog G.w) A (eval iter env) (fun xv s₁ => wpAny (model G.prog G.w) A (pyIter xv) (fun it s₂ => CompOn G A env scope cl x elt it s₂ fun wr gx n F =>
      ∀ D C m' s' ys, s₂.heap.objs.size ≤ D → s₂.heap.objs.size ≤ C → D ≠ C → s'.heap.Ns C m' → s'.heap.PlainList D ys → ItemsOf F ys n → Mv G wr gx s₂ s' → compPost (model G.prog G.w) A E (some (assign (.Name y py) env)) (fun _ s' => Q .next s') (.ref D) C (.ok .next) s') E s₁) E s)
    (hs : ∀ x, foldedSetIterable iter env x = pure x) :
    wpAny (model G.prog G.w) A (exec (.Assign [.Name y py] (.ListComp elt [⟨.Name x px, iter, [], 0⟩] scope pos) spos) env) Q E s := by
  rw [exec_Assign_Name_used _ _ _ _ hsw]
  refine wpAny_bind (wpAny_standAt (wpAny_bind ?_))
  show wpAny _ A (do let _ ← comprehension (.ListComp elt [⟨.Name x px, iter, [], 0⟩] scope pos) scope env _ (newList []) false (eval iter env) (some (assign (.Name y py) env))) _ _ s
  refine wpAny_bind (wpAny_mono (wpAny_comprehension_free (use := some (assign (.Name y py) env)) (Q := fun _ s' => Q .next s') rfl hs hclos hkind hnames
    (wpAny_mono h (fun xv s₁ h₁ => wpAny_mono h₁ (fun it s₂ h₂ => ?_) fun _ _ e => e) fun _ _ e => e)) (fun _ s' hq => wpAny_pure (wpAny_pure hq)) fun _ _ e => e)
  obtain ⟨I, nc, fp, wr, gx, n, P, F, Z, rfl, W, hsz, ok, hst, hnc, he, hq⟩ := h₂.get
  exact comp_itr (RR := compPost (model G.prog G.w) A E (some (assign (.Name y py) env)) fun _ s' => Q .next s') W hsz hcell hkind hx ok hst hnc he hq
end
end
section

/-- a list, its items told -/
def aList (Ps : List AV) : AV := ⟨fun v h => ∃ (a : Addr) (vs : List Value), v = .ref a ∧ h.IsList a vs.toArray ∧ AllP Ps vs h, fun k ⟨a, vs, e, l, i⟩ => ⟨a, vs, e, isList_keeps k l, AllP.mono k i⟩⟩
def aRange (a b c : Int) : AV := ⟨fun v h => ∃ r t u w, v = .ref r ∧ IsRange h r a b c t u w, fun k ⟨r, t, u, w, e, i⟩ => ⟨r, t, u, w, e, k _ _ i⟩⟩
def AV.le (P P' : AV) : Prop := ∀ v h, P.p v h → P'.p v h
theorem allP_ints : ∀ {ns : List Int} {vs : List Value} {h : Heap}, AllP (ns.map aInt) vs h ↔ IntsAre vs ns
  | [], [], _ => ⟨fun _ => .nil, fun _ => trivial⟩
  | [], _ :: _, _ => ⟨fun x => x.elim, fun x => nomatch x⟩
  | _ :: _, [], _ => ⟨fun x => x.elim, fun x => nomatch x⟩
  | n :: ns, v :: vs, h => ⟨fun ⟨⟨t, e⟩, r⟩ => e ▸ .cons n t (allP_ints.mp r), fun x => by
    cases x with
    | cons n t r => exact ⟨⟨t, rfl⟩, allP_ints.mpr r⟩⟩
theorem ints_list {ns : List Int} : (aInts ns).le (aList (ns.map aInt)) := fun v h ⟨a, vs, e, l, i⟩ => ⟨a, vs, e, l, allP_ints.mpr i⟩
theorem list_ints {ns : List Int} : (aList (ns.map aInt)).le (aInts ns) := fun v h ⟨a, vs, e, l, i⟩ => ⟨a, vs, e, l, allP_ints.mp i⟩
theorem AllP.get : ∀ {Ps : List AV} {vs : List Value} {h : Heap} {i : Nat} {v : Value}, AllP Ps vs h → vs[i]? = some v → (Ps.getD i aNone).p v h
  | [], [], _, _, _, _, e => by simp at e
  | [], _ :: _, _, _, _, x, _ => x.elim
  | _ :: _, [], _, _, _, x, _ => x.elim
  | P :: Ps, v :: vs, h, 0, u, x, e => by simp at e; subst e; exact x.1
  | P :: Ps, v :: vs, h, i + 1, u, x, e => by simpa using AllP.get x.2 (by simpa using e)
theorem AllP.len : ∀ {Ps : List AV} {vs : List Value} {h : Heap}, AllP Ps vs h → vs.length = Ps.length
  | [], [], _, _ => rfl
  | [], _ :: _, _, x => x.elim
  | _ :: _, [], _, x => x.elim
  | P :: Ps, v :: vs, h, x => congrArg (· + 1) x.2.len

/-- what a walk of such a value gives -/
def IterOf (G : Gl) (A : Around) (PI : AV) (n : Nat) (P : Nat → AV) : Prop :=
  ∀ X s v, G.Ok s → PI.p v (view X s.heap) → ∀ (Q E : Value → Shared → Prop),
    (∀ I s' fp Z, Step G false [] s s' → s.heap.objs.size ≤ I → Itr G A I s'.heap.objs.size fp [I] none n (fun i v => (P i).p v (view X s.heap)) Z → (∀ b, fp b → b ∉ X ∨ s.heap.objs.size ≤ b) → Z 0 s' → Q (.ref I) s') → wpAny (model G.prog G.w) A (pyIter v) Q E s

section
variable {G : Gl} {A : Around} {PI PJ : AV} {n : Nat} {P P' : Nat → AV}
theorem Itr.imp {I nc : Nat} {fp : Addr → Prop} {wr : List Addr} {gx : Option Nat} {P P' : Nat → Value → Prop} {Z : Nat → Shared → Prop} (W : Itr G A I nc fp wr gx n P Z) (h : ∀ i v, i < n → P i v → P' i v) : Itr G A I nc fp wr gx n P' Z :=
  ⟨W.wlt, W.flt, fun i s Q E hi ok z q => W.item i s Q E hi ok z fun v s' p => q v s' (h i v hi p), W.done, W.self, W.stay, W.noc, W.wex⟩
theorem IterOf.le (it : IterOf G A PI n P) (h : PJ.le PI) (h' : ∀ i, i < n → (P i).le (P' i)) : IterOf G A PJ n P' := fun X s v ok p Q E q =>
  it X s v ok (h _ _ p) Q E fun I s' fp Z st hI W hfp hz => q I s' fp Z st hI (W.imp fun i v hi => h' i hi v _) hfp hz
theorem iter_list {Ps : List AV} (hh : A.handled = none) : IterOf G A (aList Ps) Ps.length fun i => Ps.getD i aNone := fun X s v ok ⟨a, vs, e, l, i⟩ Q E q => by
  subst e
  have l' : s.heap.IsList a vs.toArray := isList_keeps view_sub l
  have ha : a < s.heap.objs.size := let ⟨o, e, _⟩ := l'; Heap.lt_size e
  have haX : a ∉ X := let ⟨o, e, _⟩ := l; (view_of e).2
  refine wpAny_pyIter_list l' (q _ _ (· ∈ [s.heap.objs.size, a]) (fun i s' => s'.heap.IsListIter s.heap.objs.size a i ∧ s'.heap.IsList a vs.toArray) .push (Nat.le_refl _) ?_ (fun b hb => ?_) ⟨⟨_, Heap.get?_push_size _ rfl, rfl, rfl⟩, isList_keeps (fun _ _ e => Heap.get?_push_of_some _ e) l'⟩)
  · have W := Itr.walk (G := G) (nc := (s.heap.push { cls := .type "list_iterator", data := .fields #[.ref a, .int 0 0] }).objs.size) (Walks.list (prog := G.prog) (w := G.w) (A := A) hh s.heap.objs.size a (Nat.ne_of_lt ha) vs.toArray) ok.low (fun b hb => by rw [Heap.size_push]; simp at hb; first | exact hb ▸ Nat.lt_succ_self _ | (rcases hb with hb | hb <;> rw [hb] <;> first | exact Nat.lt_succ_self _ | exact Nat.lt_succ_of_lt ha)) (by rw [Heap.size_push]; exact Nat.lt_succ_self _) (fun i h S => let ⟨⟨o', e', c', d'⟩, _⟩ := S; ⟨o', e', fun z => by rw [c'] at z; simp at z, fun v z => by rw [d'] at z; cases z⟩)
    have : vs.toArray.size = Ps.length := by simpa using i.len
    rw [this] at W
    exact W.imp fun j v hj hv => i.get (by simpa using hv)
  · simp at hb
    rcases hb with rfl | rfl
    · exact .inr (Nat.le_refl _)
    · exact .inl haX
theorem iter_ints {ns : List Int} (hh : A.handled = none) : IterOf G A (aInts ns) ns.length fun i => aInt (ns.getD i 0) := by
  have := iter_list (G := G) (A := A) (Ps := ns.map aInt) hh
  rw [List.length_map] at this
  refine this.le ints_list fun i hi v h p => ?_
  rw [List.getD_eq_getElem?_getD, List.getElem?_map, List.getElem?_eq_getElem hi] at p
  rw [List.getD_eq_getElem?_getD, List.getElem?_eq_getElem hi]
  exact p
theorem iter_bytes {ks : List Int} (hh : A.handled = none) : IterOf G A (aByt ks) ks.length fun i => aInt (ks.getD i 0) := fun X s v ok ⟨b, t, e, i⟩ Q E q => by
  subst e
  refine KBw.pyIter_bytes (q _ _ (· ∈ [s.heap.objs.size]) (fun i s' => KBw.IsBytesIter s'.heap s.heap.objs.size b t i) .push (Nat.le_refl _) ?_ (fun b hb => ?_) ⟨_, Heap.get?_push_size _ rfl, rfl, rfl⟩)
  · have W := Itr.walk (G := G) (nc := (s.heap.push { cls := .type "bytes_iterator", data := .fields #[.bytes b t, .int 0 0] }).objs.size) (KBw.walks (prog := G.prog) (w := G.w) (A := A) hh s.heap.objs.size b t) ok.low (fun b hb => by rw [Heap.size_push]; simp at hb; first | exact hb ▸ Nat.lt_succ_self _ | (rcases hb with hb | hb <;> rw [hb] <;> first | exact Nat.lt_succ_self _ | exact Nat.lt_succ_of_lt ha)) (by rw [Heap.size_push]; exact Nat.lt_succ_self _) (fun i h S => let ⟨o', e', c', d'⟩ := S; ⟨o', e', fun z => by rw [c'] at z; simp at z, fun v z => by rw [d'] at z; cases z⟩)
    have : b.size = ks.length := by rw [← i, KBw.ints_length]
    rw [this] at W
    refine W.imp fun j v hj ⟨c, u, hc, e⟩ => ⟨u, ?_⟩
    rw [e, List.getD_eq_getElem?_getD, ← i, KBw.ints_get hc]; rfl
  · simp at hb; exact .inr (Nat.le_of_eq hb.symm)
theorem iter_range {a b c : Int} (hh : A.handled = none) (hs : Builtin.Range.small a b c = true) (hn : Builtin.Range.rangeSize a b c = (n : Int)) : IterOf G A (aRange a b c) n fun i => aInt (a + i * c) := fun X s v ok ⟨r, t, u, w, e, i⟩ Q E q => by
  subst e
  refine wpAny_pyIter_range (view_of i).1 hs (q _ _ (· ∈ [s.heap.objs.size]) (fun i s' => IsRangeIter s'.heap s.heap.objs.size (a + (i : Nat) * c) ((n : Int) - (i : Nat)) c) .push (Nat.le_refl _) ?_ (fun b hb => ?_) ?_)
  · exact Itr.walk (G := G) (nc := (s.heap.push { cls := .type "range_iterator", data := .fields #[rawInt a, rawInt (Builtin.Range.rangeSize a b c), rawInt c] }).objs.size) (Walks.range (prog := G.prog) (w := G.w) (A := A) hh s.heap.objs.size a c n) ok.low (fun b hb => by rw [Heap.size_push]; simp at hb; first | exact hb ▸ Nat.lt_succ_self _ | (rcases hb with hb | hb <;> rw [hb] <;> first | exact Nat.lt_succ_self _ | exact Nat.lt_succ_of_lt ha)) (by rw [Heap.size_push]; exact Nat.lt_succ_self _) (fun i h S => ⟨_, S, fun z => by simp at z, fun v z => by cases z⟩)
  · simp at hb; exact .inr (Nat.le_of_eq hb.symm)
  · rw [hn]
    have := Heap.get?_push_size (s.heap) (o := { cls := .type "range_iterator", data := .fields #[rawInt a, rawInt n, rawInt c] }) rfl
    simpa using this
end

section
variable {c : Fx} {σ τ : St} {P P' R PI : AV} {n : Nat} {x : Str}
theorem Ev.le {e : Expr} (h : Ev c σ e P) (l : P.le P') : Ev c σ e P' := fun X s S Q E q => h X s S Q E fun v s' k p => q v s' k (l _ _ p)

theorem Step.low {c : Fx} {s s' : Shared} (st : Step c.G false [] s s') : Step c.G c.fl c.T s s' := by
  have x := st.more (Y := c.T) fun _ m => nomatch m
  cases h : c.fl with
  | true => exact x.up
  | false => exact x
/-- a frame of a comprehension -/
abbrev cfx (c : Fx) (scope : Scope) (cl : List (Str × Addr)) (C : Addr) : Fx := { G := c.G, A := c.A, env := compEnvC scope cl C c.env, own := [C], cells := [], fl := false }

/-- its frame holds what it should -/
theorem cfx_sat {scope : Scope} {cl : List (Str × Addr)} {cs : List (Str × AV)} {C : Addr} {X : List Addr} {s₁ s : Shared} {m : Str → Option Value} {v : Value} (S : Sat c σ X s₁) (hsub : ∀ y a, cl.lookup y = some a → c.env.cells.lookup y = some a) (hcs : ∀ p ∈ cs, p ∈ σ.cel ∧ (cl.lookup p.1).isSome = true)
    (hC : s₁.heap.objs.size ≤ C) (ok : c.G.Ok s) (kp : ∀ b o, b ∉ X → s₁.heap.get? b = some o → s.heap.get? b = some o) (kc : ∀ b o, (∃ v, o.data = .cell v) → s₁.heap.get? b = some o → s.heap.get? b = some o) (kx : ∀ a ∈ X, ∃ o, s.heap.get? a = some o) (hn : s.heap.Ns C m) (hm : m x = some v) (hp : P.p v (view X s₁.heap)) : Sat (cfx c scope cl C) ⟨[(x, P)], cs⟩ (C :: X) s := by
  have hlow := S.ok.low
  have vw : ∀ b o, (view X s₁.heap).get? b = some o → (view (C :: X) s.heap).get? b = some o := fun b o e => by
    obtain ⟨g, n⟩ := view_of e
    refine view_get (kp b o n g) fun z => ?_
    rcases List.mem_cons.mp z with z | z
    · rw [z, none_of_ge hC] at g; cases g
    · exact n z
  refine ⟨ok, fun t h => .tail _ (S.tabs t h), fun a h => ?_, fun a h => ?_, .head _, ⟨m, hn, fun y P' hy => ?_⟩, fun y P' hy => ?_, (fun y h => nomatch h), fun y z a e e' => S.inj y z a (hsub _ _ e) (hsub _ _ e')⟩
  · rw [List.mem_singleton.mp h]; exact ⟨.head _, Nat.le_trans hlow hC⟩
  · rcases List.mem_cons.mp h with h | h
    · rw [h]; obtain ⟨o, _, _, e, _⟩ := hn; exact ⟨o, e⟩
    · exact kx a h
  · cases List.mem_singleton.mp hy; exact ⟨v, hm, P.mono vw hp⟩
  · obtain ⟨h1, h2⟩ := hcs _ hy
    obtain ⟨a, ea⟩ := Option.isSome_iff_exists.mp h2
    obtain ⟨a', u, e, l, g, hp'⟩ := S.cel _ _ h1
    have : a = a' := Option.some.inj ((hsub _ _ ea).symm.trans e)
    subst this
    refine ⟨a, u, ea, l, ?_, P'.mono vw hp'⟩
    obtain ⟨o, g, d⟩ := g
    exact ⟨o, kc _ _ ⟨_, d⟩ g, d⟩

theorem items_ints {ys : Array Value} {r : Nat → Int} (h : ItemsOf (fun i v => ∃ t, v = .int (r i) t) ys n) : IntsAre ys.toList ((List.range n).map r) := by
  obtain ⟨ys⟩ := ys
  obtain ⟨h1, h2⟩ := h
  simp only [List.size_toArray] at h1
  subst h1
  show IntsAre ys _
  have key : ∀ (ys : List Value) (r : Nat → Int), (∀ (j : Nat) v, ys[j]? = some v → ∃ t, v = .int (r j) t) → IntsAre ys ((List.range ys.length).map r) := by
    intro ys
    induction ys with
    | nil => exact fun r _ => .nil
    | cons y ys ih =>
      intro r h
      obtain ⟨t, e⟩ := h 0 y rfl
      subst e
      rw [List.length_cons, List.range_succ_eq_map, List.map_cons, List.map_map]
      exact .cons _ t (ih (fun i => r (i + 1)) fun j v e => h (j + 1) v (by simpa using e))
  exact key ys r fun j v e => h2 j v (by simpa using e)

variable {Pi : Nat → AV} {r : Nat → Int} {elt iter : Expr} {scope : Scope} {cl : List (Str × Addr)} {cs : List (Str × AV)} {pos px : Pos}
/-- [elt for x in iter] -/
theorem Ev.listcomp (hi : Ev c σ iter PI) (it : IterOf c.G c.A PI n Pi) (hn : n ≤ sizeLine) (hclos : closureFor scope c.env = pure cl) (hcell : ∀ y ∈ scope.names, y.2 ≠ .cell) (hkind : scope.kind = .function) (hnames : ∀ y ∈ scope.names, y.2 = .local → scope.names.lookup y.1 = some .local) (hx : scope.names.lookup x = some .local)
    (hsub : ∀ y a, cl.lookup y = some a → c.env.cells.lookup y = some a) (hcs : ∀ p ∈ cs, p ∈ σ.cel ∧ (cl.lookup p.1).isSome = true)
    (he : ∀ i C, i < n → Ev (cfx c scope cl C) ⟨[(x, Pi i)], cs⟩ elt (aInt (r i))) (hs : ∀ x, foldedSetIterable iter c.env x = pure x) :
    Ev c σ (.ListComp elt [⟨.Name x px, iter, [], 0⟩] scope pos) (aInts ((List.range n).map r)) := fun X s S Q E q => by
  refine listcomp_ev hclos hcell hkind hnames hx (hi X s S _ _ fun xv s₁ k₁ p₁ => ?_) hs
  have S₁ := S.step k₁
  refine it X s₁ xv S₁.ok p₁ _ _ fun I s₂ fp Z k₂ hI W hfp hz => ⟨I, _, fp, [I], none, n, _, fun i v => ∃ t, v = .int (r i) t, Z, rfl, W, hn, k₂.ok S₁.ok, hz, Nat.le_refl _, fun i v C s₃ m E' hi' hv hC ok kp _ hn' hm Q' q' => ?_, fun D s₃ ys hD hl hF mv => ?_⟩
  · have h12 : ∀ b o, s₁.heap.get? b = some o → s₃.heap.get? b = some o := fun b o e => kp b o (fun m => by rw [List.mem_singleton.mp m, none_of_ge hI] at e; cases e) (k₂.keep _ _ (by simp) e)
    have hsz : s₁.heap.objs.size ≤ C := Nat.le_trans (Nat.le_trans hI (Nat.le_of_lt (W.wlt I (.head _)))) hC
    exact he i C hi' (C :: X) s₃ (cfx_sat S₁ hsub hcs hsz ok (fun b o _ e => h12 b o e) (fun b o _ e => h12 b o e) (fun a h => let ⟨o, e⟩ := S₁.live a h; ⟨o, h12 _ _ e⟩) hn' hm hv) Q' E' fun y s₄ k₄ p₄ => q' y s₄ p₄ k₄
  · have st : Step c.G false [] s₁ s₃ := Step.less (X := [I]) ((k₂.more fun _ h => nomatch h).trans (mv.step (k₂.ok S₁.ok))) fun a o m e => by
      rw [List.mem_singleton.mp m, none_of_ge hI] at e; cases e
    have hDX : D ∉ X := fun m => by
      obtain ⟨o, e⟩ := S₁.live D m
      exact Nat.lt_irrefl _ (Nat.lt_of_lt_of_le (Heap.lt_size (k₂.keep _ _ (by simp) e)) hD)
    refine q _ _ (k₁.trans st.low) ⟨D, ys.toList, rfl, ?_, items_ints hF⟩
    obtain ⟨cc, e⟩ := hl
    exact ⟨_, view_get e hDX, rfl, cc, by simp⟩
end
end
section

/-- a value goes into a name -/
def Sto (c : Fx) (x : Str) (P : AV) (σ τ : St) : Prop := ∀ X s v, Sat c σ X s → P.p v (view X s.heap) → ∀ (Q : Unit → Shared → Prop) (E : Value → Shared → Prop), (∀ s', Step c.G c.fl (c.own ++ c.T) s s' → Sat c τ X s' → Q () s') → wpAny c.M c.A (storeName c.env x v) Q E s
section
variable {c : Fx} {σ τ : St} {P P' R PI : AV} {n : Nat} {x : Str}
theorem Sto.loc (hk : c.env.scope.kind = .function) (hl : c.env.kindOf x = some .local) : Sto c x P σ (σ.put x P) := fun X s v S p Q E q => store_loc S p q hk hl
theorem Sto.cel (hk : c.env.scope.kind = .function) (hl : c.env.kindOf x = some .cell) (hx : x ∈ c.cells) : Sto c x P σ (σ.putC x P) := fun X s v S p Q E q => store_cell S p q hk hl hx

theorem Sat.hide {X : List Addr} {s s₂ : Shared} {I : Addr} (S : Sat c σ X s) (k : Step c.G false [] s s₂) (hI : s.heap.objs.size ≤ I) (hl : ∃ o, s₂.heap.get? I = some o) : Sat c σ (I :: X) s₂ := by
  have S₂ := S.step k.low
  have vw : ∀ b o, (Mine.view X s.heap).get? b = some o → (Mine.view (I :: X) s₂.heap).get? b = some o := fun b o e => by
    obtain ⟨g, n⟩ := view_of e
    refine view_get (k.keep _ _ (by simp) g) fun z => ?_
    rcases List.mem_cons.mp z with z | z
    · rw [z, none_of_ge hI] at g; cases g
    · exact n z
  refine ⟨S₂.ok, fun t h => .tail _ (S.tabs t h), fun a h => ⟨.tail _ (S.own a h).1, (S.own a h).2⟩, fun a h => ?_, S.L, ?_, fun y P h => ?_, S₂.put, S.inj⟩
  · rcases List.mem_cons.mp h with h | h
    · exact h ▸ hl
    · exact S₂.live a h
  · obtain ⟨m, n, h⟩ := S.loc
    exact ⟨m, ns_keeps (fun o e => k.keep _ _ (by simp) e) n, fun y P hy => let ⟨v, e, hp⟩ := h y P hy; ⟨v, e, P.mono vw hp⟩⟩
  · obtain ⟨a, v, e, l, g, hp⟩ := S.cel y P h
    exact ⟨a, v, e, l, cell_keeps (fun o q => k.keep _ _ (by simp) q) g, P.mono vw hp⟩
/-- a walk's step turns its iterator alone -/
theorem Sat.walk {X Y : List Addr} {s s' : Shared} {I : Addr} (S : Sat c σ (I :: X) s) (k : Step c.G false [I] s s') (hc : ∃ o, s.heap.get? I = some o ∧ ∀ v, o.data ≠ .cell v) (hY : ∀ a ∈ Y, a ∈ I :: X) (hT : ∀ t ∈ c.G.T, t ∈ Y) (ho : ∀ a ∈ c.own, a ∈ Y) (hI : I ∉ c.own) (hl : ∀ a ∈ Y, ∃ o, s'.heap.get? a = some o) : Sat c σ Y s' := by
  have vw : ∀ b o, (Mine.view (I :: X) s.heap).get? b = some o → (Mine.view Y s'.heap).get? b = some o := fun b o e => by
    obtain ⟨g, n⟩ := view_of e
    exact view_get (k.keep _ _ (fun z => n (by rw [List.mem_singleton.mp z]; exact .head _)) g) fun z => n (hY b z)
  have kc : ∀ a o v, o.data = .cell v → s.heap.get? a = some o → s'.heap.get? a = some o := fun a o v d e => k.keep _ _ (fun z => by
    obtain ⟨o', e', d'⟩ := hc
    rw [List.mem_singleton.mp z, e'] at e; cases e; exact d' _ d) e
  refine ⟨k.ok S.ok, hT, fun a h => ⟨ho a h, (S.own a h).2⟩, hl, S.L, ?_, fun y P h => ?_, fun y h => ?_, S.inj⟩
  · obtain ⟨m, n, h⟩ := S.loc
    exact ⟨m, ns_keeps (fun o e => k.keep _ _ (fun z => hI (List.mem_singleton.mp z ▸ S.L)) e) n, fun y P hy => let ⟨v, e, hp⟩ := h y P hy; ⟨v, e, P.mono vw hp⟩⟩
  · obtain ⟨a, v, e, l, ⟨o, g, d⟩, hp⟩ := S.cel y P h
    exact ⟨a, v, e, l, ⟨o, kc _ _ _ d g, d⟩, P.mono vw hp⟩
  · obtain ⟨a, v, e, l, o, g, d⟩ := S.put y h
    exact ⟨a, v, e, l, o, kc _ _ _ d g, d⟩

theorem Step.lowX {s s' : Shared} {Y Z : List Addr} (st : Step c.G false Y s s') (h : ∀ a ∈ Y, a ∈ Z) : Step c.G c.fl Z s s' := by
  have x := st.more h
  cases hf : c.fl with
  | true => exact x.up
  | false => exact x

theorem Nx1.for {xp pos : Pos} {iter : Expr} {body : List Stmt} {Pi : Nat → AV} {σ τ : Nat → St} (hi : Ev c (σ 0) iter PI) (it : IterOf c.G c.A PI n Pi) (hst : ∀ i, i < n → Sto c x (Pi i) (σ i) (τ i)) (hb : ∀ i, i < n → Nx c (τ i) body (σ (i + 1))) (hs : ∀ x, foldedSetIterable iter c.env x = pure x := by intro _; rfl) :
    Nx1 c (σ 0) (.For (.Name x xp) iter body [] pos) (σ n) := fun X s S Q E q => by
  refine wpAny_For (hi X s S _ _ fun xv s₁ k₁ p₁ => ?_) hs
  have S₁ := S.step k₁
  refine it X s₁ xv S₁.ok p₁ _ _ fun I s₂ fp Z k₂ hI W hfp hz => ?_
  have hIX : I ∉ X := S₁.new_off hI
  have hIo : I ∉ c.own := fun m => hIX (S.own I m).1
  have hIT : I ∉ c.T := fun m => hIX (S.tabs I (mem_T m))
  have fpo : ∀ b, fp b → b ∉ c.own ++ c.T := fun b hb m => by
    have hX : b ∈ X := by
      rcases List.mem_append.mp m with m | m
      · exact (S.own b m).1
      · exact S.tabs b (mem_T m)
    rcases hfp b hb with h | h
    · exact h hX
    · exact S₁.new_off h hX
  have live : ∀ {s' s'' : Shared}, Step c.G false [I] s' s'' → Sat c (σ 0) X s₁ → (∀ a ∈ X, ∃ o, s'.heap.get? a = some o) → ∀ a ∈ X, ∃ o, s''.heap.get? a = some o := fun k _ l a m => by
    obtain ⟨o, e⟩ := l a m
    exact ⟨o, k.keep _ _ (fun z => hIX (List.mem_singleton.mp z ▸ m)) e⟩
  refine codeAny_forLoop (fun m s' => ∃ i, i ≤ n ∧ m = n - i ∧ Z i s' ∧ Sat c (σ i) (I :: X) s' ∧ Step c.G c.fl (I :: (c.own ++ c.T)) s₁ s') ?_ n
    ⟨0, Nat.zero_le _, rfl, hz, S₁.hide k₂ hI (let ⟨o, e, _⟩ := W.noc 0 _ hz; ⟨o, e⟩), k₂.lowX fun _ m => nomatch m⟩
  rintro m s' ⟨i, hin, rfl, hz', S', k'⟩
  have lv' : ∀ a ∈ X, ∃ o, s'.heap.get? a = some o := fun a m => S'.live a (.tail _ m)
  by_cases hlt : i < n
  · refine W.item i s' _ _ hlt S'.ok hz' fun v s₃ hv hz₃ mv => ?_
    have k₃ := mv.step S'.ok
    have S₃ : Sat c (σ i) (I :: X) s₃ := S'.walk k₃ (W.noc i _ hz') (fun _ m => m) (fun t h => .tail _ (S.tabs t h)) (fun a h => .tail _ (S.own a h).1) hIo fun a m => by
      rcases List.mem_cons.mp m with m | m
      · rw [m]; obtain ⟨o, e, _⟩ := W.noc _ _ hz₃; exact ⟨o, e⟩
      · exact live k₃ S₁ lv' a m
    have hv' : (Pi i).p v (view (I :: X) s₃.heap) := (Pi i).mono (fun b o e => by
      obtain ⟨g, n⟩ := view_of e
      have hbI : b ≠ I := fun z => by rw [z, none_of_ge hI] at g; cases g
      refine view_get (mv.keep _ _ (by simpa using hbI) (k'.keep _ _ (fun z => ?_) g)) fun z => ?_
      · rcases List.mem_cons.mp z with z | z
        · exact hbI z
        · rcases List.mem_append.mp z with z | z
          · exact n (S.own b z).1
          · exact n (S.tabs b (mem_T z))
      · rcases List.mem_cons.mp z with z | z
        · exact hbI z
        · exact n z) hv
    refine wpAny_assign_Name (hst i hlt (I :: X) s₃ v S₃ hv' _ _ fun s₄ k₄ S₄ => hb i hlt (I :: X) s₄ S₄ _ _ fun s₅ k₅ S₅ => ?_)
    have k₃₅ : Step c.G c.fl (c.own ++ c.T) s₃ s₅ := k₄.trans k₅
    refine ⟨n - (i + 1), by omega, i + 1, hlt, rfl, W.stay _ _ _ hz₃ S₅.ok (fun b o h e => k₃₅.keep b o (fpo b h) e) (fun g h => nomatch h), S₅, ?_⟩
    exact (k'.trans (k₃.lowX fun a m => by rw [List.mem_singleton.mp m]; exact .head _)).trans (k₃₅.more fun a m => .tail _ m)
  · have : i = n := by omega
    subst this
    refine W.done s' _ _ S'.ok hz' fun s₃ mv => ?_
    have k₃ := mv.step S'.ok
    have S₃ : Sat c (σ i) X s₃ := S'.walk k₃ (W.noc i _ hz') (fun _ m => .tail _ m) S.tabs (fun a h => (S.own a h).1) hIo (live k₃ S₁ lv')
    refine wpAny_execs_nil ?_
    refine q s₃ (Step.less (X := I :: (c.own ++ c.T)) ((k₁.more fun a m => .tail _ (T_own a m)).trans (k'.trans (k₃.lowX fun a m => by rw [List.mem_singleton.mp m]; exact .head _))) fun a o m e => ?_) S₃
    rcases List.mem_cons.mp m with m | m
    · obtain ⟨o', e'⟩ : ∃ o', s₁.heap.get? a = some o' := by
        by_cases hT : a ∈ c.T
        · exact absurd hT (m ▸ hIT)
        · exact ⟨o, k₁.keep _ _ hT e⟩
      rw [m, none_of_ge hI] at e'; cases e'
    · exact m

theorem ns_noc {h : Heap} {a : Addr} {m : Str → Option Value} (x : h.Ns a m) : ∃ o, h.get? a = some o ∧ ∀ v, o.data ≠ .cell v := let ⟨o, es, ep, e, d, _⟩ := x; ⟨o, e, fun v z => by rw [d] at z; cases z⟩
/-- y = [elt for x in iter], y a local -/
theorem Nx1.listcomp {y : Str} {py spos px pos : Pos} {Pi : Nat → AV} {r : Nat → Int} {elt iter : Expr} {scope : Scope} {cl : List (Str × Addr)} {cs : List (Str × AV)} (hsw : swapsWith (.ListComp elt [⟨.Name x px, iter, [], 0⟩] scope pos) (some (.Name y py)) spos.line c.env = pure true) (hst : Sto c y (aInts ((List.range n).map r)) σ τ)
    (hi : Ev c σ iter PI) (it : IterOf c.G c.A PI n Pi) (hn : n ≤ sizeLine) (hclos : closureFor scope c.env = pure cl) (hcell : ∀ y ∈ scope.names, y.2 ≠ .cell) (hkind : scope.kind = .function) (hnames : ∀ y ∈ scope.names, y.2 = .local → scope.names.lookup y.1 = some .local) (hx : scope.names.lookup x = some .local)
    (hsub : ∀ y a, cl.lookup y = some a → c.env.cells.lookup y = some a) (hcs : ∀ p ∈ cs, p ∈ σ.cel ∧ (cl.lookup p.1).isSome = true)
    (he : ∀ i C, i < n → Ev (cfx c scope cl C) ⟨[(x, Pi i)], cs⟩ elt (aInt (r i))) (hs : ∀ x, foldedSetIterable iter c.env x = pure x) :
    Nx1 c σ (.Assign [.Name y py] (.ListComp elt [⟨.Name x px, iter, [], 0⟩] scope pos) spos) τ := fun X s S Q E q => by
  refine listcomp_store hsw hclos hcell hkind hnames hx (hi X s S _ _ fun xv s₁ k₁ p₁ => ?_) hs
  have S₁ := S.step k₁
  refine it X s₁ xv S₁.ok p₁ _ _ fun I s₂ fp Z k₂ hI W hfp hz => ⟨I, _, fp, [I], none, n, _, fun i v => ∃ t, v = .int (r i) t, Z, rfl, W, hn, k₂.ok S₁.ok, hz, Nat.le_refl _, fun i v C s₃ m E' hi' hv hC ok kp _ hn' hm Q' q' => ?_, fun D C m' s₃ ys hD hC hDC hn hl hF mv => ?_⟩
  · have h12 : ∀ b o, s₁.heap.get? b = some o → s₃.heap.get? b = some o := fun b o e => kp b o (fun m => by rw [List.mem_singleton.mp m, none_of_ge hI] at e; cases e) (k₂.keep _ _ (by simp) e)
    have hsz : s₁.heap.objs.size ≤ C := Nat.le_trans (Nat.le_trans hI (Nat.le_of_lt (W.wlt I (.head _)))) hC
    exact he i C hi' (C :: X) s₃ (cfx_sat S₁ hsub hcs hsz ok (fun b o _ e => h12 b o e) (fun b o _ e => h12 b o e) (fun a h => let ⟨o, e⟩ := S₁.live a h; ⟨o, h12 _ _ e⟩) hn' hm hv) Q' E' fun y s₄ k₄ p₄ => q' y s₄ p₄ k₄
  · have st : Step c.G false [] s₁ s₃ := Step.less (X := [I]) ((k₂.more fun _ h => nomatch h).trans (mv.step (k₂.ok S₁.ok))) fun a o m e => by
      rw [List.mem_singleton.mp m, none_of_ge hI] at e; cases e
    have s12 : ∀ {a}, s₂.heap.objs.size ≤ a → s₁.heap.objs.size ≤ a := fun h => Nat.le_trans (Nat.le_trans hI (Nat.le_of_lt (W.wlt I (.head _)))) h
    have hCX : C ∉ X := S₁.new_off (s12 hC)
    have hCo : C ∉ c.own := fun m => hCX (S.own C m).1
    have hDX : D ∉ C :: X := fun m => by
      rcases List.mem_cons.mp m with m | m
      · exact hDC m
      · exact S₁.new_off (s12 hD) m
    have S₃ : Sat c σ (C :: X) s₃ := S₁.hide st (s12 hC) (let ⟨o, e, _⟩ := ns_noc hn; ⟨o, e⟩)
    refine wpAny_assign_Name (hst (C :: X) s₃ (.ref D) S₃ ?_ _ _ fun s₄ k₄ S₄ => ?_)
    · obtain ⟨cc, e⟩ := hl
      exact ⟨D, ys.toList, rfl, ⟨_, view_get e hDX, rfl, cc, by simp⟩, items_ints hF⟩
    · have hn₄ : s₄.heap.Ns C m' := ns_keeps (fun o e => k₄.keep _ _ (fun m => by
        rcases List.mem_append.mp m with m | m
        · exact hCo m
        · exact hCX (S.tabs C (mem_T m))) e) hn
      refine ⟨m', hn₄, fun h' hs' => ?_⟩
      have st' : Step c.G false [C] s₄ { s₄ with heap := h' } := Step.but (t := s₄.toks) (.head _) (Nat.le_trans S₁.ok.low (s12 hC)) (fun o e _ vs d => by obtain ⟨o', _, _, e', d', _⟩ := hn₄; rw [e] at e'; cases e'; rw [d] at d'; cases d') fun b o ne e => hs'.extBut b o ne e
      have S₅ : Sat c τ X { s₄ with heap := h' } := S₄.walk st' (ns_noc hn₄) (fun _ m => .tail _ m) S.tabs (fun a h => (S.own a h).1) hCo fun a m => by
        obtain ⟨o, e⟩ := S₄.live a (.tail _ m)
        exact ⟨o, hs'.extBut a o (fun z => hCX (z ▸ m)) e⟩
      refine q _ (Step.less (X := C :: (c.own ++ c.T)) ((((k₁.trans st.low).more fun a m => .tail _ (T_own a m)).trans (k₄.more fun a m => .tail _ m)).trans (st'.lowX fun a m => by rw [List.mem_singleton.mp m]; exact .head _)) fun a o m e => ?_) S₅
      rcases List.mem_cons.mp m with m | m
      · by_cases hT : a ∈ c.T
        · exact absurd (S.tabs a (mem_T hT)) (m ▸ hCX)
        · have := k₁.keep a o hT e
          rw [m, none_of_ge (s12 hC)] at this; cases this
      · exact m
end
end
section

/-- a part of a list or of bytes -/
def cut (lo hi : Option Int) (ks : List Int) : List Int := (ks.drop (lo.elim 0 (clipAt ks.length))).take (hi.elim ks.length (clipAt ks.length) - lo.elim 0 (clipAt ks.length))
def aSlice (lo hi st : Option Int) : AV := ⟨fun v h => ∃ (a : Addr) (vl vu vs : Value), v = .ref a ∧ h.IsSliceOf a vl vu vs ∧ IsPart vl lo ∧ IsPart vu hi ∧ IsPart vs st, fun k ⟨a, vl, vu, vs, e, ⟨o, g, r⟩, q⟩ => ⟨a, vl, vu, vs, e, ⟨o, k _ _ g, r⟩, q⟩⟩

section
variable {c : Fx} {σ τ : St} {P P' R PI : AV} {n : Nat} {x : Str}

theorem AllP.one {P : AV} {vs : List Value} {h : Heap} (a : AllP [P] vs h) : ∃ v, vs = [v] ∧ P.p v h := match vs, a with | [v], ⟨p, _⟩ => ⟨v, rfl, p⟩
theorem AllP.two {P P' : AV} {vs : List Value} {h : Heap} (a : AllP [P, P'] vs h) : ∃ v u, vs = [v, u] ∧ P.p v h ∧ P'.p u h := match vs, a with | [v, u], ⟨p, p', _⟩ => ⟨v, u, rfl, p, p'⟩
theorem CallV.isT {T : String} {r : Bool} {ks : List Int} (e : kitOne [] (.type "bytes") (.type T) = some r) : CallV c σ (.builtin "isinstance") [aByt ks, aVal (.type T)] (aBool r) := fun X s vs S ha Q E q => by
  obtain ⟨v, u, rfl, ⟨b, t, rfl, _⟩, e'⟩ := ha.two
  have e' : u = Value.type T := e'
  subst e'
  exact kia_one (H := fun _ => True) (K := []) kitx_bytes (fun _ _ z => nomatch z) trivial e (fun z => nomatch z) fun tk => q _ _ .toks rfl
theorem kit_bytes : kitOne [] (.type "bytes") (.type "bytes") = some true := by decide
theorem kit_str : kitOne [] (.type "bytes") (.type "str") = some false := by decide +kernel
theorem CallV.lenB {ks : List Int} (hz : ks.length ≤ 1099511627776) : CallV c σ (.builtin "len") [aByt ks] (aInt ks.length) := fun X s vs S ha Q E q => by
  obtain ⟨_, rfl, b, t, rfl, e⟩ := ha.one
  exact KBw.len_K e hz (q _ _ .toks ⟨_, rfl⟩)
theorem CallV.lenI {ks : List Int} (hz : ks.length ≤ 1099511627776) : CallV c σ (.builtin "len") [aInts ks] (aInt ks.length) := fun X s vs S ha Q E q => by
  obtain ⟨_, rfl, a, vs, rfl, l, i⟩ := ha.one
  have hn : vs.toArray.size = ks.length := by simpa using i.length
  refine call_len_list (isList_keeps view_sub l) (by rw [hn]; omega) ?_
  rw [hn]
  exact q _ _ .toks ⟨_, rfl⟩
theorem CallV.bytes {ks : List Int} (hh : c.A.handled = none) (hr : ∀ n ∈ ks, 0 ≤ n ∧ n < 256) (hz : ks.length ≤ 16777216) : CallV c σ (.type "bytes") [aInts ks] (aByt ks) := fun X s vs S ha Q E q => by
  obtain ⟨_, rfl, a, vs, rfl, l, i⟩ := ha.one
  exact call_bytes_ints (isList_keeps view_sub l) i hr (by rw [i.length, sizeLine_eq]; exact hz) hh fun h' t k hk => q _ _ (.heap fun b o e => hk b o e) ⟨_, t, rfl, KBa.ints_make hr⟩
theorem CallV.range1 {n : Int} : CallV c σ (.type "range") [aInt n] (aRange 0 n 1) := fun X s vs S ha Q E q => by
  obtain ⟨_, rfl, t, rfl⟩ := ha.one
  exact call_range_1 (q _ _ .push ⟨_, _, _, _, rfl, view_get (Heap.get?_push_size _ rfl) (S.new_off (Nat.le_refl _))⟩)
theorem CallV.range3 {a b d : Int} (hd : d ≠ 0) (hp : Builtin.divisionGoesByPylong (b - a) d = false) : CallV c σ (.type "range") [aInt a, aInt b, aInt d] (aRange a b d) := fun X s vs S ha Q E q => by
  match vs, ha with
  | [_, _, _], ⟨⟨t, rfl⟩, ⟨u, rfl⟩, ⟨w, rfl⟩, _⟩ =>
    exact call_range_3 hd (q _ _ .push ⟨_, _, _, _, rfl, view_get (Heap.get?_push_size _ rfl) (S.new_off (Nat.le_refl _))⟩) (.inl hp)
theorem CallV.min2 {a b r : Int} (hh : c.A.handled = none) (hr : (if b < a then b else a) = r) : CallV c σ (.builtin "min") [aInt a, aInt b] (aInt r) := fun X s vs S ha Q E q => by
  obtain ⟨_, _, rfl, ⟨t, rfl⟩, u, rfl⟩ := ha.two
  refine min_two_ints hh fun h' tk hk => q _ _ (.heap hk) ?_
  split at hr <;> subst hr
  · rename_i z; rw [if_pos z]; exact ⟨_, rfl⟩
  · rename_i z; rw [if_neg z]; exact ⟨_, rfl⟩
theorem CallV.listRange {a b d : Int} {n : Nat} (hh : c.A.handled = none) (hs : Builtin.Range.small a b d = true) (hn : Builtin.Range.rangeSize a b d = n) (hz : n ≤ 2 ^ 24) : CallV c σ (.type "list") [aRange a b d] (aInts ((List.range n).map fun (i : Nat) => a + i * d)) := fun X s vs S ha Q E q => by
  obtain ⟨_, rfl, r, t, u, w, rfl, hr⟩ := ha.one
  exact call_list_range hh (view_sub _ _ hr) hs hn hz fun h' tk acc' c' hk hl hi => q _ _ (.heap hk) ⟨_, acc'.toList, rfl, ⟨_, view_get hl (S.new_off (Nat.le_refl _)), rfl, c', by simp⟩, items_ints hi⟩

/-! ### slices -/
inductive PartV (c : Fx) (σ : St) : Option Expr → Option Int → Prop
  | none : PartV c σ none none
  | int {e : Expr} {i : Int} : Ev c σ e (aInt i) → PartV c σ (some e) (some i)
def aPart (lo : Option Int) : AV := ⟨fun v _ => IsPart v lo, fun _ h => h⟩
theorem PartV.ev {e : Option Expr} {lo : Option Int} (p : PartV c σ e lo) : ∀ X s, Sat c σ X s → ∀ (Q E : Value → Shared → Prop), (∀ v s', Step c.G c.fl c.T s s' → IsPart v lo → Q v s') → wpAny c.M c.A (evalPart e c.env) Q E s := fun X s S Q E q => by
  cases p with
  | none => rw [evalPart_none]; exact wpAny_pure (q _ _ .refl .none)
  | int h => rw [evalPart_some]; exact h X s S _ _ fun v s' k ⟨t, e⟩ => q v s' k (e ▸ .int _ _)
theorem Ev.slice {l u st : Option Expr} {p : Pos} {lo hi k : Option Int} (hl : PartV c σ l lo) (hu : PartV c σ u hi) (hk : PartV c σ st k) : Ev c σ (.Slice l u st p) (aSlice lo hi k) := fun X s S Q E q =>
  wpAny_Slice (hl.ev X s S _ _ fun v₁ s₁ k₁ p₁ => hu.ev X s₁ (S.step k₁) _ _ fun v₂ s₂ k₂ p₂ => hk.ev X s₂ (S.step (k₁.trans k₂)) _ _ fun v₃ s₃ k₃ p₃ =>
    q _ _ ((k₁.trans (k₂.trans k₃)).trans .push) ⟨_, v₁, v₂, v₃, rfl, ⟨_, view_get (Heap.get?_push_size _ rfl) ((S.step (k₁.trans (k₂.trans k₃))).new_off (Nat.le_refl _)), rfl, rfl⟩, p₁, p₂, p₃⟩)

theorem Sub2.bslice {o i : Expr} {ks : List Int} {lo hi : Option Int} (hz : ks.length ≤ 16777216)
    (hs : ∀ o' i', subscripted i false o' i' = operate [i', o'] (getItem o' i') := by intro _ _; with_unfolding_all rfl) : Sub2 c σ o i (aByt ks) (aSlice lo hi none) (aByt (cut lo hi ks)) := fun X s x y S ⟨b, t, ex, eb⟩ ⟨a, vl, vu, vs, ey, hsl, pl, pu, ps⟩ Q E q => by
  subst ex ey
  cases ps
  have hsl' : s.heap.IsSliceOf a vl vu .none := let ⟨o, g, r⟩ := hsl; ⟨o, view_sub _ _ g, r⟩
  refine tail_any (typeIs_bytes s b t) FB.slot_bytes_getitem.lookup (getItem_meets (typeIs_bytes _ _ _) (by decide) FB.slot_bytes_getitem FB.entry_bytes_getitem (FB.args_bytes_getitem_2 _ _) (KBc.meets_slice2 b t _ pl pu) ⟨hsl', Nat.le_trans (KBc.size_picked_le b lo hi) (by rw [← KBw.ints_length b, eb, sizeLine_eq]; exact hz), fun t' k => q _ _ .toks ⟨_, t', rfl, KBc.ints_picked eb lo hi⟩⟩) (hs _ _)

theorem meets_rev (b : Array UInt8) (t : Tok) (a : Addr) (u : Tok) :
    Meets (Builtin.«bytes.__getitem__» ⟨[.bytes b t, .ref a], []⟩) (fun _ R s => s.heap.IsSliceOf a .none .none (.int (-1) u) ∧ b.size ≤ sizeLine ∧ ∀ t' k, R (.ok (.ret (.bytes b.toList.reverse.toArray t'))) { s with toks := k }) := by
  refine .of_wp fun prog w A R s hS => ?_
  obtain ⟨⟨o, ho, hc, hd⟩, hsz, h⟩ := hS
  have hT : s.TypeIs (.ref a) "slice" := ⟨o, ho, hc⟩
  show wpAny _ _ (Builtin.Bytes.payload (.bytes b t) >>= fun r => _) _ _ s
  refine wpAny_bind (wpAny_of_eq (a := b) rfl ?_)
  show wpAny _ _ (Builtin.Bytes.subscript? (.ref a) >>= fun r => _) _ _ s
  refine wpAny_bind ?_
  unfold Builtin.Bytes.subscript?
  refine wpAny_bind (wpAny_specialOf hT slice_no_index (wpAny_pure ?_))
  refine wpAny_bind (wpAny_typeOf hT ?_)
  show wpAny _ _ (Builtin.Bytes.sliceParts (.ref a) >>= fun r => _) _ _ s
  refine wpAny_bind ?_
  unfold Builtin.Bytes.sliceParts
  refine wpAny_bind (wpAny_field (x := .int (-1) u) ho hd rfl ?_)
  kby_int
  refine wpAny_ite (KBy.ite_no (show ¬ ((rawInt (-1) == rawInt 0) = true) by decide) ?_)
  refine wpAny_bind (wpAny_field (x := .none) ho hd rfl ?_)
  kby_none
  refine wpAny_bind (wpAny_field (x := .none) ho hd rfl ?_)
  kby_none
  refine wpAny_pure ?_
  have go : wpAny (model prog w) A.in1 (sliceIndices (rawPart none) (rawPart none) (rawPart (some (-1))) b.size) (fun r s' => r = sliceBounds none none (some (-1)) b.size ∧ s' = s) (fun _ _ => False) s :=
    wpAny_of_eq (sliceIndices_raw none none (some (-1)) b.size (fun e => nomatch e)) ⟨rfl, rfl⟩
  refine wpAny_bind (wpAny_mono go (fun r s' hr => ?_) fun _ _ e => e.elim)
  obtain ⟨hr1, hr2⟩ := hr
  subst hr1 hr2
  have e : Builtin.Bytes.sliced b (sliceBounds none none (some (-1)) b.size).1 (sliceBounds none none (some (-1)) b.size).2.1 (sliceBounds none none (some (-1)) b.size).2.2 = b.toList.reverse.toArray := by
    unfold Builtin.Bytes.sliced
    rw [krv_bounds]
    show ((sliceRange ((b.size : Int) - 1) (-1) (-1)).filterMap (b[·]?)).toArray = _
    rw [krv_sliceRange, krv_range, List.filterMap_reverse, krv_all]
  rw [krv_bounds] at e ⊢
  have hw : ¬ (((((b.size : Int) - 1 == 0) && ((-1 : Int) == 1) && ((-1 : Int) == b.size) && !b.isEmpty) = true)) := by simp
  refine wpAny_ite (KBy.ite_no hw ?_)
  refine wpAny_bind (wpAny_mkBytes (wpAny_pure ⟨_, rfl, ?_⟩) ?_)
  · show R (.ok (.ret (.bytes (Builtin.Bytes.sliced b ((b.size : Int) - 1) (-1) (-1)) _))) _
    rw [e]; exact h _ _
  · show (Builtin.Bytes.sliced b ((b.size : Int) - 1) (-1) (-1)).size ≤ _
    rw [e]; simpa using hsz
end
end
section

/-- a plain list of ints -/
def aRow (ns : List Int) : AV := ⟨fun v h => ∃ (a : Addr) (vs : List Value), v = .ref a ∧ h.PlainList a vs.toArray ∧ IntsAre vs ns, fun k ⟨a, vs, e, ⟨n, l⟩, i⟩ => ⟨a, vs, e, ⟨n, k _ _ l⟩, i⟩⟩
theorem row_ints {ns : List Int} : (aRow ns).le (aInts ns) := fun v h ⟨a, vs, e, l, i⟩ => ⟨a, vs, e, l.isList, i⟩
def aTup (Ps : List AV) : AV := ⟨fun v h => ∃ (a : Addr) (vs : List Value), v = .ref a ∧ IsTup h a vs.toArray ∧ AllP Ps vs h, fun k ⟨a, vs, e, ⟨o, g, r⟩, i⟩ => ⟨a, vs, e, ⟨o, k _ _ g, r⟩, AllP.mono k i⟩⟩

section
variable {c : Fx} {σ τ υ : St} {P P' R PI : AV} {n : Nat} {x : Str}

theorem Sub2.brev {o i : Expr} {ks : List Int} (hz : ks.length ≤ 16777216) {ops : Value → Value → List Value}
    (hs : ∀ o' i', subscripted i false o' i' = operate (ops o' i') (getItem o' i') := by intro _ _; with_unfolding_all rfl) : Sub2 c σ o i (aByt ks) (aSlice none none (some (-1))) (aByt ks.reverse) := fun X s x y S ⟨b, t, ex, eb⟩ ⟨a, vl, vu, vs, ey, hsl, pl, pu, ps⟩ Q E q => by
  subst ex ey
  cases pl
  cases pu
  cases ps
  rename_i u
  have hsl' : s.heap.IsSliceOf a .none .none (.int (-1) u) := let ⟨o, g, r⟩ := hsl; ⟨o, view_sub _ _ g, r⟩
  refine tail_any (typeIs_bytes s b t) FB.slot_bytes_getitem.lookup (getItem_meets (typeIs_bytes _ _ _) (by decide) FB.slot_bytes_getitem FB.entry_bytes_getitem (FB.args_bytes_getitem_2 _ _) (meets_rev b t _ u) ⟨hsl', by rw [← KBw.ints_length b, eb, sizeLine_eq]; exact hz, fun t' k => q _ _ .toks ⟨_, t', rfl, ?_⟩⟩) (hs _ _)
  show b.toList.reverse.map _ = _
  rw [List.map_reverse, ← eb]; rfl
theorem ints_cut {vs : List Value} {ns : List Int} {lo hi : Option Int} (i : IntsAre vs ns) : IntsAre (slicePick vs.toArray lo hi none).toList (cut lo hi ns) := by
  rw [slicePick_plain]
  have hl : vs.toArray.size = ns.length := by simpa using i.length
  rw [hl]
  exact (i.drop _).take _
theorem Sub2.lslice {o i : Expr} {ks : List Int} {lo hi : Option Int} (hz : ks.length ≤ 16777216) {ops : Value → Value → List Value}
    (hs : ∀ o' i', subscripted i false o' i' = operate (ops o' i') (getItem o' i') := by intro _ _; with_unfolding_all rfl) : Sub2 c σ o i (aInts ks) (aSlice lo hi none) (aInts (cut lo hi ks)) := fun X s x y S ⟨l, ws, ex, hl, ia⟩ ⟨a, vl, vu, vs, ey, hsl, pl, pu, ps⟩ Q E q => by
  subst ex ey
  cases ps
  have hsl' : s.heap.IsSliceOf a vl vu .none := let ⟨o, g, r⟩ := hsl; ⟨o, view_sub _ _ g, r⟩
  have hl' : s.heap.IsList l ws.toArray := isList_keeps view_sub hl
  refine tail_any hl'.typeIs list_getitem_lookup (wpAny_getItem_list_slice hl' hsl' pl pu .none (by simp) (q _ _ .push ⟨_, (slicePick ws.toArray lo hi none).toList, rfl, ⟨_, view_get (Heap.get?_push_size _ rfl) (S.new_off (Nat.le_refl _)), rfl, _, by simp; rfl⟩, ints_cut ia⟩) ?_) (hs _ _)
  rw [sizeLine_eq, List.size_toArray, ia.length]; exact hz
theorem Sub2.lrev {o i : Expr} {ks : List Int} (hz : ks.length ≤ 16777216) {ops : Value → Value → List Value}
    (hs : ∀ o' i', subscripted i false o' i' = operate (ops o' i') (getItem o' i') := by intro _ _; with_unfolding_all rfl) : Sub2 c σ o i (aInts ks) (aSlice none none (some (-1))) (aInts ks.reverse) := fun X s x y S ⟨l, ws, ex, hl, ia⟩ ⟨a, vl, vu, vs, ey, hsl, pl, pu, ps⟩ Q E q => by
  subst ex ey
  cases pl
  cases pu
  have hsl' : s.heap.IsSliceOf a .none .none vs := let ⟨o, g, r⟩ := hsl; ⟨o, view_sub _ _ g, r⟩
  have hl' : s.heap.IsList l ws.toArray := isList_keeps view_sub hl
  refine tail_any hl'.typeIs list_getitem_lookup (wpAny_getItem_list_slice hl' hsl' .none .none ps (by simp) (q _ _ .push ⟨_, ws.reverse, rfl, ⟨_, view_get (Heap.get?_push_size _ rfl) (S.new_off (Nat.le_refl _)), rfl, 0, ?_⟩, ia.reverse⟩) ?_) (hs _ _)
  · show Data.seq (slicePick ws.toArray none none (some (-1))) 0 = _
    rw [krv_pick]
  · rw [sizeLine_eq, List.size_toArray, ia.length]; exact hz

theorem Ev.list {l : List Expr} {Ps : List AV} {pos : Pos} (h : EvL c σ l Ps) (hz : Ps.length ≤ sizeLine) : Ev c σ (.List l pos) (aList Ps) := fun X s S Q E q =>
  wpAny_List (h.spliced X s S _ _ fun vs s₁ k₁ hv => ⟨hv.len ▸ hz, q _ _ (k₁.trans .push) ⟨_, vs, rfl, ⟨_, view_get (Heap.get?_push_size _ rfl) ((S.step k₁).new_off (Nat.le_refl _)), rfl, 0, rfl⟩, hv.mono (view_keep (Y := []) (fun _ m => nomatch m) fun b o _ e => Heap.get?_push_of_some _ e)⟩⟩)
theorem Ev.row {l : List Expr} {ns : List Int} {pos : Pos} (h : EvL c σ l (ns.map aInt)) (hz : ns.length ≤ sizeLine) : Ev c σ (.List l pos) (aRow ns) := fun X s S Q E q =>
  wpAny_List (h.spliced X s S _ _ fun vs s₁ k₁ hv => ⟨by rw [hv.len, List.length_map]; exact hz, q _ _ (k₁.trans .push) ⟨_, vs, rfl, ⟨0, view_get (Heap.get?_push_size _ rfl) ((S.step k₁).new_off (Nat.le_refl _))⟩, allP_ints.mp hv⟩⟩)
theorem Op2.addI {a b : List Int} (hz : a.length + b.length ≤ 16777216) : Op2 c σ (binaryOp .Add) (aInts a) (aInts b) (aInts (a ++ b)) := fun X s x y S ⟨l, vs, ex, hl, ia⟩ ⟨m, ws, ey, hm, ib⟩ Q E q => by
  subst ex ey
  obtain ⟨⟨cls, dd, data, sl⟩, ho, hc, n, hd⟩ := isList_keeps view_sub hl
  obtain ⟨⟨cls2, dd2, data2, sl2⟩, ho2, hc2, n2, hd2⟩ := isList_keeps view_sub hm
  simp only at hc hd hc2 hd2
  subst hc hd hc2 hd2
  refine concat_meets ⟨_, ho, rfl⟩ ⟨_, ho2, rfl⟩ noFill_list_add seq_list_add PySem.F.slot_list_add PySem.F.entry_list_add (PySem.F.args_list_add_2 _ _) (list_addW l m vs.toArray ws.toArray n n2 dd dd2 sl sl2 (by simp only [List.size_toArray]; rw [ia.length, ib.length, sizeLine_eq]; exact hz)) ⟨ho, ho2, ?_⟩
  exact q _ _ .push ⟨_, vs ++ ws, rfl, ⟨_, view_get (Heap.get?_push_size _ rfl) (S.new_off (Nat.le_refl _)), rfl, 0, by simp⟩, ia.append ib⟩

theorem TrV.int {a : Int} {b : Bool} (h : (a != 0) = b) : TrV c σ (aInt a) b := fun X s x S ⟨t, e⟩ Q E q => by
  subst e; exact PyProof.Rows.truthy_int (by rw [h]; exact q s .refl)
theorem TrV.ints {a : List Int} {b : Bool} (h : (!a.isEmpty) = b) (hz : a.length ≤ 16777216) : TrV c σ (aInts a) b := fun X s x S ⟨l, vs, e, hl, ia⟩ Q E q => by
  subst e
  have hn : vs.length = a.length := ia.length
  refine wpAny_truthy_list (isList_keeps view_sub hl) (by simp only [List.size_toArray]; omega) ?_
  have : (!vs.toArray.isEmpty) = b := by
    rw [← h]
    cases vs <;> cases a <;> simp_all
  rw [this]; exact q _ .toks

/-- op= -/
def InpV (c : Fx) (σ : St) (op : Operator) (P P' R : AV) : Prop := Op2 c σ (inplaceOp op) P P' R
theorem InpV.add {a b : Int} : InpV c σ .Add (aInt a) (aInt b) (aInt (a + b)) := .of_int fun s t u Q E ok q => PyProof.Rows.iadd_int (q _ _)
theorem InpV.shl {a n : Int} (hn : 0 ≤ n) (hz : (Builtin.Int.intBits a : Int) + n ≤ 2 ^ 27) : InpV c σ .LShift (aInt a) (aInt n) (aInt (a * 2 ^ n.toNat)) := .of_int fun s t u Q E ok q => PyProof.Rows.ilshift_int hn hz (q _ _)
theorem Nx1.aug {xp pos : Pos} {op : Operator} {e : Expr} (hx : (x, P) ∈ σ.loc) (he : Ev c σ e P') (h : InpV c σ op P P' R) (hk : c.env.scope.kind = .function) (hl : c.env.kindOf x = some .local) (hst : Sto c x R σ τ) : Nx1 c σ (.AugAssign (.Name x xp) op e pos) τ := fun X s S Q E q => by
  obtain ⟨m, n, hm⟩ := S.loc
  obtain ⟨v, ev, hp⟩ := hm x P hx
  refine wpAny_AugAssign_Name (wpAny_loadName_local hk hl n ev (he X s S _ _ fun u s₁ k₁ p₁ => h X s₁ v u (S.step k₁) (P.mono (S.view k₁) hp) p₁ _ _ fun r s₂ k₂ p₂ => ?_))
  exact hst X s₂ r (S.step (k₁.trans k₂)) p₂ _ _ fun s₃ k₃ S₃ => q s₃ (((k₁.trans k₂).more T_own).trans k₃) S₃
theorem Nx1.augC {xp pos : Pos} {op : Operator} {e : Expr} (hx : (x, P) ∈ σ.cel) (he : Ev c σ e P') (h : InpV c σ op P P' R) (hk : c.env.scope.kind = .function) (hl : c.env.kindOf x = some .cell) (hst : Sto c x R σ τ) : Nx1 c σ (.AugAssign (.Name x xp) op e pos) τ := fun X s S Q E q => by
  obtain ⟨a, v, e₀, l, g, hp⟩ := S.cel x P hx
  refine wpAny_AugAssign_Name (wpAny_loadName_cell hk hl e₀ g (he X s S _ _ fun u s₁ k₁ p₁ => h X s₁ v u (S.step k₁) (P.mono (S.view k₁) hp) p₁ _ _ fun r s₂ k₂ p₂ => ?_))
  exact hst X s₂ r (S.step (k₁.trans k₂)) p₂ _ _ fun s₃ k₃ S₃ => q s₃ (((k₁.trans k₂).more T_own).trans k₃) S₃
theorem Nx1.assignS {xp pos : Pos} {e : Expr} (he : Ev c σ e P) (hst : Sto c x P σ τ) (hs : swapsWith e (some (.Name x xp)) pos.line c.env = pure false) : Nx1 c σ (.Assign [.Name x xp] e pos) τ := fun X s S Q E q =>
  wpAny_Assign_Name (he X s S _ _ fun v s₁ k₁ p₁ => hst X s₁ v (S.step k₁) p₁ _ _ fun s₂ k₂ S₂ => q s₂ ((k₁.more T_own).trans k₂) S₂) hs

/-! ### pairs -/
theorem CallV.divmod {a b qq rr : Int} (hb : b ≠ 0) (hp : Builtin.divisionGoesByPylong a b = false) (hq : a.fdiv b = qq) (hr : a.fmod b = rr) : CallV c σ (.builtin "divmod") [aInt a, aInt b] (aTup [aInt qq, aInt rr]) := fun X s vs S ha Q E q => by
  subst hq hr
  obtain ⟨_, _, rfl, ⟨t, rfl⟩, u, rfl⟩ := ha.two
  exact divmod_int hb (q _ _ .push ⟨_, [_, _], rfl, ⟨_, view_get (Heap.get?_push_size _ rfl) (S.new_off (Nat.le_refl _)), rfl, 0, rfl⟩, ⟨_, rfl⟩, ⟨_, rfl⟩, trivial⟩) (.inl hp)
theorem Step.ext {G : Gl} {fl : Bool} {Y : List Addr} {s : Shared} {h' : Heap} (k : Heap.ExtBut s.heap.objs.size s.heap h') : Step G fl Y s { s with heap := h' } :=
  Step.heap (t := s.toks) fun b o e => k b o (Nat.ne_of_lt (Heap.lt_size e)) e
theorem Nx1.pair {y : Str} {xp yp tp pos : Pos} {k : Nat} {e : Expr} (hh : c.A.handled = none) (he : Ev c σ e (aTup [P, P'])) (h1 : Sto c x P σ τ) (h2 : Sto c y P' τ υ)
    (hs : swapsWithSole [.Tuple [.Name x xp, .Name y yp] k tp] e pos.line c.env = pure false) (hw : swappedStores [.Tuple [.Name x xp, .Name y yp] k tp] e c.env = pure none) : Nx1 c σ (.Assign [.Tuple [.Name x xp, .Name y yp] k tp] e pos) υ := fun X s S Q E q => by
  refine Assign_Tuple (he X s S _ _ fun v s₁ k₁ p₁ => ?_) hs hw
  obtain ⟨a, vs, rfl, ht, hv⟩ := p₁
  obtain ⟨v, u, rfl, p, p'⟩ := hv.two
  have ht' : IsTup s₁.heap a [v, u].toArray := let ⟨o, g, r⟩ := ht; ⟨o, view_sub _ _ g, r⟩
  refine assign_Tuple_tuple hh ht' rfl rfl fun h' he => ?_
  have k₂ : Step c.G c.fl c.T s₁ { s₁ with heap := h' } := Step.ext he
  have S₂ := (S.step k₁).step k₂
  refine assignInOrder_cons (wpAny_assign_Name (h1 X _ v S₂ (P.mono ((S.step k₁).view k₂) p) _ _ fun s₃ k₃ S₃ => ?_))
  refine assignInOrder_cons (wpAny_assign_Name (h2 X _ u S₃ (P'.mono (fun b o e => view_keep (Y := c.own ++ c.T) (fun b m => ?_) k₃.keep b o ((S.step k₁).view k₂ b o e)) p') _ _ fun s₄ k₄ S₄ => assignInOrder_nil (q s₄ ((((k₁.trans k₂).more T_own).trans k₃).trans k₄) S₄)))
  rcases List.mem_append.mp m with m | m
  · exact (S.own b m).1
  · exact S.tabs b (mem_T m)
theorem Ev.tup {l : List Expr} {Ps : List AV} {k : Nat} {pos : Pos} (h : EvL c σ l Ps) (hz : Ps.length ≤ sizeLine) : Ev c σ (.Tuple l k pos) (aTup Ps) := fun X s S Q E q => by
  rw [arm_eval_Tuple]
  refine wpAny_bind (wpAny_standAt (wpAny_bind (h.spliced X s S _ _ fun vs s₁ k₁ hv => wpAny_newObj_type ?_ (by show vs.toArray.size ≤ sizeLine; rw [List.size_toArray, hv.len]; exact hz))))
  exact q _ _ (k₁.trans .push) ⟨_, vs, rfl, ⟨_, view_get (Heap.get?_push_size _ rfl) ((S.step k₁).new_off (Nat.le_refl _)), rfl, 0, rfl⟩, hv.mono (view_keep (Y := []) (fun _ m => nomatch m) fun b o _ e => Heap.get?_push_of_some _ e)⟩
/-- x, y = e, e': the stores go backwards -/
theorem Nx1.swapped {y : Str} {tp pos : Pos} {k : Nat} {elts : List Expr} {e : Expr} (hh : c.A.handled = none) (he : Ev c σ e (aTup [P, P'])) (h1 : Sto c y P' σ τ) (h2 : Sto c x P τ υ)
    (hs : swapsWithSole [.Tuple elts k tp] e pos.line c.env = pure false) (hw : swappedStores [.Tuple elts k tp] e c.env = pure (some [x, y])) : Nx1 c σ (.Assign [.Tuple elts k tp] e pos) υ := fun X s S Q E q => by
  refine Assign_Tuple_swapped (he X s S _ _ fun v s₁ k₁ p₁ => ?_) hs hw
  obtain ⟨a, vs, rfl, ht, hv⟩ := p₁
  obtain ⟨v, u, rfl, p, p'⟩ := hv.two
  have ht' : IsTup s₁.heap a [v, u].toArray := let ⟨o, g, r⟩ := ht; ⟨o, view_sub _ _ g, r⟩
  show wpAny _ _ (unpackItems (.ref a) ([v, u].toArray).size none) _ _ _
  refine PyProof.Rows.unpackItems_tuple hh ht' fun h' he => ?_
  show wpAny _ _ (assignInOrder [fun w => bindName c.env y w, fun w => bindName c.env x w] [u, v]) _ _ _
  have k₂ : Step c.G c.fl c.T s₁ { s₁ with heap := h' } := Step.ext he
  have S₂ := (S.step k₁).step k₂
  refine assignInOrder_cons (bindName_ (h1 X _ u S₂ (P'.mono ((S.step k₁).view k₂) p') _ _ fun s₃ k₃ S₃ => ?_))
  refine assignInOrder_cons (bindName_ (h2 X _ v S₃ (P.mono (fun b o e => view_keep (Y := c.own ++ c.T) (fun b m => ?_) k₃.keep b o ((S.step k₁).view k₂ b o e)) p) _ _ fun s₄ k₄ S₄ => assignInOrder_nil (q s₄ ((((k₁.trans k₂).more T_own).trans k₃).trans k₄) S₄)))
  rcases List.mem_append.mp m with m | m
  · exact (S.own b m).1
  · exact S.tabs b (mem_T m)
end
end
section

section
variable {G : Gl} {A : Around} {R : Result → Shared → Prop} {I nc n : Nat} {fp : Addr → Prop} {wr : List Addr} {gx : Option Nat} {P : Nat → Value → Prop} {Z : Nat → Shared → Prop}

theorem Mv.more {wr' : List Addr} {s s' : Shared} (x : Mv G wr gx s s') (h : ∀ a ∈ wr, a ∈ wr') : Mv G wr' gx s s' := ⟨fun b o n e => x.keep b o (fun m => n (h b m)) e, x.ok, x.gens, x.size, x.drawn, x.os⟩
/-- one object that the walk does not look at is written -/
theorem Mv.write {s : Shared} {S : Addr} {h' : Heap} {t : Nat} (ok : G.Ok s) (hS : S ∈ wr) (h0 : G.h₀.objs.size ≤ S) (hc : ∀ o, s.heap.get? S = some o → o.cls ≠ .type "code") (k : ∀ b o, b ≠ S → s.heap.get? b = some o → h'.get? b = some o) : Mv G wr gx s { s with heap := h', toks := t } :=
  Mv.of_step (Step.but (t := t) hS h0 (fun o e hcl _ _ => hc o e hcl) k) ok

theorem extend_itr (W : Itr G A.in1 I nc fp wr gx n P Z) (hn : n ≤ sizeLine) (S : Addr) (hS0 : nc ≤ S) (h0 : G.h₀.objs.size ≤ S) (res : Value) :
    ∀ (k i : Nat) (s : Shared) (acc : Array Value) (c : Nat), n - i = k → i ≤ n → G.Ok s → Z i s → s.heap.get? S = some { cls := .type "list", dict := none, data := .seq acc c, slots := #[] } → ItemsOf P acc i →
    (∀ s' acc' c', Mv G (S :: wr) gx s s' → s'.heap.get? S = some { cls := .type "list", dict := none, data := .seq acc' c', slots := #[] } → ItemsOf P acc' n → R (.ok (.ret res)) s') →
    codeAny (model G.prog G.w) A (.builtin "list.extend.loop" ⟨[.ref S, .ref I, res], []⟩) R s := by
  have hSw : S ∉ wr := fun h => Nat.lt_irrefl _ (Nat.lt_of_lt_of_le (W.wlt S h) hS0)
  have hsub : ∀ b ∈ wr, b ∈ S :: wr := fun b hb => List.mem_cons_of_mem _ hb
  have hSf : ∀ b, fp b → b ≠ S := fun b h e => Nat.lt_irrefl _ (Nat.lt_of_lt_of_le (W.flt b h) (e ▸ hS0))
  intro k
  induction k with
  | zero =>
    intro i s acc c hk hi ok hst hS hacc hR
    have hin : i = n := by omega
    subst hin
    refine codeAny_builtin F.entry_extend_loop ?_
    rw [Around.under_plainId F.plain_extend_loop _]
    show wpAny _ A.in1 (pyNext (.ref I) >>= _) _ _ s
    refine wpAny_bind (W.done s _ _ ok hst fun s' hm => ?_)
    exact wpAny_pure (hR s' acc c (hm.more hsub) (hm.keep S _ hSw hS) hacc)
  | succ k ih =>
    intro i s acc c hk hi ok hst hS hacc hR
    have hlt : i < n := by omega
    refine codeAny_builtin F.entry_extend_loop ?_
    rw [Around.under_plainId F.plain_extend_loop _]
    show wpAny _ A.in1 (pyNext (.ref I) >>= _) _ _ s
    refine wpAny_bind (W.item i s _ _ hlt ok hst fun v s' hP hst' hm => ?_)
    have hS' := hm.keep S _ hSw hS
    show wpAny _ A.in1 (updateSeq S (·.push v) >>= _) _ _ _
    refine wpAny_bind ?_
    have oth : ∀ b o, b ≠ S → s'.heap.get? b = some o → (s'.heap.update S (Obj.mapSeq (·.push v))).get? b = some o := fun b o hb e => (Heap.get?_update_other _ _ (Ne.symm hb)).trans e
    have mv : Mv G (S :: wr) gx s' { s' with heap := s'.heap.update S (Obj.mapSeq (·.push v)) } := Mv.write (t := s'.toks) hm.ok (.head _) h0 (fun o e => by rw [hS'] at e; cases e; exact fun z => by simp at z) oth
    refine wpAny_updateSeq hS' rfl (wpAny_pure ⟨plainId_quiet F.plain_extend_loop _, ih (i + 1) _ (acc.push v) _ (by omega) hlt mv.ok (W.stay _ s' _ hst' mv.ok (fun b o hb e => oth b o (hSf b hb) e) fun _ _ => rfl) (Heap.get?_update_self _ hS' rfl) (hacc.push hP) fun s'' acc' c' hm'' hS'' hacc' => ?_⟩)
      (by rw [hacc.1]; omega) (by show (acc.push v).size ≤ sizeLine + 1; rw [Array.size_push, hacc.1]; omega)
    exact hR s'' acc' c' (((hm.more hsub).trans mv).trans hm'') hS'' hacc'

theorem extend_itr0 (W : Itr G A.in1 I nc fp wr gx n P Z) (hn : n ≤ sizeLine) (hT : ∀ i s, Z i s → s.TypeIs (.ref I) "generator") (S : Addr) (hS0 : nc ≤ S) (h0 : G.h₀.objs.size ≤ S) (hI : I < nc) (res : Value) (c₀ : Nat) {s : Shared} (ok : G.Ok s) (hst : Z 0 s)
    (hS : s.heap.get? S = some { cls := .type "list", data := .seq #[] c₀ })
    (hR : ∀ s' acc' c', Mv G (S :: wr) gx s s' → s'.heap.get? S = some { cls := .type "list", dict := none, data := .seq acc' c', slots := #[] } → ItemsOf P acc' n → R (.ok (.ret res)) s') :
    wpAny (model G.prog G.w) A.in1 (Builtin.List.listExtendWith (.ref S) (.ref I) res)
      (fun fin s' => match fin with | .done f => R (.ok f) s' | .again c' => c'.quiet = true ∧ codeAny (model G.prog G.w) A c' R s') (fun e s' => R (.error e) s') s := by
  have hSI : S ≠ I := fun e => Nat.lt_irrefl _ (Nat.lt_of_lt_of_le hI (e ▸ hS0))
  have hSf : ∀ b, fp b → b ≠ S := fun b h e => Nat.lt_irrefl _ (Nat.lt_of_lt_of_le (W.flt b h) (e ▸ hS0))
  unfold Builtin.List.listExtendWith
  refine wpAny_bind (wpAny_typeOf (hT 0 _ hst) ?_)
  have h1 : Builtin.List.listSameRef (.ref S) (.ref I) = false := by simp [Builtin.List.listSameRef, hSI]
  have h2 : (Value.type "generator" == Value.type "list") = false := by decide
  have h3 : (Value.type "generator" == Value.type "tuple") = false := by decide
  simp only [h1, h2, h3, Bool.or_false, Bool.false_eq_true, if_false]
  refine wpAny_bind (W.self 0 _ _ _ hst ?_)
  refine wpAny_bind (wpAny_holding ?_)
  unfold Builtin.List.listLengthHint
  refine wpAny_bind (wpAny_specialOf (hT 0 _ hst) F.gen_no_len ?_)
  show wpAny _ A.in1 (specialOf (Value.ref I) (Str.ofString "__length_hint__") >>= _) _ _ _
  refine wpAny_bind (wpAny_specialOf (hT 0 _ hst) F.gen_no_hint ?_)
  refine wpAny_pure ?_
  show wpAny _ A.in1 (rule "list.extend.makes-room" >>= fun _ => Builtin.List.listTouch (.ref S) >>= fun _ =>
    again (.builtin "list.extend.loop" ⟨[.ref S, .ref I, res], []⟩)) _ _ _
  refine wpAny_bind (wpAny_rule ?_)
  refine wpAny_bind ?_
  show wpAny _ A.in1 (updateSeq S (·.push .none) >>= fun _ => updateSeq S (·.pop)) _ _ _
  refine wpAny_bind (wpAny_updateSeq hS rfl ?_)
  have hS₂ := Heap.get?_update_self (Obj.mapSeq (·.push Value.none)) hS rfl
  refine wpAny_updateSeq (hz := by seq_fits) hS₂ rfl ?_
  have hS₃ := Heap.get?_update_self (Obj.mapSeq (·.pop)) hS₂ rfl
  have oth : ∀ b o, b ≠ S → s.heap.get? b = some o → ((s.heap.update S (Obj.mapSeq (·.push Value.none))).update S (Obj.mapSeq (·.pop))).get? b = some o :=
    fun b o hb e => (Heap.get?_update_other _ _ (Ne.symm hb)).trans ((Heap.get?_update_other _ _ (Ne.symm hb)).trans e)
  have mv : Mv G (S :: wr) gx s { s with heap := (s.heap.update S (Obj.mapSeq (·.push Value.none))).update S (Obj.mapSeq (·.pop)) } := Mv.write (t := s.toks) ok (.head _) h0 (fun o e => by rw [hS] at e; cases e; exact fun z => by simp at z) oth
  exact wpAny_pure ⟨plainId_quiet F.plain_extend_loop _, extend_itr W hn S hS0 h0 _ n 0 _ _ _ rfl (Nat.zero_le _) mv.ok
    (W.stay 0 s _ hst mv.ok (fun b o hb e => oth b o (hSf b hb) e) fun _ _ => rfl) hS₃ (ItemsOf.nil P) fun s' acc' c' hm hS' hacc => hR s' acc' c' (mv.trans hm) hS' hacc⟩

/-- list(generator) -/
theorem list_itr {s : Shared} {Q E : Value → Shared → Prop} (W : Itr G A.in1.in1 I nc fp wr gx n P Z) (hn : n ≤ sizeLine) (hT : ∀ i s, Z i s → s.TypeIs (.ref I) "generator") (hI : I < nc) (hnc : nc ≤ s.heap.objs.size) (ok : G.Ok s) (hst : Z 0 s)
    (hQ : ∀ s' acc' c', Mv G (s.heap.objs.size :: wr) gx s s' → s'.heap.get? s.heap.objs.size = some { cls := .type "list", dict := none, data := .seq acc' c', slots := #[] } → ItemsOf P acc' n → Q (.ref s.heap.objs.size) s') :
    wpAny (model G.prog G.w) A (call (.type "list") [.ref I]) Q E s := by
  refine callType_codes (Q₁ := fun obj s₁ => obj = .ref s.heap.objs.size ∧ s₁ = { s with heap := s.heap.push { cls := .type "list", data := .seq #[] } }) F.called_list (F.typeCall_list_1 _) F.entry_list_init
    (code_list_new _ ⟨rfl, rfl⟩) fun obj s₁ h₁ => ?_
  obtain ⟨rfl, rfl⟩ := h₁
  have hS : (s.heap.push { cls := .type "list", data := .seq #[] }).get? s.heap.objs.size = some { cls := .type "list", data := .seq #[] } := Heap.get?_push_size _ rfl
  have mv₀ : Mv G (s.heap.objs.size :: wr) gx s { s with heap := s.heap.push { cls := .type "list", data := .seq #[] } } := Mv.of_step .push ok
  refine ⟨⟨_, hS, rfl⟩, F.args_list_init_2 _ _, ?_⟩
  have hst₀ := W.stay 0 s _ hst mv₀.ok (fun b o _ e => Heap.get?_push_of_some _ e) fun _ _ => rfl
  show wpAny _ A.in1.in1 (do let old ← Builtin.List.listItems (.ref s.heap.objs.size); Builtin.List.listUpdate (.ref s.heap.objs.size) (fun _ => #[]); letGo old.toList.reverse; Builtin.List.listExtendWith (.ref s.heap.objs.size) (.ref I) .none) _ _ _
  refine wpAny_bind ?_
  unfold Builtin.List.listItems
  refine wpAny_bind (wpAny_seqItems hS rfl (wpAny_pure ?_))
  show wpAny _ A.in1.in1 (updateSeq s.heap.objs.size (fun _ => #[]) >>= fun _ => letGo (#[] : Array Value).toList.reverse >>= fun _ => Builtin.List.listExtendWith (.ref s.heap.objs.size) (.ref I) .none) _ _ _
  refine wpAny_bind (wpAny_updateSeq hS rfl ?_)
  have hS₂ := Heap.get?_update_self (Obj.mapSeq (fun _ => (#[] : Array Value))) hS rfl
  have oth : ∀ b o, b ≠ s.heap.objs.size → (s.heap.push { cls := .type "list", data := .seq #[] }).get? b = some o → ((s.heap.push { cls := .type "list", data := .seq #[] }).update s.heap.objs.size (Obj.mapSeq (fun _ => (#[] : Array Value)))).get? b = some o :=
    fun b o hb e => (Heap.get?_update_other _ _ (Ne.symm hb)).trans e
  refine wpAny_bind (wpAny_letGo ?_)
  have mv₁ : Mv G (s.heap.objs.size :: wr) gx { s with heap := s.heap.push { cls := .type "list", data := .seq #[] } } { s with heap := (s.heap.push { cls := .type "list", data := .seq #[] }).update s.heap.objs.size (Obj.mapSeq (fun _ => (#[] : Array Value))) } :=
    Mv.write (t := s.toks) mv₀.ok (.head _) ok.low (fun o e => by rw [hS] at e; cases e; exact fun z => by simp at z) oth
  refine extend_itr0 (A := A.in1) W hn hT _ hnc ok.low hI .none _ mv₁.ok (W.stay 0 _ _ hst₀ mv₁.ok (fun b o hb e => oth b o (Nat.ne_of_lt (Nat.lt_of_lt_of_le (W.flt b hb) hnc)) e) fun _ _ => rfl) hS₂ fun s' acc' c' hm hS' hacc => ?_
  exact ⟨rfl, hQ s' acc' c' ((mv₀.trans mv₁).trans hm) hS' hacc⟩
end
end
section

section
variable {G : Gl} {A : Around} {ks : List Int}
theorem ext_bytes {R : Result → Shared → Prop} {s : Shared} {b : Array UInt8} {t : Tok} (hh : A.handled = none) (eb : KBw.bInts b = ks) (hn : ks.length ≤ sizeLine) (ok : G.Ok s) (S : Addr) (h0 : G.h₀.objs.size ≤ S) (res : Value) (c₀ : Nat) (hS : s.heap.get? S = some { cls := .type "list", data := .seq #[] c₀ })
    (hR : ∀ s' acc' c', Step G false [S] s s' → s'.heap.get? S = some { cls := .type "list", dict := none, data := .seq acc' c', slots := #[] } → ItemsOf (fun i v => ∃ t, v = .int (ks.getD i 0) t) acc' ks.length → R (.ok (.ret res)) s') :
    wpAny (model G.prog G.w) A.in1 (Builtin.List.listExtendWith (.ref S) (.bytes b t) res)
      (fun fin s' => match fin with | .done f => R (.ok f) s' | .again c' => c'.quiet = true ∧ codeAny (model G.prog G.w) A c' R s') (fun e s' => R (.error e) s') s := by
  have hSI : S ≠ s.heap.objs.size := Nat.ne_of_lt (Heap.lt_size hS)
  unfold Builtin.List.listExtendWith
  refine wpAny_bind (wpAny_typeOf (typeIs_bytes s b t) ?_)
  have h1 : Builtin.List.listSameRef (.ref S) (.bytes b t) = false := rfl
  have h2 : (Value.type "bytes" == Value.type "list") = false := by decide
  have h3 : (Value.type "bytes" == Value.type "tuple") = false := by decide
  simp only [h1, h2, h3, Bool.or_false, Bool.false_eq_true, if_false]
  have it := iter_bytes (G := G) (A := A.in1) (ks := ks) hh
  refine wpAny_bind (it [S] s (.bytes b t) ok ⟨b, t, rfl, eb⟩ _ _ fun I s₂ fp Z st hI W hfp hz => ?_)
  have hS2 := st.keep _ _ (by simp) hS
  have hIS : I ≠ S := fun e => Nat.lt_irrefl _ (Nat.lt_of_lt_of_le (Heap.lt_size hS) (e ▸ hI))
  refine wpAny_bind (wpAny_holding ?_)
  unfold Builtin.List.listLengthHint
  refine wpAny_bind (wpAny_specialOf (typeIs_bytes s₂ b t) FB.slot_bytes_len.lookup ?_)
  wp_delta
  refine wpAny_bind (wpAny_isInstance (T := "bytes") (b := true) (typeIs_bytes s₂ b t) (by rw [isSubtype_type]; kernel_rfl) ?_)
  show wpAny _ _ (typeOf (Value.bytes b t) >>= _) _ _ _
  refine wpAny_bind (wpAny_typeOf (typeIs_bytes s₂ b t) ?_)
  refine wpAny_pure ?_
  rw [if_neg (by decide)]
  -- the loop, its own walk
  have hfS : ∀ b, fp b → b ≠ S := fun b h e => by
    rcases hfp b h with h | h
    · exact h (e ▸ .head _)
    · exact Nat.lt_irrefl _ (Nat.lt_of_lt_of_le (Heap.lt_size hS) (e ▸ h))
  have loop : ∀ (k i : Nat) (s₃ : Shared) (acc : Array Value) (c : Nat), ks.length - i = k → i ≤ ks.length → G.Ok s₃ → Z i s₃ → s₃.heap.get? S = some { cls := .type "list", dict := none, data := .seq acc c, slots := #[] } → ItemsOf (fun i v => ∃ t, v = .int (ks.getD i 0) t) acc i → Step G false [I, S] s₂ s₃ →
      codeAny (model G.prog G.w) A (.builtin "list.extend.loop" ⟨[.ref S, .ref I, res], []⟩) R s₃ := by
    have fin : ∀ {s'}, Step G false [I, S] s₂ s' → Step G false [S] s s' := fun k => Step.less (X := [I, S]) ((st.more fun _ m => nomatch m).trans k) fun a o m e => by
      rcases List.mem_cons.mp m with m | m
      · rw [m, none_of_ge hI] at e; cases e
      · exact m
    intro k
    induction k with
    | zero =>
      intro i s₃ acc c hk hi ok₃ hst hS₃ hacc k₃
      have hin : i = ks.length := by omega
      subst hin
      refine codeAny_builtin F.entry_extend_loop ?_
      rw [Around.under_plainId F.plain_extend_loop _]
      show wpAny _ A.in1 (pyNext (.ref I) >>= _) _ _ s₃
      refine wpAny_bind (W.done s₃ _ _ ok₃ hst fun s' hm => ?_)
      exact wpAny_pure (hR s' acc c (fin (k₃.trans ((hm.step ok₃).more fun a m => by rw [List.mem_singleton.mp m]; exact .head _))) (hm.keep S _ (by simp [Ne.symm hIS]) hS₃) hacc)
    | succ k ih =>
      intro i s₃ acc c hk hi ok₃ hst hS₃ hacc k₃
      have hlt : i < ks.length := by omega
      refine codeAny_builtin F.entry_extend_loop ?_
      rw [Around.under_plainId F.plain_extend_loop _]
      show wpAny _ A.in1 (pyNext (.ref I) >>= _) _ _ s₃
      refine wpAny_bind (W.item i s₃ _ _ hlt ok₃ hst fun v s' hP hst' hm => ?_)
      have hS' := hm.keep S _ (by simp [Ne.symm hIS]) hS₃
      show wpAny _ A.in1 (updateSeq S (·.push v) >>= _) _ _ _
      refine wpAny_bind ?_
      have oth : ∀ b o, b ≠ S → s'.heap.get? b = some o → (s'.heap.update S (Obj.mapSeq (·.push v))).get? b = some o := fun b o hb e => (Heap.get?_update_other _ _ (Ne.symm hb)).trans e
      have k₄ : Step G false [S] s' { s' with heap := s'.heap.update S (Obj.mapSeq (·.push v)) } := Step.but (t := s'.toks) (.head _) h0 (fun o e hc _ _ => by rw [hS'] at e; cases e; simp at hc) oth
      refine wpAny_updateSeq hS' rfl (wpAny_pure ⟨plainId_quiet F.plain_extend_loop _, ih (i + 1) _ (acc.push v) _ (by omega) hlt (k₄.ok hm.ok) (W.stay _ s' _ hst' (k₄.ok hm.ok) (fun b o hb e => oth b o (hfS b hb) e) fun _ _ => rfl) (Heap.get?_update_self _ hS' rfl) (hacc.push hP) ?_⟩)
        (by rw [hacc.1]; omega) (by show (acc.push v).size ≤ sizeLine + 1; rw [Array.size_push, hacc.1]; omega)
      exact (k₃.trans ((hm.step ok₃).more fun a m => by rw [List.mem_singleton.mp m]; exact .head _)).trans (k₄.more fun a m => by rw [List.mem_singleton.mp m]; exact .tail _ (.head _))
  exact wpAny_pure ⟨plainId_quiet F.plain_extend_loop _, loop ks.length 0 s₂ _ _ rfl (Nat.zero_le _) (st.ok ok) hz hS2 (ItemsOf.nil _) .refl⟩

theorem items_getD {acc : Array Value} (h : ItemsOf (fun i v => ∃ t, v = .int (ks.getD i 0) t) acc ks.length) : IntsAre acc.toList ks := by
  have := items_ints h
  have e : (List.range ks.length).map (fun i => ks.getD i 0) = ks := by
    apply List.ext_getElem
    · simp
    · intro i h1 h2; simp [h2]
  rw [e] at this; exact this
end

section
variable {c : Fx} {σ τ υ : St} {P P' R PI : AV} {n : Nat} {x : Str}
theorem list_bytes {G : Gl} {A : Around} {ks : List Int} {b : Array UInt8} {t : Tok} {s : Shared} {Q E : Value → Shared → Prop} (hh : A.handled = none) (hz : ks.length ≤ sizeLine) (eb : KBw.bInts b = ks) (ok : G.Ok s)
    (q : ∀ s' (vs : List Value), Step G false [] s s' → s'.heap.PlainList s.heap.objs.size vs.toArray → IntsAre vs ks → Q (.ref s.heap.objs.size) s') : wpAny (model G.prog G.w) A (call (.type "list") [.bytes b t]) Q E s := by
  refine callType_codes (Q₁ := fun obj s₁ => obj = .ref s.heap.objs.size ∧ s₁ = { s with heap := s.heap.push { cls := .type "list", data := .seq #[] } }) F.called_list (F.typeCall_list_1 _) F.entry_list_init
    (code_list_new _ ⟨rfl, rfl⟩) fun obj s₁ h₁ => ?_
  obtain ⟨rfl, rfl⟩ := h₁
  have hS : (s.heap.push { cls := .type "list", data := .seq #[] }).get? s.heap.objs.size = some { cls := .type "list", data := .seq #[] } := Heap.get?_push_size _ rfl
  refine ⟨⟨_, hS, rfl⟩, F.args_list_init_2 _ _, ?_⟩
  show wpAny _ A.in1.in1 (do let old ← Builtin.List.listItems (.ref s.heap.objs.size); Builtin.List.listUpdate (.ref s.heap.objs.size) (fun _ => #[]); letGo old.toList.reverse; Builtin.List.listExtendWith (.ref s.heap.objs.size) (.bytes b t) .none) _ _ _
  refine wpAny_bind ?_
  unfold Builtin.List.listItems
  refine wpAny_bind (wpAny_seqItems hS rfl (wpAny_pure ?_))
  show wpAny _ A.in1.in1 (updateSeq s.heap.objs.size (fun _ => #[]) >>= fun _ => letGo (#[] : Array Value).toList.reverse >>= fun _ => Builtin.List.listExtendWith (.ref s.heap.objs.size) (.bytes b t) .none) _ _ _
  refine wpAny_bind (wpAny_updateSeq hS rfl ?_)
  have hS₂ := Heap.get?_update_self (Obj.mapSeq (fun _ => (#[] : Array Value))) hS rfl
  have oth : ∀ b o, b ≠ s.heap.objs.size → (s.heap.push { cls := .type "list", data := .seq #[] }).get? b = some o → ((s.heap.push { cls := .type "list", data := .seq #[] }).update s.heap.objs.size (Obj.mapSeq (fun _ => (#[] : Array Value)))).get? b = some o :=
    fun b o hb e => (Heap.get?_update_other _ _ (Ne.symm hb)).trans e
  have k₁ : Step G false [s.heap.objs.size] s { s with heap := (s.heap.push { cls := .type "list", data := .seq #[] }).update s.heap.objs.size (Obj.mapSeq (fun _ => (#[] : Array Value))) } :=
    Step.heap (t := s.toks) fun b o e => oth b o (Nat.ne_of_lt (Heap.lt_size e)) (Heap.get?_push_of_some _ e)
  refine wpAny_bind (wpAny_letGo ?_)
  refine ext_bytes (A := A.in1) hh eb hz (k₁.ok ok) _ ok.low .none _ hS₂ fun s' acc' c' k₂ hS' hacc => ?_
  refine ⟨rfl, q _ acc'.toList (Step.less (k₁.trans k₂) fun a o m e => ?_) ⟨c', by simpa using hS'⟩ (items_getD hacc)⟩
  rw [List.mem_singleton.mp m, none_of_ge (Nat.le_refl _)] at e; cases e
theorem CallV.listBytes {ks : List Int} (hh : c.A.handled = none) (hz : ks.length ≤ sizeLine) : CallV c σ (.type "list") [aByt ks] (aRow ks) := fun X s vs S ha Q E q => by
  obtain ⟨_, rfl, b, t, rfl, eb⟩ := ha.one
  refine list_bytes hh hz eb S.ok fun s' vs k pl ia => q _ _ k.low ⟨_, vs, rfl, ?_, ia⟩
  obtain ⟨n, e⟩ := pl
  exact ⟨n, view_get e (S.new_off (Nat.le_refl _))⟩

/-- a call with one argument, told by hand -/
theorem call1 {np pos : Pos} {f : Value} {e : Expr} {X : List Addr} {s : Shared} {Q E : Value → Shared → Prop} (S : Sat c σ X s) (hf : Ev c σ (.Name x np) (aVal f)) (hk : KeepsIt c f) (hs : starEach [e] c.env = [(false, eval e c.env)])
    (he : ∀ s₁, Sat c σ X s₁ → Step c.G c.fl c.T s s₁ → wpAny c.M c.A (eval e c.env) (fun v s₂ => c.G.Ok s₂ ∧ wpAny c.M c.A (call f [v]) Q E s₂) E s₁) : wpAny c.M c.A (eval (.Call (.Name x np) [e] [] pos) c.env) Q E s := by
  refine wpAny_Call_NameR (hf X s S _ _ fun v s₁ k₁ e₁ => ?_)
  have e₁ : v = f := e₁
  subst e₁
  rw [hs]
  refine callWith_of (P := fun hh => ∃ k, (k = Keeper.frame ∨ k = Keeper.machine ∨ k = Keeper.boundFrame) ∧ Looks c.M hh (keeperOf v) k) rfl (fun _ x => x) ?_
  refine evalArgs_plain (spliced_cons (wpAny_mono (he s₁ (S.step k₁) k₁) (fun v s₂ h => ?_) fun _ _ z => z))
  exact spliced_none (env := c.env) ⟨hk s₂ h.1, h.2⟩

/-- row.index(e) -/
theorem Ev.index {o e : Expr} {apos pos : Pos} {ns : List Int} {k : Int} {j : Nat} (ho : Ev c σ o (aRow ns)) (he : Ev c σ e (aInt k)) (hj : ns[j]? = some k) (hno : ∀ m, m < j → ns[m]? ≠ some k) (hz : ns.length ≤ 16777216)
    (hbase : attributeBase o "index" c.env (eval o c.env) = eval o c.env) (hline : (apos.endLine == pos.line) = true) (hs : starEach [e] c.env = [(false, eval e c.env)]) : Ev c σ (.Call (.Attribute o "index" apos) [e] [] pos) (aInt j) := fun X s S Q E q => by
  refine wpAny_Call_method hbase (by rw [hs]; rfl) hline F.plainAttrs_list F.slot_list_index F.type_list_index (ho X s S _ _ fun v s₁ k₁ p₁ => ?_)
  obtain ⟨a, vs, rfl, ⟨n, l⟩, ia⟩ := p₁
  have l₁ := view_sub _ _ l
  refine ⟨⟨_, l₁, rfl⟩, fun b hb => ?_, ?_⟩
  · cases hb; exact ⟨_, l₁, rfl⟩
  · rw [hs]
    refine PySem.P.index_list (he X s₁ (S.step k₁) _ _ fun u s₂ k₂ ⟨t, e₂⟩ => ?_)
    subst e₂
    have l₂ := view_sub _ _ ((S.step k₁).view k₂ _ _ l)
    have hjl : j < ns.length := (List.getElem?_eq_some_iff.mp hj).1
    have hvl : vs.length = ns.length := ia.length
    have at_ : ∀ m (hm : m < vs.toArray.size), isInt k vs.toArray[m] = (ns[m]? == some k) := fun m hm => by
      have hm' : m < ns.length := by simpa [hvl] using hm
      obtain ⟨t, et⟩ := ia.get m _ (List.getElem?_eq_getElem hm')
      have : vs.toArray[m] = .int ns[m] t := by
        have := List.getElem?_eq_some_iff.mp et
        simpa using this.2
      rw [this, List.getElem?_eq_getElem hm']
      rfl
    refine ⟨vs.toArray, n, isInt k, j, by simpa [hvl] using hjl, l₂, fun y hy => eq_isInt k t ia y (by simpa using hy), by omega, ?_, fun m hm h => ?_, q _ _ ((k₁.trans k₂).trans .toks) ⟨_, rfl⟩⟩
    · rw [at_, hj]; simp
    · rw [at_]; simpa using hno m h
end
end
section

theorem tab_fields {h : Heap} {c P : Addr} {ps ps' : Array Value} (x : h.TableAt c P ps) (y : h.get? P = some (tabObj ps')) : ps = ps' := by
  have z := Option.some.inj (x.2.symm.trans y)
  injection z with _ _ z _
  injection z

/-- a code is put into its table -/
theorem Gl.Ok.table {G : Gl} {s s' : Shared} {t : Tab} {ps : Array Value} {c' : Addr} (x : G.Ok s) (ht : t ∈ G.tabs) (hP : s.heap.TableAt t.c t.P ps) (hn : codeAmong t.pos ps.toList = none) (hx : Heap.ExtBut t.P s.heap s'.heap)
    (hT : s'.heap.TableAt t.c t.P (ps ++ #[rawInt t.pos.line, rawInt t.pos.col, .ref c'])) (hC : s'.heap.IsCode t.c t.P (ps ++ #[rawInt t.pos.line, rawInt t.pos.col, .ref c'])) (hc : ∃ o vs tk, s'.heap.get? c' = some o ∧ o.cls = .type "code" ∧ o.data = .fields vs ∧ vs[1]? = some (.str t.qual tk)) (hg : s'.gens = s.gens) : G.Ok s' := by
  obtain ⟨c₀, ps₀, ps₁, h1, h2, h3, _⟩ := x.tabs t ht
  have e := tab_fields h2 hP.2
  subst e
  obtain ⟨_, _, _, _, _, _, _, _, _, _, _, _, _, _, _, _, _, _, _, tri, _⟩ := id h3
  have hst : cStatics ≠ t.P := fun q => (G.tlt t ht).2.1 q.symm
  refine ⟨x.old.step_table h1 hP hT hx (G.tlt t ht).2.1, ?_, fun t' ht' => ?_, by rw [hg]; exact x.bare⟩
  · obtain ⟨mc, ⟨o, es, ep, e, r⟩, q⟩ := G.lim
    have := x.stat
    rw [e] at this
    rw [hx _ _ hst this, e]
  · by_cases q : t'.P = t.P
    · have := G.tinj t' ht' t ht q
      subst this
      refine ⟨c₀, ps₀, _, h1, hT, hC, .inr ⟨c', ?_, ?_⟩⟩
      · have := codeAmong_snoc (c := .ref c') ps₁.toList tri hn
        simpa using this
      · obtain ⟨o, vs, tk, a, b, r⟩ := hc
        exact ⟨o, vs, tk, a, b, r⟩
    · obtain ⟨d₀, qs₀, qs, g1, g2, g3, g4⟩ := x.tabs t' ht'
      have nc : ∀ {a : Addr} {o : Obj} {vs : Array Value}, s.heap.get? a = some o → o.cls = .type "code" → a ≠ t.P := fun e d z => by
        rw [z, hP.2] at e; cases e; cases d
      have hcP : t'.c ≠ t.P := by
        obtain ⟨⟨o, vs, a, b, _⟩, _⟩ := g2
        exact nc (vs := vs) a b
      refine ⟨d₀, qs₀, qs, g1, ?_, ?_, ?_⟩
      · obtain ⟨⟨o, vs, a, r⟩, b⟩ := g2
        exact ⟨⟨o, vs, hx _ _ hcP a, r⟩, hx _ _ q b⟩
      · obtain ⟨o2, vs2, file, tf, flags, tg, inF, text, tt, op, a2, r1, r2, r3, r4, r5, r6, b2, r7⟩ := g3
        exact ⟨o2, vs2, file, tf, flags, tg, inF, text, tt, op, hx _ _ hcP a2, r1, r2, r3, r4, r5, r6, hx _ _ q b2, r7⟩
      · rcases g4 with g4 | ⟨d', e, o, vs, tk, g, hcl, r⟩
        · exact .inl g4
        · exact .inr ⟨d', e, o, vs, tk, hx _ _ (nc (vs := vs) g hcl) g, hcl, r⟩

section
variable {M : Model} {A : Around} {E : Value → Shared → Prop} {s : Shared} {name qual : Str} {params : Arguments} {body : List Stmt} {scope : Scope} {env : Env} {q : Str × Addr} {r : List (Str × Addr)} {Q : Value → Shared → Prop}

/-- a code object that a table may name -/
def CodeAt (h : Heap) (c : Addr) (q : Str) : Prop := ∃ o vs tk, h.get? c = some o ∧ o.cls = .type "code" ∧ o.data = .fields vs ∧ vs[1]? = some (.str q tk)

/-- a def inside a def, closing over names -/
theorem make_fn {G : Gl} {t : Tab} (ht : t ∈ G.tabs) (hcl : closureFor scope env = pure (q :: r)) (hge0 : env.globals = mainGlobals) (hcode : env.code = .ref t.c) (ok : G.Ok s)
    (h : ∀ c' ctv doc f s', Step G true G.T s s' → s.heap.objs.size ≤ f → s'.heap.get? f = some (fnMade name t.qual params body scope (q :: r) doc ((G.mg "__name__").getD .none) c' ctv) → CodeAt s'.heap c' t.qual → (∀ c, Gl.Ok.Named G s' c → Gl.Ok.Named G s c ∨ s.heap.objs.size ≤ c) → Q (.ref f) s') :
    wpAny M A (makeFunction name t.qual params (.stmts body) scope env [] [] [] t.pos t.pos.line) Q E s := by
  obtain ⟨c₀, ps₀, ps, h1, h2, h3, h4⟩ := ok.tabs t ht
  have hC := CodeHd.of h3 h2
  have tri : TriplesOk ps.toList := by
    obtain ⟨_, _, _, _, _, _, _, _, _, _, _, _, _, _, _, _, _, _, _, tri, _⟩ := h3
    exact tri
  obtain ⟨bm, ob, hbm, hne0, hneg, hneP, hbo, hcls, hdict, hdata⟩ := G.bmain t ht
  have hbo : s.heap.get? bm = some ob := ok.old.get_of_cls hbo (by rw [hcls]; simp)
  have hg := ok.glob
  have hgP : mainGlobals ≠ t.P := fun z => by
    obtain ⟨o, es, ep, e, d, _⟩ := ok.glob
    rw [z, h2.2] at e; cases e; cases d
  rw [makeFunction_eq]
  simp only [List.zip_nil_right, List.filterMap_nil, List.isEmpty_nil, if_true, pure_bind]
  unfold makeTail
  rw [hcl, hge0]
  refine wpAny_bind (wpAny_pure ?_)
  simp only [List.isEmpty_cons, Bool.false_eq_true, if_false]
  refine wpAny_bind (wpAny_newTextTuple ?_)
  generalize hH : s.heap.push _ = H
  have hk : ∀ b o, s.heap.get? b = some o → H.get? b = some o := fun b o e => hH ▸ Heap.get?_push_of_some _ e
  have hz : H.objs.size = s.heap.objs.size + 1 := by rw [← hH, Heap.size_push]
  have nm0 : ∀ {H' : Heap} {tk : Nat} (c : Addr), (∀ b o, s.heap.get? b = some o → H'.get? b = some o) → Gl.Ok.Named G { s with heap := H', toks := tk } c → Gl.Ok.Named G s c := fun c k n => named_step ok (fun b o _ e => k b o e) n
  rcases h4 with h4 | ⟨c', e4, o4, vs4, tk4, g4, hcl4, hd4, hq4⟩
  · -- no code yet
    refine wpAny_bind (wpAny_functionCodeX hcode ((hC.keeps hk).code (hk _ _ h2.2) tri) ((hC.keeps hk).tab (hk _ _ h2.2)) h4 fun c' h' tk hx hge hlt hIC hrec htb htc => ?_)
    have hg' : h'.Ns mainGlobals G.mg := (ns_keeps (fun o e => hk _ _ e) hg).extBut hx hgP
    have hx' : Heap.ExtBut t.P s.heap h' := fun b o hb' e => hx b o hb' (hk _ _ e)
    have hge' : s.heap.objs.size ≤ c' := Nat.le_trans (show s.heap.objs.size ≤ H.objs.size by omega) hge
    obtain ⟨P', _, _, ⟨oc, vc, tc1, tc2, tc3, _⟩, _⟩ := htc
    obtain ⟨c1, o1, v1, tk1, er, er1, er2, er3⟩ := hrec
    cases er
    rw [tc1] at er1; cases er1
    rw [tc3] at er2; cases er2
    have fin : ∀ (oF : Obj) (tk' : Nat), Step G true G.T s { s with heap := h'.push oF, toks := tk' } := fun oF tk' => by
      have okT : G.Ok s → G.Ok { s with heap := h'.push oF, toks := tk' } := fun ok => Gl.Ok.table (c' := c') ok ht h2 h4 (fun b o hb e => Heap.get?_push_of_some _ (hx' b o hb e)) (htb.keeps fun b o e => Heap.get?_push_of_some _ e) (hIC.keeps fun b o e => Heap.get?_push_of_some _ e) ⟨_, _, tk1, Heap.get?_push_of_some _ tc1, tc2, tc3, er3⟩ rfl
      exact ⟨fun b o n e => Heap.get?_push_of_some _ (hx' b o (fun z => n (z ▸ List.mem_map.mpr ⟨t, ht, rfl⟩)) e), okT, GX.refl _ _, rfl, rfl⟩
    have nm : ∀ (oF : Obj) (tk' : Nat) (c : Addr), Gl.Ok.Named G { s with heap := h'.push oF, toks := tk' } c → Gl.Ok.Named G s c ∨ s.heap.objs.size ≤ c := fun oF tk' c n => by
      obtain ⟨t', ht', d, qs, tq, en⟩ := n
      by_cases z : t'.P = t.P
      · have := G.tinj t' ht' t ht z
        subst this
        have e := tab_fields tq ((htb.keeps fun b o e => Heap.get?_push_of_some _ e).2)
        subst e
        have z := codeAmong_snoc (c := .ref c') ps.toList tri h4
        rw [show (ps ++ #[rawInt t'.pos.line, rawInt t'.pos.col, .ref c']).toList = ps.toList ++ [rawInt t'.pos.line, rawInt t'.pos.col, .ref c'] by simp, z] at en
        cases en
        exact .inr hge'
      · obtain ⟨d₀, qs₀, qs', g1, g2, _⟩ := ok.tabs t' ht'
        have e := tab_fields tq (Heap.get?_push_of_some _ (hx' _ _ z g2.2))
        subst e
        exact .inl ⟨t', ht', _, qs, g2, en⟩
    have fsz : s.heap.objs.size ≤ h'.objs.size := Nat.le_trans hge' (Nat.le_of_lt hlt)
    refine wpAny_bind (wpAny_builtinsFor hg' hbm hne0 (hx' _ _ hneP hbo) hcls hdict hdata ?_)
    refine wpAny_bind (wpAny_nsGet hg' ?_)
    have cdf : ∀ oF : Obj, CodeAt (h'.push oF) c' t.qual := fun oF => ⟨_, _, tk1, Heap.get?_push_of_some _ tc1, tc2, tc3, er3⟩
    cases hdoc : docOf body with
    | none => exact wpAny_bind (wpAny_pure (wpAny_newObj_type (h c' _ .none _ _ (fin _ _) fsz (Heap.get?_push_size _ rfl) (cdf _) (nm _ _)) (by size_fits)))
    | some d => exact wpAny_bind (wpAny_mkText (wpAny_newObj_type (h c' _ _ _ _ (fin _ _) fsz (Heap.get?_push_size _ rfl) (cdf _) (nm _ _)) (by size_fits)))
  · refine wpAny_bind (wpAny_functionCode_hit hcode ((hC.keeps hk).code (hk _ _ h2.2) tri) e4 ?_)
    refine wpAny_bind (wpAny_builtinsFor (ns_keeps (fun o e => hk _ _ e) hg) hbm hne0 (hk _ _ hbo) hcls hdict hdata ?_)
    refine wpAny_bind (wpAny_nsGet (ns_keeps (fun o e => hk _ _ e) hg) ?_)
    have fsz : s.heap.objs.size ≤ H.objs.size := by omega
    have cdf : ∀ oF : Obj, CodeAt (H.push oF) c' t.qual := fun oF => ⟨o4, vs4, tk4, Heap.get?_push_of_some _ (hk _ _ g4), hcl4, hd4, hq4⟩
    cases hdoc : docOf body with
    | none => exact wpAny_bind (wpAny_pure (wpAny_newObj_type (h c' _ .none _ _ (Step.heap fun b o e => Heap.get?_push_of_some _ (hk b o e)) fsz (Heap.get?_push_size _ rfl) (cdf _) fun c n => .inl (nm0 c (fun b o e => Heap.get?_push_of_some _ (hk b o e)) n)) (by size_fits)))
    | some d => exact wpAny_bind (wpAny_mkText (wpAny_newObj_type (h c' _ _ _ _ (Step.heap fun b o e => Heap.get?_push_of_some _ (hk b o e)) fsz (Heap.get?_push_size _ rfl) (cdf _) fun c n => .inl (nm0 c (fun b o e => Heap.get?_push_of_some _ (hk b o e)) n)) (by size_fits)))
end
end
section

theorem paired_tail {α β : Type} {F : α → β → Prop} {x : α} {xs : List α} {vs : List β} (p : Paired F (x :: xs) vs) : ∃ v r, vs = v :: r ∧ F x v ∧ Paired F xs r := by
  cases p with
  | cons h t => exact ⟨_, _, rfl, h, t⟩

section
variable {G : Gl} {A : Around} {Q E : Value → Shared → Prop} {s : Shared} {env : Env}
/-- l.pop(0) -/
theorem pop0 {o : Expr} {apos pos p0 : Pos} {k0 : Nat} {lv : Addr} {y : Value} {r : List Value} (hbase : attributeBase o "pop" env (eval o env) = eval o env) (hline : (apos.endLine == pos.line) = true)
    (ho : ∀ Q E, Q (.ref lv) s → wpAny (model G.prog G.w) A (eval o env) Q E s) (hl : s.heap.PlainList lv (y :: r).toArray) (h0 : G.h₀.objs.size ≤ lv) (hz : r.length < 16777216)
    (q : ∀ s', Step G false [lv] s s' → s'.heap.PlainList lv r.toArray → Q y s') :
    wpAny (model G.prog G.w) A (eval (.Call (.Attribute o "pop" apos) [.Constant (.int 0) k0 p0] [] pos) env) Q E s := by
  refine wpAny_Call_method hbase rfl hline F.plainAttrs_list F.slot_list_pop F.type_list_pop (ho _ _ ?_)
  obtain ⟨n, e⟩ := hl
  refine ⟨⟨_, e, rfl⟩, fun b hb => ?_, ?_⟩
  · cases hb; exact ⟨_, e, rfl⟩
  · show wpAny _ _ (callWith pos (.builtin "list.pop") [.ref lv] [(false, eval (.Constant (.int 0) k0 p0) env)] []) _ _ _
    refine PySem.P.pop_at_list (wpAny_Constant_int ?_)
    have st : Step G false [lv] s { s with heap := s.heap.update lv (Obj.mapSeq fun xs => xs.eraseIdxIfInBounds 0), toks := s.toks + 1 } :=
      Step.but (.head _) h0 (fun o e' hc _ _ => by rw [e] at e'; cases e'; simp at hc) fun b o hb e' => (Heap.get?_update_other _ _ (Ne.symm hb)).trans e'
    have pl : (s.heap.update lv (Obj.mapSeq fun xs => xs.eraseIdxIfInBounds 0)).PlainList lv r.toArray := by
      have z := IsL.update e fun xs => xs.eraseIdxIfInBounds 0
      have ez : ((y :: r).toArray).eraseIdxIfInBounds 0 = r.toArray := by simp [Array.eraseIdxIfInBounds]
      rw [ez] at z
      exact ⟨_, z⟩
    refine ⟨_, n, 0, _, 0, y, ?_, rfl, e, by decide, ?_, rfl, q _ st pl⟩
    · rw [sizeLine_eq]; simp; omega
    · simp [seqIndex?]
end

def rdE (i : Int) (v : Value) : Prop := ∃ t, v = .int i t
def CodeObj (o : Obj) (q : Str) : Prop := ∃ vs tk, o.cls = .type "code" ∧ o.data = .fields vs ∧ vs[1]? = some (.str q tk)
theorem CodeAt.obj {h : Heap} {c : Addr} {q : Str} (x : CodeAt h c q) : ∃ o, h.get? c = some o ∧ CodeObj o q := let ⟨o, vs, tk, a, b, d, e⟩ := x; ⟨o, a, vs, tk, b, d, e⟩
theorem CodeObj.rec_ {h : Heap} {c : Addr} {q : Str} {o : Obj} (g : h.get? c = some o) (x : CodeObj o q) : h.CodeRec (.ref c) q := let ⟨vs, tk, b, d, e⟩ := x; ⟨c, o, vs, tk, rfl, g, d, e⟩

set_option maxHeartbeats 1000000 in
/-- next_value of encode_bytes -/
theorem next_enc {k : Gc} {f cc ca : Addr} {q : Str} {doc pm ctv : Value} {co xo : Obj} (K : k.Ok) (hrd : k.rd = rdE)
    (hf : (f, fnMade "next_value" q (prm nvE) (bd nvE) (scp nvE) [("values", ca)] doc pm cc ctv) ∈ k.fix) (hc : (cc, co) ∈ k.fix) (hco : CodeObj co q)
    (hx : (ca, xo) ∈ k.fix) (hxo : xo.data = .cell (some (.ref k.lv))) : NextV k f := by
  intro A s x rest rm ok hB hfix hl Z h
  obtain ⟨vs, pl, pd, hr⟩ := hl
  have hr : rest.length < 16777216 := by rw [List.length_cons] at hr; omega
  obtain ⟨v, r, rfl, hv, pr⟩ := paired_tail pd
  rw [hrd] at hv
  obtain ⟨t, rfl⟩ := hv
  have hrl : r.length = rest.length := pr.length.symm
  refine codeAny_call_def (by have := rm.d; omega) (hfix _ hf) rfl ok.nolim (hco.rec_ (hfix _ hc)) rfl (.of_eq (binds := []) rfl) (show ∀ x ∈ (scp nvE).names, x.2 ≠ .cell by decide +kernel) (fun x hx => nomatch hx) (fun h₀ hn hk => ?_) rfl rfl rfl
  have k₁ : Step k.G false [k.lv] s { s with heap := h₀, toks := s.toks + ([] : List (Str × Value)).length } := Step.heap hk
  refine wpAny_execs_cons (wpAny_Return_some ?_)
  refine pop0 (lv := k.lv) (r := r) rfl rfl (fun Q E q => ?_) ⟨pl.choose, hk _ _ pl.choose_spec⟩ K.lv.2.1 (by omega) fun s' st pl' => ?_
  · exact wpAny_Name (wpAny_loadName_free rfl rfl rfl ⟨_, hk _ _ (hfix _ hx), hxo⟩ q) (by decide)
  · exact h _ s' (k₁.trans st) ⟨t, rfl⟩ ⟨r, pl', pr, hr⟩

section
variable {c : Fx} {σ : St}
/-- a method of the engine, its one argument told by hand -/
theorem meth1 {G : Gl} {A : Around} {env : Env} {s : Shared} {o e : Expr} {name : Str} {apos pos : Pos} {C f x : Addr} {sg : List Int} {big : Bool} {fd : FuncData} {Q E : Value → Shared → Prop} (ok : G.Ok s) (ho : ∀ Q E, Q (.ref x) s → wpAny (model G.prog G.w) A (eval o env) Q E s) (en : EngAt C sg big x s.heap) (hC : ClsOk G.K C)
    (hf : findIn G.K (.ref C) name = some (some (.ref f))) (ht : typeIn G.K (.ref f) = some (.type "function")) (F : FnAt G f fd)
    (hes : ∀ sb lk h1 h2 h3 t1 t2 t3 tb, getL name (engEs sb big lk h1 h2 h3 t1 t2 t3 tb) = some none)
    (hbase : attributeBase o name env (eval o env) = eval o env) (hline : (apos.endLine == pos.line) = true) (hs : starEach [e] env = [(false, eval e env)])
    (h : wpAny (model G.prog G.w) A (eval e env) (fun v s₂ => G.Ok s₂ ∧ wpAny (model G.prog G.w) A (call (.ref f) [.ref x, v]) Q E s₂) E s) :
    wpAny (model G.prog G.w) A (eval (.Call (.Attribute o name apos) [e] [] pos) env) Q E s := by
  rw [arm_eval_Call, hbase]
  refine wpAny_bind (ho _ _ (wpAny_bind (wpAny_standAt ?_)))
  have hform : methodCallForm ([e].length + ([] : List Keyword).length) (backTo pos (starEach [e] env)) (backToKw pos (keywordEach [] env)) = true := by rw [hs]; rfl
  have hpos : methodCallPos true o env apos pos = pure pos := by unfold methodCallPos; simp [hline]
  unfold methodCall
  rw [hform]
  obtain ⟨sb, dx, lk, n', h1, h2, h3, t1, t2, t3, tb, eb, a, b, m⟩ := en
  refine wpAny_bind (wpAny_holding (method_fn ok.frag (x := x) (ox := instObj C dx) (od := some (dictOf (engEs sb big lk h1 h2 h3 t1 t2 t3 tb) n')) (C := C) ⟨a, rfl, rfl, b⟩ (plainGet_of (name := "") hC.get).1 (plainGet_of (name := "") hC.get).2 hf ht (by show (lookIn name (dictOf _ n')).map _ = _; rw [lookIn_dict, hes]; rfl) ?_))
  refine wpAny_bind (wpAny_of_eq hpos ?_)
  rw [hs]
  have hk : ∀ s, G.Ok s → ∃ k, (k = Keeper.frame ∨ k = Keeper.machine ∨ k = Keeper.boundFrame) ∧ Looks (model G.prog G.w) s.heap (keeperOf (.ref f)) k := fun s ok => by
    obtain ⟨oc, od, osl, hl⟩ := F.obj
    exact ⟨.frame, .inl rfl, (Looks.ld (part := none) (ok.frag _ _ hl)).andThen .now⟩
  refine callWith_of (P := fun hh => ∃ k, (k = Keeper.frame ∨ k = Keeper.machine ∨ k = Keeper.boundFrame) ∧ Looks (model G.prog G.w) hh (keeperOf (.ref f)) k) rfl (fun _ x => x) ?_
  refine evalArgs_plain (spliced_cons (wpAny_mono h (fun v s₂ h => ?_) fun _ _ z => z))
  exact spliced_none (env := env) ⟨hk s₂ h.1, h.2⟩
end

def rdD (sg : List Int) (i : Int) (v : Value) : Prop := ∃ t b, v = .int b t ∧ 0 ≤ i ∧ sg[i.toNat]? = some b
set_option maxHeartbeats 1000000 in
/-- next_value of decode_bytes -/
theorem next_dec {k : Gc} {f cc ca cs x C f64 : Addr} {sg : List Int} {big : Bool} {q : Str} {doc pm ctv : Value} {co xo so : Obj} {fd : FuncData} (K : k.Ok) (hrd : k.rd = rdD sg)
    (hf : (f, fnMade "next_value" q (prm nvD) (bd nvD) (scp nvD) [("values", ca), ("self", cs)] doc pm cc ctv) ∈ k.fix) (hc : (cc, co) ∈ k.fix) (hco : CodeObj co q)
    (hx : (ca, xo) ∈ k.fix) (hxo : xo.data = .cell (some (.ref k.lv))) (hs : (cs, so) ∈ k.fix) (hso : so.data = .cell (some (.ref x))) (hen : EngAt C sg big x k.B)
    (hC : ClsOk k.G.K C) (h1 : findIn k.G.K (.ref C) "_decode64" = some (some (.ref f64))) (h2 : typeIn k.G.K (.ref f64) = some (.type "function")) (F : FnAt k.G f64 fd)
    (h64 : ∀ (i : Nat) b, sg[i]? = some b → FnV k.G false 1 f64 [aEng C sg big, aInt b] (aInt i)) : NextV k f := by
  intro A s y rest rm ok hB hfix hl Z h
  obtain ⟨vs, pl, pd, hr⟩ := hl
  have hr : rest.length < 16777216 := by rw [List.length_cons] at hr; omega
  obtain ⟨v, r, rfl, hv, pr⟩ := paired_tail pd
  rw [hrd] at hv
  obtain ⟨t, b, rfl, h0, hb⟩ := hv
  have hrl : r.length = rest.length := pr.length.symm
  refine codeAny_call_def (by have := rm.d; omega) (hfix _ hf) rfl ok.nolim (hco.rec_ (hfix _ hc)) rfl (.of_eq (binds := []) rfl) (show ∀ x ∈ (scp nvD).names, x.2 ≠ .cell by decide +kernel) (fun x hx => nomatch hx) (fun h₀ hn hk => ?_) rfl rfl rfl
  have k₁ : Step k.G false [k.lv] s { s with heap := h₀, toks := s.toks + ([] : List (Str × Value)).length } := Step.heap hk
  have ok₁ := k₁.ok ok
  refine wpAny_execs_cons (wpAny_Return_some ?_)
  refine meth1 ok₁ (fun Q E q => wpAny_Name (wpAny_loadName_free rfl rfl rfl ⟨_, hk _ _ (hfix _ hs), hso⟩ q) (by decide)) (hen.keeps fun b o e => hk _ _ (hB _ _ e)) hC h1 h2 F (fun _ _ _ _ _ _ _ _ _ => rfl) rfl rfl rfl ?_
  refine pop0 (lv := k.lv) (r := r) rfl rfl (fun Q E q => ?_) ⟨pl.choose, hk _ _ pl.choose_spec⟩ K.lv.2.1 (by omega) fun s' st pl' => ?_
  · exact wpAny_Name (wpAny_loadName_free rfl rfl rfl ⟨_, hk _ _ (hfix _ hx), hxo⟩ q) (by decide)
  · have ok' := st.ok ok₁
    have hp : AllP [aEng C sg big, aInt b] [.ref x, .int b t] (view k.G.T s'.heap) := ⟨⟨x, rfl, hen.keeps fun b o e => view_get (st.keep _ _ (fun z => (K.hid b o e).1 (by rw [List.mem_singleton.mp z]; exact K.lv.1)) (hk _ _ (hB _ _ e))) fun z => (K.hid b o e).1 (K.tabs b z)⟩, ⟨t, rfl⟩, trivial⟩
    refine ⟨ok', wpAny_call (h64 _ b hb _ k.G.T s' [.ref x, .int b t] (Rm.deeper (rm.less (by omega))) ok' ⟨fun t h => h, fun a h => Sat.T_ex ok' h⟩ hp _ fun v s₃ k₃ p₃ => ?_)⟩
    obtain ⟨t', rfl⟩ := p₃
    have hy : ((y.toNat : Nat) : Int) = y := by omega
    rw [hy]
    refine h _ s₃ ((k₁.trans st).trans (k₃.more fun a m => nomatch m)) ⟨t', rfl⟩ ⟨r, ?_, pr, hr⟩
    obtain ⟨n, e⟩ := pl'
    exact ⟨n, k₃.keep _ _ (fun m => nomatch m) e⟩
end
section
def wbd (s : Stmt) : List Stmt := match s with | .While _ b .. => b | _ => []
def wts (s : Stmt) : Expr := match s with | .While t .. => t | _ => .Name "" default
theorem and_small {x y : Int} (hy : 0 ≤ y) (h : y < 2 ^ 64) : (Builtin.bitAnd x y).natAbs < 2 ^ 64 := by
  have := bitAnd_range x hy
  omega
section
variable {k : Gc} {σ τ τ' : List (Str × AV)} {rest rest' : List Int} {s : Shared}
theorem GSat.weaken (S : GSat k σ rest s) (h : ∀ p ∈ τ, p ∈ σ) : GSat k τ rest s :=
  ⟨S.ok, S.base, let ⟨m, n, q⟩ := S.loc; ⟨m, n, fun x P hx => q x P (h _ hx)⟩, S.lst, S.named, S.live, S.fix⟩
theorem GS.weaken {l : List Stmt} {ys : List Int} (a : GS k σ rest l ys τ rest') (h : ∀ p ∈ τ', p ∈ τ) : GS k σ rest l ys τ' rest' :=
  fun A code fs Kn H gd lv m s₀ s pre post rm h1 h2 h3 h4 h5 S st q => a A code fs Kn H gd lv m s₀ s pre post rm h1 h2 h3 h4 h5 S st fun s₀' s' S' k' => q s₀' s' (S'.weaken h) k'
theorem GNx.weaken {st : Stmt} (a : GNx k σ rest st τ rest') (h : ∀ p ∈ τ', p ∈ τ) : GNx k σ rest st τ' rest' :=
  fun A s rm S Q E q => a A s rm S Q E fun s' k' S' => q s' k' (S'.weaken h)
theorem gs_app {l : List Stmt} {ys : List Int} (a : GS k σ rest l ys τ rest') : GS k σ rest l ys τ rest' := a
end
def last3 : List Int → List Int
  | _ :: _ :: _ :: r => last3 r
  | l => l
def last4 : List Int → List Int
  | _ :: _ :: _ :: _ :: r => last4 r
  | l => l
theorem last3_mem : ∀ (l : List Int) x, x ∈ last3 l → x ∈ l
  | _ :: _ :: _ :: r, x, h => .tail _ (.tail _ (.tail _ (last3_mem r x h)))
  | [], _, h | [_], _, h | [_, _], _, h => h
theorem last4_mem : ∀ (l : List Int) x, x ∈ last4 l → x ∈ l
  | _ :: _ :: _ :: _ :: r, x, h => .tail _ (.tail _ (.tail _ (.tail _ (last4_mem r x h))))
  | [], _, h | [_], _, h | [_, _], _, h | [_, _, _], _, h => h
theorem last3_len : ∀ (l : List Int), (last3 l).length = l.length % 3
  | _ :: _ :: _ :: r => by rw [last3, last3_len r]; simp only [List.length_cons]; omega
  | [] | [_] | [_, _] => rfl
theorem last4_len : ∀ (l : List Int), (last4 l).length = l.length % 4
  | _ :: _ :: _ :: _ :: r => by rw [last4, last4_len r]; simp only [List.length_cons]; omega
  | [] | [_] | [_, _] | [_, _, _] => rfl

abbrev gcEL (G : Gl) (L lv : Addr) (B : Heap) (Xg : List Addr) (rd : Int → Value → Prop) (items : List Int) (nc : Nat) (fix : List (Addr × Obj)) (Fr : List Addr) : Gc := ⟨G, callEnv fdEL L 98, lv, B, Xg, rd, items, nc, fix, Fr⟩
def sixEL (a b c : Int) : List Int := [(Builtin.bitAnd a (63 : Int)), (Builtin.bitOr ((Builtin.bitAnd b (15 : Int)) * 2 ^ ((2 : Int) : Int).toNat) (a.fdiv (2 ^ ((6 : Int) : Int).toNat))), (Builtin.bitOr ((Builtin.bitAnd c (3 : Int)) * 2 ^ ((4 : Int) : Int).toNat) (b.fdiv (2 ^ ((4 : Int) : Int).toNat))), (c.fdiv (2 ^ ((2 : Int) : Int).toNat))]
set_option maxHeartbeats 2000000 in
theorem turnEL {G : Gl} {L lv f : Addr} {B : Heap} {Xg : List Addr} {rd : Int → Value → Prop} {items : List Int} {nc : Nat} {fix : List (Addr × Obj)} {Fr : List Addr} (K : (gcEL G L lv B Xg rd items nc fix Fr).Ok) (N : NextV (gcEL G L lv B Xg rd items nc fix Fr) f) (hkp : ∃ fd, (f, ({ cls := .type "function", data := .func fd } : Obj)) ∈ fix) {a b c i n t : Int} {r : List Int} (ha : 0 ≤ a ∧ a < 256) (hb : 0 ≤ b ∧ b < 256) (hc : 0 ≤ c ∧ c < 256) : GS (gcEL G L lv B Xg rd items nc fix Fr) [("next_value", aVal (.ref f)), ("chunks", aInt n), ("tail", aInt t), ("idx", aInt i)] (a :: b :: c :: r) (wbd (nth (bd (nth clsBody 10)) 1)) (sixEL a b c) [("next_value", aVal (.ref f)), ("chunks", aInt n), ("tail", aInt t), ("idx", aInt (i + 1))] r :=
  GS.weaken (GS.cons (τ := [("next_value", aVal (.ref f)), ("chunks", aInt n), ("tail", aInt t), ("idx", aInt i), ("v1", aInt a)]) (GNx.draw K (.head _) N hkp rfl (by rfl) (by rfl) (by decide) rfl) (GS.cons (τ := [("next_value", aVal (.ref f)), ("chunks", aInt n), ("tail", aInt t), ("idx", aInt i), ("v1", aInt a), ("v2", aInt b)]) (GNx.draw K (.head _) N hkp rfl (by rfl) (by rfl) (by decide) rfl) (GS.cons (τ := [("next_value", aVal (.ref f)), ("chunks", aInt n), ("tail", aInt t), ("idx", aInt i), ("v1", aInt a), ("v2", aInt b), ("v3", aInt c)]) (GNx.draw K (.head _) N hkp rfl (by rfl) (by rfl) (by decide) rfl) (GS.yield K (fun A rm => (Ev.bin (Ev.loc (.tail _ (.tail _ (.tail _ (.tail _ (.head _))))) (by rfl) rfl (by decide)) Ev.intC Op2.and)) (GS.yield K (fun A rm => (Ev.bin (Ev.bin (Ev.bin (Ev.loc (.tail _ (.tail _ (.tail _ (.tail _ (.tail _ (.head _)))))) (by rfl) rfl (by decide)) Ev.intC Op2.and) Ev.intC (Op2.shl (by decide) (by decide) (and_small (by decide) (by decide)))) (Ev.bin (Ev.loc (.tail _ (.tail _ (.tail _ (.tail _ (.head _))))) (by rfl) rfl (by decide)) Ev.intC (Op2.shr (by decide))) Op2.or)) (GS.yield K (fun A rm => (Ev.bin (Ev.bin (Ev.bin (Ev.loc (.tail _ (.tail _ (.tail _ (.tail _ (.tail _ (.tail _ (.head _))))))) (by rfl) rfl (by decide)) Ev.intC Op2.and) Ev.intC (Op2.shl (by decide) (by decide) (and_small (by decide) (by decide)))) (Ev.bin (Ev.loc (.tail _ (.tail _ (.tail _ (.tail _ (.tail _ (.head _)))))) (by rfl) rfl (by decide)) Ev.intC (Op2.shr (by decide))) Op2.or)) (GS.yield K (fun A rm => (Ev.bin (Ev.loc (.tail _ (.tail _ (.tail _ (.tail _ (.tail _ (.tail _ (.head _))))))) (by rfl) rfl (by decide)) Ev.intC (Op2.shr (by decide)))) (GS.cons (τ := [("next_value", aVal (.ref f)), ("chunks", aInt n), ("tail", aInt t), ("idx", aInt (i + 1)), ("v1", aInt a), ("v2", aInt b), ("v3", aInt c)]) (GNx.incr K (.tail _ (.tail _ (.tail _ (.head _)))) (fun A rm => Ev.intC) rfl (by rfl)) GS.nil) rfl rfl) rfl rfl) rfl rfl) rfl rfl)))) (fun p h => by
    match p, h with
    | _, .head _ => exact .head _
    | _, .tail _ (.head _) => exact .tail _ (.head _)
    | _, .tail _ (.tail _ (.head _)) => exact .tail _ (.tail _ (.head _))
    | _, .tail _ (.tail _ (.tail _ (.head _))) => exact .tail _ (.tail _ (.tail _ (.head _))))
def bodyEL : List Int → List Int
  | a :: b :: c :: r => sixEL a b c ++ bodyEL r
  | _ => []
set_option maxHeartbeats 2000000 in
theorem loopEL {G : Gl} {L lv f : Addr} {B : Heap} {Xg : List Addr} {rd : Int → Value → Prop} {items : List Int} {nc : Nat} {fix : List (Addr × Obj)} {Fr : List Addr} (K : (gcEL G L lv B Xg rd items nc fix Fr).Ok) (N : NextV (gcEL G L lv B Xg rd items nc fix Fr) f) (hkp : ∃ fd, (f, ({ cls := .type "function", data := .func fd } : Obj)) ∈ fix) {n t : Int} : ∀ (l : List Int) (i : Int), n = i + (l.length / 3 : Nat) → (∀ x ∈ l, 0 ≤ x ∧ x < 256) → GW (gcEL G L lv B Xg rd items nc fix Fr) (wts (nth (bd (nth clsBody 10)) 1)) (wbd (nth (bd (nth clsBody 10)) 1)) [("next_value", aVal (.ref f)), ("chunks", aInt n), ("tail", aInt t), ("idx", aInt i)] l (bodyEL l) [("next_value", aVal (.ref f)), ("chunks", aInt n), ("tail", aInt t), ("idx", aInt n)] (last3 l)
  | [], i, hn, _ => by
    have hi : n = i := by simpa using hn
    subst hi
    exact GW.done (fun A rm => Tr.cmp (Ev.loc (.tail _ (.tail _ (.tail _ (.head _)))) (by rfl) rfl (by decide)) (Ev.loc (.tail _ (.head _)) (by rfl) rfl (by decide)) (Op2.lt (by simp)))
  | [a], i, hn, _ => by
    have hi : n = i := by simpa using hn
    subst hi
    exact GW.done (fun A rm => Tr.cmp (Ev.loc (.tail _ (.tail _ (.tail _ (.head _)))) (by rfl) rfl (by decide)) (Ev.loc (.tail _ (.head _)) (by rfl) rfl (by decide)) (Op2.lt (by simp)))
  | [a, b], i, hn, _ => by
    have hi : n = i := by simpa using hn
    subst hi
    exact GW.done (fun A rm => Tr.cmp (Ev.loc (.tail _ (.tail _ (.tail _ (.head _)))) (by rfl) rfl (by decide)) (Ev.loc (.tail _ (.head _)) (by rfl) rfl (by decide)) (Op2.lt (by simp)))
  | a :: b :: c :: r, i, hn, hb => by
    have hl : (a :: b :: c :: r).length = r.length + 3 := rfl
    rw [hl] at hn
    have hlt : i < n := by omega
    exact GW.turn (fun A rm => Tr.cmp (Ev.loc (.tail _ (.tail _ (.tail _ (.head _)))) (by rfl) rfl (by decide)) (Ev.loc (.tail _ (.head _)) (by rfl) rfl (by decide)) (Op2.lt (by simp [hlt]))) (turnEL K N hkp (hb _ (.head _)) (hb _ (.tail _ (.head _))) (hb _ (.tail _ (.tail _ (.head _))))) (loopEL K N hkp r (i + 1) (by omega) fun x h => hb x (.tail _ (.tail _ (.tail _ h))))
set_option maxHeartbeats 2000000 in
theorem endEL0 {G : Gl} {L lv f : Addr} {B : Heap} {Xg : List Addr} {rd : Int → Value → Prop} {items : List Int} {nc : Nat} {fix : List (Addr × Obj)} {Fr : List Addr} (K : (gcEL G L lv B Xg rd items nc fix Fr).Ok) (N : NextV (gcEL G L lv B Xg rd items nc fix Fr) f) (hkp : ∃ fd, (f, ({ cls := .type "function", data := .func fd } : Obj)) ∈ fix) { n : Int}  : ∃ τ, GS (gcEL G L lv B Xg rd items nc fix Fr) [("next_value", aVal (.ref f)), ("chunks", aInt n), ("tail", aInt 0), ("idx", aInt n)] [] [nth (bd (nth clsBody 10)) 2] [] τ [] :=
  ⟨_, gs_app (GS.if_f K (fun A rm => Tr.val (Ev.loc (.tail _ (.tail _ (.head _))) (by rfl) rfl (by decide)) (TrV.int (by decide))) GS.nil GS.nil)⟩
set_option maxHeartbeats 2000000 in
theorem endEL1 {G : Gl} {L lv f : Addr} {B : Heap} {Xg : List Addr} {rd : Int → Value → Prop} {items : List Int} {nc : Nat} {fix : List (Addr × Obj)} {Fr : List Addr} (K : (gcEL G L lv B Xg rd items nc fix Fr).Ok) (N : NextV (gcEL G L lv B Xg rd items nc fix Fr) f) (hkp : ∃ fd, (f, ({ cls := .type "function", data := .func fd } : Obj)) ∈ fix) {a n : Int} (ha : 0 ≤ a ∧ a < 256) : ∃ τ, GS (gcEL G L lv B Xg rd items nc fix Fr) [("next_value", aVal (.ref f)), ("chunks", aInt n), ("tail", aInt 1), ("idx", aInt n)] [a] [nth (bd (nth clsBody 10)) 2] [(Builtin.bitAnd a (63 : Int)), (a.fdiv (2 ^ ((6 : Int) : Int).toNat))] τ [] :=
  ⟨_, gs_app (GS.if_t K (fun A rm => Tr.val (Ev.loc (.tail _ (.tail _ (.head _))) (by rfl) rfl (by decide)) (TrV.int (by decide))) (GS.cons (τ := [("next_value", aVal (.ref f)), ("chunks", aInt n), ("tail", aInt 1), ("idx", aInt n), ("v1", aInt a)]) (GNx.draw K (.head _) N hkp rfl (by rfl) (by rfl) (by decide) rfl) (GS.if_t K (fun A rm => Tr.cmp (Ev.loc (.tail _ (.tail _ (.head _))) (by rfl) rfl (by decide)) Ev.intC (Op2.eq (by decide))) (GS.yield K (fun A rm => (Ev.bin (Ev.loc (.tail _ (.tail _ (.tail _ (.tail _ (.head _))))) (by rfl) rfl (by decide)) Ev.intC Op2.and)) (GS.yield K (fun A rm => (Ev.bin (Ev.loc (.tail _ (.tail _ (.tail _ (.tail _ (.head _))))) (by rfl) rfl (by decide)) Ev.intC (Op2.shr (by decide)))) GS.nil rfl rfl) rfl rfl) GS.nil)) GS.nil)⟩
set_option maxHeartbeats 2000000 in
theorem endEL2 {G : Gl} {L lv f : Addr} {B : Heap} {Xg : List Addr} {rd : Int → Value → Prop} {items : List Int} {nc : Nat} {fix : List (Addr × Obj)} {Fr : List Addr} (K : (gcEL G L lv B Xg rd items nc fix Fr).Ok) (N : NextV (gcEL G L lv B Xg rd items nc fix Fr) f) (hkp : ∃ fd, (f, ({ cls := .type "function", data := .func fd } : Obj)) ∈ fix) {a b n : Int} (ha : 0 ≤ a ∧ a < 256) (hb : 0 ≤ b ∧ b < 256) : ∃ τ, GS (gcEL G L lv B Xg rd items nc fix Fr) [("next_value", aVal (.ref f)), ("chunks", aInt n), ("tail", aInt 2), ("idx", aInt n)] [a, b] [nth (bd (nth clsBody 10)) 2] [(Builtin.bitAnd a (63 : Int)), (Builtin.bitOr ((Builtin.bitAnd b (15 : Int)) * 2 ^ ((2 : Int) : Int).toNat) (a.fdiv (2 ^ ((6 : Int) : Int).toNat))), (b.fdiv (2 ^ ((4 : Int) : Int).toNat))] τ [] :=
  ⟨_, gs_app (GS.if_t K (fun A rm => Tr.val (Ev.loc (.tail _ (.tail _ (.head _))) (by rfl) rfl (by decide)) (TrV.int (by decide))) (GS.cons (τ := [("next_value", aVal (.ref f)), ("chunks", aInt n), ("tail", aInt 2), ("idx", aInt n), ("v1", aInt a)]) (GNx.draw K (.head _) N hkp rfl (by rfl) (by rfl) (by decide) rfl) (GS.if_f K (fun A rm => Tr.cmp (Ev.loc (.tail _ (.tail _ (.head _))) (by rfl) rfl (by decide)) Ev.intC (Op2.eq (by decide))) (GS.cons (GNx.assert_t K fun A rm => Tr.cmp (Ev.loc (.tail _ (.tail _ (.head _))) (by rfl) rfl (by decide)) Ev.intC (Op2.eq (by decide))) (GS.cons (τ := [("next_value", aVal (.ref f)), ("chunks", aInt n), ("tail", aInt 2), ("idx", aInt n), ("v1", aInt a), ("v2", aInt b)]) (GNx.draw K (.head _) N hkp rfl (by rfl) (by rfl) (by decide) rfl) (GS.yield K (fun A rm => (Ev.bin (Ev.loc (.tail _ (.tail _ (.tail _ (.tail _ (.head _))))) (by rfl) rfl (by decide)) Ev.intC Op2.and)) (GS.yield K (fun A rm => (Ev.bin (Ev.bin (Ev.bin (Ev.loc (.tail _ (.tail _ (.tail _ (.tail _ (.tail _ (.head _)))))) (by rfl) rfl (by decide)) Ev.intC Op2.and) Ev.intC (Op2.shl (by decide) (by decide) (and_small (by decide) (by decide)))) (Ev.bin (Ev.loc (.tail _ (.tail _ (.tail _ (.tail _ (.head _))))) (by rfl) rfl (by decide)) Ev.intC (Op2.shr (by decide))) Op2.or)) (GS.yield K (fun A rm => (Ev.bin (Ev.loc (.tail _ (.tail _ (.tail _ (.tail _ (.tail _ (.head _)))))) (by rfl) rfl (by decide)) Ev.intC (Op2.shr (by decide)))) GS.nil rfl rfl) rfl rfl) rfl rfl))) GS.nil)) GS.nil)⟩
def tailEL : List Int → List Int
  | [a] => [(Builtin.bitAnd a (63 : Int)), (a.fdiv (2 ^ ((6 : Int) : Int).toNat))]
  | [a, b] => [(Builtin.bitAnd a (63 : Int)), (Builtin.bitOr ((Builtin.bitAnd b (15 : Int)) * 2 ^ ((2 : Int) : Int).toNat) (a.fdiv (2 ^ ((6 : Int) : Int).toNat))), (b.fdiv (2 ^ ((4 : Int) : Int).toNat))]
  | _ => []
set_option maxHeartbeats 2000000 in
theorem wholeEL {G : Gl} {σs : AV} {L lv f : Addr} {B : Heap} {Xg : List Addr} {rd : Int → Value → Prop} {items : List Int} {nc : Nat} {fix : List (Addr × Obj)} {Fr : List Addr} (K : (gcEL G L lv B Xg rd items nc fix Fr).Ok) (N : NextV (gcEL G L lv B Xg rd items nc fix Fr) f) (hkp : ∃ fd, (f, ({ cls := .type "function", data := .func fd } : Obj)) ∈ fix) (l : List Int) (hb : ∀ x ∈ l, 0 ≤ x ∧ x < 256) : ∃ τ r, GS (gcEL G L lv B Xg rd items nc fix Fr) [("self", σs), ("next_value", aVal (.ref f)), ("chunks", aInt (l.length / 3 : Nat)), ("tail", aInt (l.length % 3 : Nat))] l (bd (nth clsBody 10)) (bodyEL l ++ tailEL (last3 l)) τ r := by
  have hlast := last3_mem l
  have hlen := last3_len l
  have hw : GW (gcEL G L lv B Xg rd items nc fix Fr) (wts (nth (bd (nth clsBody 10)) 1)) (wbd (nth (bd (nth clsBody 10)) 1)) [("next_value", aVal (.ref f)), ("chunks", aInt (l.length / 3 : Nat)), ("tail", aInt (l.length % 3 : Nat)), ("idx", aInt 0)] l (bodyEL l) _ (last3 l) := loopEL K N hkp l 0 (by omega) hb
  have hs : ∀ {τ r}, GS (gcEL G L lv B Xg rd items nc fix Fr) [("next_value", aVal (.ref f)), ("chunks", aInt (l.length / 3 : Nat)), ("tail", aInt (l.length % 3 : Nat)), ("idx", aInt (l.length / 3 : Nat))] (last3 l) [nth (bd (nth clsBody 10)) 2] (tailEL (last3 l)) τ r → ∃ τ r, GS (gcEL G L lv B Xg rd items nc fix Fr) [("self", σs), ("next_value", aVal (.ref f)), ("chunks", aInt (l.length / 3 : Nat)), ("tail", aInt (l.length % 3 : Nat))] l (bd (nth clsBody 10)) (bodyEL l ++ tailEL (last3 l)) τ r := fun h =>
    ⟨_, _, GS.cons (GNx.weaken (GNx.assign (x := "idx") (i := 0) K (fun A rm => Ev.intC) rfl (by rfl) rfl) (fun p h => .tail _ h)) (GS.while K hw h)⟩
  have hle : (l.length % 3 : Nat) = (last3 l).length := hlen.symm
  rw [hle] at hs
  match hq : last3 l with
  | [] =>
    rw [hq] at hs hlast hle
    rw [hle]
    obtain ⟨τ, h⟩ := endEL0 K N hkp (n := (l.length / 3 : Nat)) 
    exact hs h
  | [a] =>
    rw [hq] at hs hlast hle
    rw [hle]
    obtain ⟨τ, h⟩ := endEL1 K N hkp (n := (l.length / 3 : Nat)) (hb _ (hlast _ (.head _)))
    exact hs h
  | [a, b] =>
    rw [hq] at hs hlast hle
    rw [hle]
    obtain ⟨τ, h⟩ := endEL2 K N hkp (n := (l.length / 3 : Nat)) (hb _ (hlast _ (.head _))) (hb _ (hlast _ (.tail _ (.head _))))
    exact hs h
  | a :: b :: c :: r => rw [hq] at hlen; simp at hlen; omega
abbrev gcEB (G : Gl) (L lv : Addr) (B : Heap) (Xg : List Addr) (rd : Int → Value → Prop) (items : List Int) (nc : Nat) (fix : List (Addr × Obj)) (Fr : List Addr) : Gc := ⟨G, callEnv fdEB L 105, lv, B, Xg, rd, items, nc, fix, Fr⟩
def sixEB (a b c : Int) : List Int := [(a.fdiv (2 ^ ((2 : Int) : Int).toNat)), (Builtin.bitOr ((Builtin.bitAnd a (3 : Int)) * 2 ^ ((4 : Int) : Int).toNat) (b.fdiv (2 ^ ((4 : Int) : Int).toNat))), (Builtin.bitOr ((Builtin.bitAnd b (15 : Int)) * 2 ^ ((2 : Int) : Int).toNat) (c.fdiv (2 ^ ((6 : Int) : Int).toNat))), (Builtin.bitAnd c (63 : Int))]
set_option maxHeartbeats 2000000 in
theorem turnEB {G : Gl} {L lv f : Addr} {B : Heap} {Xg : List Addr} {rd : Int → Value → Prop} {items : List Int} {nc : Nat} {fix : List (Addr × Obj)} {Fr : List Addr} (K : (gcEB G L lv B Xg rd items nc fix Fr).Ok) (N : NextV (gcEB G L lv B Xg rd items nc fix Fr) f) (hkp : ∃ fd, (f, ({ cls := .type "function", data := .func fd } : Obj)) ∈ fix) {a b c i n t : Int} {r : List Int} (ha : 0 ≤ a ∧ a < 256) (hb : 0 ≤ b ∧ b < 256) (hc : 0 ≤ c ∧ c < 256) : GS (gcEB G L lv B Xg rd items nc fix Fr) [("next_value", aVal (.ref f)), ("chunks", aInt n), ("tail", aInt t), ("idx", aInt i)] (a :: b :: c :: r) (wbd (nth (bd (nth clsBody 11)) 1)) (sixEB a b c) [("next_value", aVal (.ref f)), ("chunks", aInt n), ("tail", aInt t), ("idx", aInt (i + 1))] r :=
  GS.weaken (GS.cons (τ := [("next_value", aVal (.ref f)), ("chunks", aInt n), ("tail", aInt t), ("idx", aInt i), ("v1", aInt a)]) (GNx.draw K (.head _) N hkp rfl (by rfl) (by rfl) (by decide) rfl) (GS.cons (τ := [("next_value", aVal (.ref f)), ("chunks", aInt n), ("tail", aInt t), ("idx", aInt i), ("v1", aInt a), ("v2", aInt b)]) (GNx.draw K (.head _) N hkp rfl (by rfl) (by rfl) (by decide) rfl) (GS.cons (τ := [("next_value", aVal (.ref f)), ("chunks", aInt n), ("tail", aInt t), ("idx", aInt i), ("v1", aInt a), ("v2", aInt b), ("v3", aInt c)]) (GNx.draw K (.head _) N hkp rfl (by rfl) (by rfl) (by decide) rfl) (GS.yield K (fun A rm => (Ev.bin (Ev.loc (.tail _ (.tail _ (.tail _ (.tail _ (.head _))))) (by rfl) rfl (by decide)) Ev.intC (Op2.shr (by decide)))) (GS.yield K (fun A rm => (Ev.bin (Ev.bin (Ev.bin (Ev.loc (.tail _ (.tail _ (.tail _ (.tail _ (.head _))))) (by rfl) rfl (by decide)) Ev.intC Op2.and) Ev.intC (Op2.shl (by decide) (by decide) (and_small (by decide) (by decide)))) (Ev.bin (Ev.loc (.tail _ (.tail _ (.tail _ (.tail _ (.tail _ (.head _)))))) (by rfl) rfl (by decide)) Ev.intC (Op2.shr (by decide))) Op2.or)) (GS.yield K (fun A rm => (Ev.bin (Ev.bin (Ev.bin (Ev.loc (.tail _ (.tail _ (.tail _ (.tail _ (.tail _ (.head _)))))) (by rfl) rfl (by decide)) Ev.intC Op2.and) Ev.intC (Op2.shl (by decide) (by decide) (and_small (by decide) (by decide)))) (Ev.bin (Ev.loc (.tail _ (.tail _ (.tail _ (.tail _ (.tail _ (.tail _ (.head _))))))) (by rfl) rfl (by decide)) Ev.intC (Op2.shr (by decide))) Op2.or)) (GS.yield K (fun A rm => (Ev.bin (Ev.loc (.tail _ (.tail _ (.tail _ (.tail _ (.tail _ (.tail _ (.head _))))))) (by rfl) rfl (by decide)) Ev.intC Op2.and)) (GS.cons (τ := [("next_value", aVal (.ref f)), ("chunks", aInt n), ("tail", aInt t), ("idx", aInt (i + 1)), ("v1", aInt a), ("v2", aInt b), ("v3", aInt c)]) (GNx.incr K (.tail _ (.tail _ (.tail _ (.head _)))) (fun A rm => Ev.intC) rfl (by rfl)) GS.nil) rfl rfl) rfl rfl) rfl rfl) rfl rfl)))) (fun p h => by
    match p, h with
    | _, .head _ => exact .head _
    | _, .tail _ (.head _) => exact .tail _ (.head _)
    | _, .tail _ (.tail _ (.head _)) => exact .tail _ (.tail _ (.head _))
    | _, .tail _ (.tail _ (.tail _ (.head _))) => exact .tail _ (.tail _ (.tail _ (.head _))))
def bodyEB : List Int → List Int
  | a :: b :: c :: r => sixEB a b c ++ bodyEB r
  | _ => []
set_option maxHeartbeats 2000000 in
theorem loopEB {G : Gl} {L lv f : Addr} {B : Heap} {Xg : List Addr} {rd : Int → Value → Prop} {items : List Int} {nc : Nat} {fix : List (Addr × Obj)} {Fr : List Addr} (K : (gcEB G L lv B Xg rd items nc fix Fr).Ok) (N : NextV (gcEB G L lv B Xg rd items nc fix Fr) f) (hkp : ∃ fd, (f, ({ cls := .type "function", data := .func fd } : Obj)) ∈ fix) {n t : Int} : ∀ (l : List Int) (i : Int), n = i + (l.length / 3 : Nat) → (∀ x ∈ l, 0 ≤ x ∧ x < 256) → GW (gcEB G L lv B Xg rd items nc fix Fr) (wts (nth (bd (nth clsBody 11)) 1)) (wbd (nth (bd (nth clsBody 11)) 1)) [("next_value", aVal (.ref f)), ("chunks", aInt n), ("tail", aInt t), ("idx", aInt i)] l (bodyEB l) [("next_value", aVal (.ref f)), ("chunks", aInt n), ("tail", aInt t), ("idx", aInt n)] (last3 l)
  | [], i, hn, _ => by
    have hi : n = i := by simpa using hn
    subst hi
    exact GW.done (fun A rm => Tr.cmp (Ev.loc (.tail _ (.tail _ (.tail _ (.head _)))) (by rfl) rfl (by decide)) (Ev.loc (.tail _ (.head _)) (by rfl) rfl (by decide)) (Op2.lt (by simp)))
  | [a], i, hn, _ => by
    have hi : n = i := by simpa using hn
    subst hi
    exact GW.done (fun A rm => Tr.cmp (Ev.loc (.tail _ (.tail _ (.tail _ (.head _)))) (by rfl) rfl (by decide)) (Ev.loc (.tail _ (.head _)) (by rfl) rfl (by decide)) (Op2.lt (by simp)))
  | [a, b], i, hn, _ => by
    have hi : n = i := by simpa using hn
    subst hi
    exact GW.done (fun A rm => Tr.cmp (Ev.loc (.tail _ (.tail _ (.tail _ (.head _)))) (by rfl) rfl (by decide)) (Ev.loc (.tail _ (.head _)) (by rfl) rfl (by decide)) (Op2.lt (by simp)))
  | a :: b :: c :: r, i, hn, hb => by
    have hl : (a :: b :: c :: r).length = r.length + 3 := rfl
    rw [hl] at hn
    have hlt : i < n := by omega
    exact GW.turn (fun A rm => Tr.cmp (Ev.loc (.tail _ (.tail _ (.tail _ (.head _)))) (by rfl) rfl (by decide)) (Ev.loc (.tail _ (.head _)) (by rfl) rfl (by decide)) (Op2.lt (by simp [hlt]))) (turnEB K N hkp (hb _ (.head _)) (hb _ (.tail _ (.head _))) (hb _ (.tail _ (.tail _ (.head _))))) (loopEB K N hkp r (i + 1) (by omega) fun x h => hb x (.tail _ (.tail _ (.tail _ h))))
set_option maxHeartbeats 2000000 in
theorem endEB0 {G : Gl} {L lv f : Addr} {B : Heap} {Xg : List Addr} {rd : Int → Value → Prop} {items : List Int} {nc : Nat} {fix : List (Addr × Obj)} {Fr : List Addr} (K : (gcEB G L lv B Xg rd items nc fix Fr).Ok) (N : NextV (gcEB G L lv B Xg rd items nc fix Fr) f) (hkp : ∃ fd, (f, ({ cls := .type "function", data := .func fd } : Obj)) ∈ fix) { n : Int}  : ∃ τ, GS (gcEB G L lv B Xg rd items nc fix Fr) [("next_value", aVal (.ref f)), ("chunks", aInt n), ("tail", aInt 0), ("idx", aInt n)] [] [nth (bd (nth clsBody 11)) 2] [] τ [] :=
  ⟨_, gs_app (GS.if_f K (fun A rm => Tr.val (Ev.loc (.tail _ (.tail _ (.head _))) (by rfl) rfl (by decide)) (TrV.int (by decide))) GS.nil GS.nil)⟩
set_option maxHeartbeats 2000000 in
theorem endEB1 {G : Gl} {L lv f : Addr} {B : Heap} {Xg : List Addr} {rd : Int → Value → Prop} {items : List Int} {nc : Nat} {fix : List (Addr × Obj)} {Fr : List Addr} (K : (gcEB G L lv B Xg rd items nc fix Fr).Ok) (N : NextV (gcEB G L lv B Xg rd items nc fix Fr) f) (hkp : ∃ fd, (f, ({ cls := .type "function", data := .func fd } : Obj)) ∈ fix) {a n : Int} (ha : 0 ≤ a ∧ a < 256) : ∃ τ, GS (gcEB G L lv B Xg rd items nc fix Fr) [("next_value", aVal (.ref f)), ("chunks", aInt n), ("tail", aInt 1), ("idx", aInt n)] [a] [nth (bd (nth clsBody 11)) 2] [(a.fdiv (2 ^ ((2 : Int) : Int).toNat)), ((Builtin.bitAnd a (3 : Int)) * 2 ^ ((4 : Int) : Int).toNat)] τ [] :=
  ⟨_, gs_app (GS.if_t K (fun A rm => Tr.val (Ev.loc (.tail _ (.tail _ (.head _))) (by rfl) rfl (by decide)) (TrV.int (by decide))) (GS.cons (τ := [("next_value", aVal (.ref f)), ("chunks", aInt n), ("tail", aInt 1), ("idx", aInt n), ("v1", aInt a)]) (GNx.draw K (.head _) N hkp rfl (by rfl) (by rfl) (by decide) rfl) (GS.if_t K (fun A rm => Tr.cmp (Ev.loc (.tail _ (.tail _ (.head _))) (by rfl) rfl (by decide)) Ev.intC (Op2.eq (by decide))) (GS.yield K (fun A rm => (Ev.bin (Ev.loc (.tail _ (.tail _ (.tail _ (.tail _ (.head _))))) (by rfl) rfl (by decide)) Ev.intC (Op2.shr (by decide)))) (GS.yield K (fun A rm => (Ev.bin (Ev.bin (Ev.loc (.tail _ (.tail _ (.tail _ (.tail _ (.head _))))) (by rfl) rfl (by decide)) Ev.intC Op2.and) Ev.intC (Op2.shl (by decide) (by decide) (and_small (by decide) (by decide))))) GS.nil rfl rfl) rfl rfl) GS.nil)) GS.nil)⟩
set_option maxHeartbeats 2000000 in
theorem endEB2 {G : Gl} {L lv f : Addr} {B : Heap} {Xg : List Addr} {rd : Int → Value → Prop} {items : List Int} {nc : Nat} {fix : List (Addr × Obj)} {Fr : List Addr} (K : (gcEB G L lv B Xg rd items nc fix Fr).Ok) (N : NextV (gcEB G L lv B Xg rd items nc fix Fr) f) (hkp : ∃ fd, (f, ({ cls := .type "function", data := .func fd } : Obj)) ∈ fix) {a b n : Int} (ha : 0 ≤ a ∧ a < 256) (hb : 0 ≤ b ∧ b < 256) : ∃ τ, GS (gcEB G L lv B Xg rd items nc fix Fr) [("next_value", aVal (.ref f)), ("chunks", aInt n), ("tail", aInt 2), ("idx", aInt n)] [a, b] [nth (bd (nth clsBody 11)) 2] [(a.fdiv (2 ^ ((2 : Int) : Int).toNat)), (Builtin.bitOr ((Builtin.bitAnd a (3 : Int)) * 2 ^ ((4 : Int) : Int).toNat) (b.fdiv (2 ^ ((4 : Int) : Int).toNat))), ((Builtin.bitAnd b (15 : Int)) * 2 ^ ((2 : Int) : Int).toNat)] τ [] :=
  ⟨_, gs_app (GS.if_t K (fun A rm => Tr.val (Ev.loc (.tail _ (.tail _ (.head _))) (by rfl) rfl (by decide)) (TrV.int (by decide))) (GS.cons (τ := [("next_value", aVal (.ref f)), ("chunks", aInt n), ("tail", aInt 2), ("idx", aInt n), ("v1", aInt a)]) (GNx.draw K (.head _) N hkp rfl (by rfl) (by rfl) (by decide) rfl) (GS.if_f K (fun A rm => Tr.cmp (Ev.loc (.tail _ (.tail _ (.head _))) (by rfl) rfl (by decide)) Ev.intC (Op2.eq (by decide))) (GS.cons (GNx.assert_t K fun A rm => Tr.cmp (Ev.loc (.tail _ (.tail _ (.head _))) (by rfl) rfl (by decide)) Ev.intC (Op2.eq (by decide))) (GS.cons (τ := [("next_value", aVal (.ref f)), ("chunks", aInt n), ("tail", aInt 2), ("idx", aInt n), ("v1", aInt a), ("v2", aInt b)]) (GNx.draw K (.head _) N hkp rfl (by rfl) (by rfl) (by decide) rfl) (GS.yield K (fun A rm => (Ev.bin (Ev.loc (.tail _ (.tail _ (.tail _ (.tail _ (.head _))))) (by rfl) rfl (by decide)) Ev.intC (Op2.shr (by decide)))) (GS.yield K (fun A rm => (Ev.bin (Ev.bin (Ev.bin (Ev.loc (.tail _ (.tail _ (.tail _ (.tail _ (.head _))))) (by rfl) rfl (by decide)) Ev.intC Op2.and) Ev.intC (Op2.shl (by decide) (by decide) (and_small (by decide) (by decide)))) (Ev.bin (Ev.loc (.tail _ (.tail _ (.tail _ (.tail _ (.tail _ (.head _)))))) (by rfl) rfl (by decide)) Ev.intC (Op2.shr (by decide))) Op2.or)) (GS.yield K (fun A rm => (Ev.bin (Ev.bin (Ev.loc (.tail _ (.tail _ (.tail _ (.tail _ (.tail _ (.head _)))))) (by rfl) rfl (by decide)) Ev.intC Op2.and) Ev.intC (Op2.shl (by decide) (by decide) (and_small (by decide) (by decide))))) GS.nil rfl rfl) rfl rfl) rfl rfl))) GS.nil)) GS.nil)⟩
def tailEB : List Int → List Int
  | [a] => [(a.fdiv (2 ^ ((2 : Int) : Int).toNat)), ((Builtin.bitAnd a (3 : Int)) * 2 ^ ((4 : Int) : Int).toNat)]
  | [a, b] => [(a.fdiv (2 ^ ((2 : Int) : Int).toNat)), (Builtin.bitOr ((Builtin.bitAnd a (3 : Int)) * 2 ^ ((4 : Int) : Int).toNat) (b.fdiv (2 ^ ((4 : Int) : Int).toNat))), ((Builtin.bitAnd b (15 : Int)) * 2 ^ ((2 : Int) : Int).toNat)]
  | _ => []
set_option maxHeartbeats 2000000 in
theorem wholeEB {G : Gl} {σs : AV} {L lv f : Addr} {B : Heap} {Xg : List Addr} {rd : Int → Value → Prop} {items : List Int} {nc : Nat} {fix : List (Addr × Obj)} {Fr : List Addr} (K : (gcEB G L lv B Xg rd items nc fix Fr).Ok) (N : NextV (gcEB G L lv B Xg rd items nc fix Fr) f) (hkp : ∃ fd, (f, ({ cls := .type "function", data := .func fd } : Obj)) ∈ fix) (l : List Int) (hb : ∀ x ∈ l, 0 ≤ x ∧ x < 256) : ∃ τ r, GS (gcEB G L lv B Xg rd items nc fix Fr) [("self", σs), ("next_value", aVal (.ref f)), ("chunks", aInt (l.length / 3 : Nat)), ("tail", aInt (l.length % 3 : Nat))] l (bd (nth clsBody 11)) (bodyEB l ++ tailEB (last3 l)) τ r := by
  have hlast := last3_mem l
  have hlen := last3_len l
  have hw : GW (gcEB G L lv B Xg rd items nc fix Fr) (wts (nth (bd (nth clsBody 11)) 1)) (wbd (nth (bd (nth clsBody 11)) 1)) [("next_value", aVal (.ref f)), ("chunks", aInt (l.length / 3 : Nat)), ("tail", aInt (l.length % 3 : Nat)), ("idx", aInt 0)] l (bodyEB l) _ (last3 l) := loopEB K N hkp l 0 (by omega) hb
  have hs : ∀ {τ r}, GS (gcEB G L lv B Xg rd items nc fix Fr) [("next_value", aVal (.ref f)), ("chunks", aInt (l.length / 3 : Nat)), ("tail", aInt (l.length % 3 : Nat)), ("idx", aInt (l.length / 3 : Nat))] (last3 l) [nth (bd (nth clsBody 11)) 2] (tailEB (last3 l)) τ r → ∃ τ r, GS (gcEB G L lv B Xg rd items nc fix Fr) [("self", σs), ("next_value", aVal (.ref f)), ("chunks", aInt (l.length / 3 : Nat)), ("tail", aInt (l.length % 3 : Nat))] l (bd (nth clsBody 11)) (bodyEB l ++ tailEB (last3 l)) τ r := fun h =>
    ⟨_, _, GS.cons (GNx.weaken (GNx.assign (x := "idx") (i := 0) K (fun A rm => Ev.intC) rfl (by rfl) rfl) (fun p h => .tail _ h)) (GS.while K hw h)⟩
  have hle : (l.length % 3 : Nat) = (last3 l).length := hlen.symm
  rw [hle] at hs
  match hq : last3 l with
  | [] =>
    rw [hq] at hs hlast hle
    rw [hle]
    obtain ⟨τ, h⟩ := endEB0 K N hkp (n := (l.length / 3 : Nat)) 
    exact hs h
  | [a] =>
    rw [hq] at hs hlast hle
    rw [hle]
    obtain ⟨τ, h⟩ := endEB1 K N hkp (n := (l.length / 3 : Nat)) (hb _ (hlast _ (.head _)))
    exact hs h
  | [a, b] =>
    rw [hq] at hs hlast hle
    rw [hle]
    obtain ⟨τ, h⟩ := endEB2 K N hkp (n := (l.length / 3 : Nat)) (hb _ (hlast _ (.head _))) (hb _ (hlast _ (.tail _ (.head _))))
    exact hs h
  | a :: b :: c :: r => rw [hq] at hlen; simp at hlen; omega
abbrev gcDL (G : Gl) (L lv : Addr) (B : Heap) (Xg : List Addr) (rd : Int → Value → Prop) (items : List Int) (nc : Nat) (fix : List (Addr × Obj)) (Fr : List Addr) : Gc := ⟨G, callEnv fdDL L 119, lv, B, Xg, rd, items, nc, fix, Fr⟩
def sixDL (a b c d : Int) : List Int := [(Builtin.bitOr a ((Builtin.bitAnd b (3 : Int)) * 2 ^ ((6 : Int) : Int).toNat)), (Builtin.bitOr (b.fdiv (2 ^ ((2 : Int) : Int).toNat)) ((Builtin.bitAnd c (15 : Int)) * 2 ^ ((4 : Int) : Int).toNat)), (Builtin.bitOr (c.fdiv (2 ^ ((4 : Int) : Int).toNat)) (d * 2 ^ ((2 : Int) : Int).toNat))]
set_option maxHeartbeats 2000000 in
theorem turnDL {G : Gl} {L lv f : Addr} {B : Heap} {Xg : List Addr} {rd : Int → Value → Prop} {items : List Int} {nc : Nat} {fix : List (Addr × Obj)} {Fr : List Addr} (K : (gcDL G L lv B Xg rd items nc fix Fr).Ok) (N : NextV (gcDL G L lv B Xg rd items nc fix Fr) f) (hkp : ∃ fd, (f, ({ cls := .type "function", data := .func fd } : Obj)) ∈ fix) {a b c d i n t : Int} {r : List Int} (ha : 0 ≤ a ∧ a < 64) (hb : 0 ≤ b ∧ b < 64) (hc : 0 ≤ c ∧ c < 64) (hd : 0 ≤ d ∧ d < 64) : GS (gcDL G L lv B Xg rd items nc fix Fr) [("next_value", aVal (.ref f)), ("chunks", aInt n), ("tail", aInt t), ("idx", aInt i)] (a :: b :: c :: d :: r) (wbd (nth (bd (nth clsBody 13)) 1)) (sixDL a b c d) [("next_value", aVal (.ref f)), ("chunks", aInt n), ("tail", aInt t), ("idx", aInt (i + 1))] r :=
  GS.weaken (GS.cons (τ := [("next_value", aVal (.ref f)), ("chunks", aInt n), ("tail", aInt t), ("idx", aInt i), ("v1", aInt a)]) (GNx.draw K (.head _) N hkp rfl (by rfl) (by rfl) (by decide) rfl) (GS.cons (τ := [("next_value", aVal (.ref f)), ("chunks", aInt n), ("tail", aInt t), ("idx", aInt i), ("v1", aInt a), ("v2", aInt b)]) (GNx.draw K (.head _) N hkp rfl (by rfl) (by rfl) (by decide) rfl) (GS.cons (τ := [("next_value", aVal (.ref f)), ("chunks", aInt n), ("tail", aInt t), ("idx", aInt i), ("v1", aInt a), ("v2", aInt b), ("v3", aInt c)]) (GNx.draw K (.head _) N hkp rfl (by rfl) (by rfl) (by decide) rfl) (GS.cons (τ := [("next_value", aVal (.ref f)), ("chunks", aInt n), ("tail", aInt t), ("idx", aInt i), ("v1", aInt a), ("v2", aInt b), ("v3", aInt c), ("v4", aInt d)]) (GNx.draw K (.head _) N hkp rfl (by rfl) (by rfl) (by decide) rfl) (GS.yield K (fun A rm => (Ev.bin (Ev.loc (.tail _ (.tail _ (.tail _ (.tail _ (.head _))))) (by rfl) rfl (by decide)) (Ev.bin (Ev.bin (Ev.loc (.tail _ (.tail _ (.tail _ (.tail _ (.tail _ (.head _)))))) (by rfl) rfl (by decide)) Ev.intC Op2.and) Ev.intC (Op2.shl (by decide) (by decide) (and_small (by decide) (by decide)))) Op2.or)) (GS.yield K (fun A rm => (Ev.bin (Ev.bin (Ev.loc (.tail _ (.tail _ (.tail _ (.tail _ (.tail _ (.head _)))))) (by rfl) rfl (by decide)) Ev.intC (Op2.shr (by decide))) (Ev.bin (Ev.bin (Ev.loc (.tail _ (.tail _ (.tail _ (.tail _ (.tail _ (.tail _ (.head _))))))) (by rfl) rfl (by decide)) Ev.intC Op2.and) Ev.intC (Op2.shl (by decide) (by decide) (and_small (by decide) (by decide)))) Op2.or)) (GS.yield K (fun A rm => (Ev.bin (Ev.bin (Ev.loc (.tail _ (.tail _ (.tail _ (.tail _ (.tail _ (.tail _ (.head _))))))) (by rfl) rfl (by decide)) Ev.intC (Op2.shr (by decide))) (Ev.bin (Ev.loc (.tail _ (.tail _ (.tail _ (.tail _ (.tail _ (.tail _ (.tail _ (.head _)))))))) (by rfl) rfl (by decide)) Ev.intC (Op2.shl (by decide) (by decide) (by omega))) Op2.or)) (GS.cons (τ := [("next_value", aVal (.ref f)), ("chunks", aInt n), ("tail", aInt t), ("idx", aInt (i + 1)), ("v1", aInt a), ("v2", aInt b), ("v3", aInt c), ("v4", aInt d)]) (GNx.incr K (.tail _ (.tail _ (.tail _ (.head _)))) (fun A rm => Ev.intC) rfl (by rfl)) GS.nil) rfl rfl) rfl rfl) rfl rfl))))) (fun p h => by
    match p, h with
    | _, .head _ => exact .head _
    | _, .tail _ (.head _) => exact .tail _ (.head _)
    | _, .tail _ (.tail _ (.head _)) => exact .tail _ (.tail _ (.head _))
    | _, .tail _ (.tail _ (.tail _ (.head _))) => exact .tail _ (.tail _ (.tail _ (.head _))))
def bodyDL : List Int → List Int
  | a :: b :: c :: d :: r => sixDL a b c d ++ bodyDL r
  | _ => []
set_option maxHeartbeats 2000000 in
theorem loopDL {G : Gl} {L lv f : Addr} {B : Heap} {Xg : List Addr} {rd : Int → Value → Prop} {items : List Int} {nc : Nat} {fix : List (Addr × Obj)} {Fr : List Addr} (K : (gcDL G L lv B Xg rd items nc fix Fr).Ok) (N : NextV (gcDL G L lv B Xg rd items nc fix Fr) f) (hkp : ∃ fd, (f, ({ cls := .type "function", data := .func fd } : Obj)) ∈ fix) {n t : Int} : ∀ (l : List Int) (i : Int), n = i + (l.length / 4 : Nat) → (∀ x ∈ l, 0 ≤ x ∧ x < 64) → GW (gcDL G L lv B Xg rd items nc fix Fr) (wts (nth (bd (nth clsBody 13)) 1)) (wbd (nth (bd (nth clsBody 13)) 1)) [("next_value", aVal (.ref f)), ("chunks", aInt n), ("tail", aInt t), ("idx", aInt i)] l (bodyDL l) [("next_value", aVal (.ref f)), ("chunks", aInt n), ("tail", aInt t), ("idx", aInt n)] (last4 l)
  | [], i, hn, _ => by
    have hi : n = i := by simpa using hn
    subst hi
    exact GW.done (fun A rm => Tr.cmp (Ev.loc (.tail _ (.tail _ (.tail _ (.head _)))) (by rfl) rfl (by decide)) (Ev.loc (.tail _ (.head _)) (by rfl) rfl (by decide)) (Op2.lt (by simp)))
  | [a], i, hn, _ => by
    have hi : n = i := by simpa using hn
    subst hi
    exact GW.done (fun A rm => Tr.cmp (Ev.loc (.tail _ (.tail _ (.tail _ (.head _)))) (by rfl) rfl (by decide)) (Ev.loc (.tail _ (.head _)) (by rfl) rfl (by decide)) (Op2.lt (by simp)))
  | [a, b], i, hn, _ => by
    have hi : n = i := by simpa using hn
    subst hi
    exact GW.done (fun A rm => Tr.cmp (Ev.loc (.tail _ (.tail _ (.tail _ (.head _)))) (by rfl) rfl (by decide)) (Ev.loc (.tail _ (.head _)) (by rfl) rfl (by decide)) (Op2.lt (by simp)))
  | [a, b, c], i, hn, _ => by
    have hi : n = i := by simpa using hn
    subst hi
    exact GW.done (fun A rm => Tr.cmp (Ev.loc (.tail _ (.tail _ (.tail _ (.head _)))) (by rfl) rfl (by decide)) (Ev.loc (.tail _ (.head _)) (by rfl) rfl (by decide)) (Op2.lt (by simp)))
  | a :: b :: c :: d :: r, i, hn, hb => by
    have hl : (a :: b :: c :: d :: r).length = r.length + 4 := rfl
    rw [hl] at hn
    have hlt : i < n := by omega
    exact GW.turn (fun A rm => Tr.cmp (Ev.loc (.tail _ (.tail _ (.tail _ (.head _)))) (by rfl) rfl (by decide)) (Ev.loc (.tail _ (.head _)) (by rfl) rfl (by decide)) (Op2.lt (by simp [hlt]))) (turnDL K N hkp (hb _ (.head _)) (hb _ (.tail _ (.head _))) (hb _ (.tail _ (.tail _ (.head _)))) (hb _ (.tail _ (.tail _ (.tail _ (.head _)))))) (loopDL K N hkp r (i + 1) (by omega) fun x h => hb x (.tail _ (.tail _ (.tail _ (.tail _ h)))))
set_option maxHeartbeats 2000000 in
theorem endDL0 {G : Gl} {L lv f : Addr} {B : Heap} {Xg : List Addr} {rd : Int → Value → Prop} {items : List Int} {nc : Nat} {fix : List (Addr × Obj)} {Fr : List Addr} (K : (gcDL G L lv B Xg rd items nc fix Fr).Ok) (N : NextV (gcDL G L lv B Xg rd items nc fix Fr) f) (hkp : ∃ fd, (f, ({ cls := .type "function", data := .func fd } : Obj)) ∈ fix) { n : Int}  : ∃ τ, GS (gcDL G L lv B Xg rd items nc fix Fr) [("next_value", aVal (.ref f)), ("chunks", aInt n), ("tail", aInt 0), ("idx", aInt n)] [] [nth (bd (nth clsBody 13)) 2] [] τ [] :=
  ⟨_, gs_app (GS.if_f K (fun A rm => Tr.val (Ev.loc (.tail _ (.tail _ (.head _))) (by rfl) rfl (by decide)) (TrV.int (by decide))) GS.nil GS.nil)⟩
set_option maxHeartbeats 2000000 in
theorem endDL2 {G : Gl} {L lv f : Addr} {B : Heap} {Xg : List Addr} {rd : Int → Value → Prop} {items : List Int} {nc : Nat} {fix : List (Addr × Obj)} {Fr : List Addr} (K : (gcDL G L lv B Xg rd items nc fix Fr).Ok) (N : NextV (gcDL G L lv B Xg rd items nc fix Fr) f) (hkp : ∃ fd, (f, ({ cls := .type "function", data := .func fd } : Obj)) ∈ fix) {a b n : Int} (ha : 0 ≤ a ∧ a < 64) (hb : 0 ≤ b ∧ b < 64) : ∃ τ, GS (gcDL G L lv B Xg rd items nc fix Fr) [("next_value", aVal (.ref f)), ("chunks", aInt n), ("tail", aInt 2), ("idx", aInt n)] [a, b] [nth (bd (nth clsBody 13)) 2] [(Builtin.bitOr a ((Builtin.bitAnd b (3 : Int)) * 2 ^ ((6 : Int) : Int).toNat))] τ [] :=
  ⟨_, gs_app (GS.if_t K (fun A rm => Tr.val (Ev.loc (.tail _ (.tail _ (.head _))) (by rfl) rfl (by decide)) (TrV.int (by decide))) (GS.cons (τ := [("next_value", aVal (.ref f)), ("chunks", aInt n), ("tail", aInt 2), ("idx", aInt n), ("v1", aInt a)]) (GNx.draw K (.head _) N hkp rfl (by rfl) (by rfl) (by decide) rfl) (GS.cons (τ := [("next_value", aVal (.ref f)), ("chunks", aInt n), ("tail", aInt 2), ("idx", aInt n), ("v1", aInt a), ("v2", aInt b)]) (GNx.draw K (.head _) N hkp rfl (by rfl) (by rfl) (by decide) rfl) (GS.yield K (fun A rm => (Ev.bin (Ev.loc (.tail _ (.tail _ (.tail _ (.tail _ (.head _))))) (by rfl) rfl (by decide)) (Ev.bin (Ev.bin (Ev.loc (.tail _ (.tail _ (.tail _ (.tail _ (.tail _ (.head _)))))) (by rfl) rfl (by decide)) Ev.intC Op2.and) Ev.intC (Op2.shl (by decide) (by decide) (and_small (by decide) (by decide)))) Op2.or)) (GS.if_f K (fun A rm => Tr.cmp (Ev.loc (.tail _ (.tail _ (.head _))) (by rfl) rfl (by decide)) Ev.intC (Op2.eq (by decide))) GS.nil GS.nil) rfl rfl))) GS.nil)⟩
set_option maxHeartbeats 2000000 in
theorem endDL3 {G : Gl} {L lv f : Addr} {B : Heap} {Xg : List Addr} {rd : Int → Value → Prop} {items : List Int} {nc : Nat} {fix : List (Addr × Obj)} {Fr : List Addr} (K : (gcDL G L lv B Xg rd items nc fix Fr).Ok) (N : NextV (gcDL G L lv B Xg rd items nc fix Fr) f) (hkp : ∃ fd, (f, ({ cls := .type "function", data := .func fd } : Obj)) ∈ fix) {a b c n : Int} (ha : 0 ≤ a ∧ a < 64) (hb : 0 ≤ b ∧ b < 64) (hc : 0 ≤ c ∧ c < 64) : ∃ τ, GS (gcDL G L lv B Xg rd items nc fix Fr) [("next_value", aVal (.ref f)), ("chunks", aInt n), ("tail", aInt 3), ("idx", aInt n)] [a, b, c] [nth (bd (nth clsBody 13)) 2] [(Builtin.bitOr a ((Builtin.bitAnd b (3 : Int)) * 2 ^ ((6 : Int) : Int).toNat)), (Builtin.bitOr (b.fdiv (2 ^ ((2 : Int) : Int).toNat)) ((Builtin.bitAnd c (15 : Int)) * 2 ^ ((4 : Int) : Int).toNat))] τ [] :=
  ⟨_, gs_app (GS.if_t K (fun A rm => Tr.val (Ev.loc (.tail _ (.tail _ (.head _))) (by rfl) rfl (by decide)) (TrV.int (by decide))) (GS.cons (τ := [("next_value", aVal (.ref f)), ("chunks", aInt n), ("tail", aInt 3), ("idx", aInt n), ("v1", aInt a)]) (GNx.draw K (.head _) N hkp rfl (by rfl) (by rfl) (by decide) rfl) (GS.cons (τ := [("next_value", aVal (.ref f)), ("chunks", aInt n), ("tail", aInt 3), ("idx", aInt n), ("v1", aInt a), ("v2", aInt b)]) (GNx.draw K (.head _) N hkp rfl (by rfl) (by rfl) (by decide) rfl) (GS.yield K (fun A rm => (Ev.bin (Ev.loc (.tail _ (.tail _ (.tail _ (.tail _ (.head _))))) (by rfl) rfl (by decide)) (Ev.bin (Ev.bin (Ev.loc (.tail _ (.tail _ (.tail _ (.tail _ (.tail _ (.head _)))))) (by rfl) rfl (by decide)) Ev.intC Op2.and) Ev.intC (Op2.shl (by decide) (by decide) (and_small (by decide) (by decide)))) Op2.or)) (GS.if_t K (fun A rm => Tr.cmp (Ev.loc (.tail _ (.tail _ (.head _))) (by rfl) rfl (by decide)) Ev.intC (Op2.eq (by decide))) (GS.cons (τ := [("next_value", aVal (.ref f)), ("chunks", aInt n), ("tail", aInt 3), ("idx", aInt n), ("v1", aInt a), ("v2", aInt b), ("v3", aInt c)]) (GNx.draw K (.head _) N hkp rfl (by rfl) (by rfl) (by decide) rfl) (GS.yield K (fun A rm => (Ev.bin (Ev.bin (Ev.loc (.tail _ (.tail _ (.tail _ (.tail _ (.tail _ (.head _)))))) (by rfl) rfl (by decide)) Ev.intC (Op2.shr (by decide))) (Ev.bin (Ev.bin (Ev.loc (.tail _ (.tail _ (.tail _ (.tail _ (.tail _ (.tail _ (.head _))))))) (by rfl) rfl (by decide)) Ev.intC Op2.and) Ev.intC (Op2.shl (by decide) (by decide) (and_small (by decide) (by decide)))) Op2.or)) GS.nil rfl rfl)) GS.nil) rfl rfl))) GS.nil)⟩
def tailDL : List Int → List Int
  | [a, b] => [(Builtin.bitOr a ((Builtin.bitAnd b (3 : Int)) * 2 ^ ((6 : Int) : Int).toNat))]
  | [a, b, c] => [(Builtin.bitOr a ((Builtin.bitAnd b (3 : Int)) * 2 ^ ((6 : Int) : Int).toNat)), (Builtin.bitOr (b.fdiv (2 ^ ((2 : Int) : Int).toNat)) ((Builtin.bitAnd c (15 : Int)) * 2 ^ ((4 : Int) : Int).toNat))]
  | _ => []
set_option maxHeartbeats 2000000 in
theorem wholeDL {G : Gl} {σs : AV} {L lv f : Addr} {B : Heap} {Xg : List Addr} {rd : Int → Value → Prop} {items : List Int} {nc : Nat} {fix : List (Addr × Obj)} {Fr : List Addr} (K : (gcDL G L lv B Xg rd items nc fix Fr).Ok) (N : NextV (gcDL G L lv B Xg rd items nc fix Fr) f) (hkp : ∃ fd, (f, ({ cls := .type "function", data := .func fd } : Obj)) ∈ fix) (l : List Int) (hb : ∀ x ∈ l, 0 ≤ x ∧ x < 64) (ht : l.length % 4 ≠ 1) : ∃ τ r, GS (gcDL G L lv B Xg rd items nc fix Fr) [("self", σs), ("next_value", aVal (.ref f)), ("chunks", aInt (l.length / 4 : Nat)), ("tail", aInt (l.length % 4 : Nat))] l (bd (nth clsBody 13)) (bodyDL l ++ tailDL (last4 l)) τ r := by
  have hlast := last4_mem l
  have hlen := last4_len l
  have hw : GW (gcDL G L lv B Xg rd items nc fix Fr) (wts (nth (bd (nth clsBody 13)) 1)) (wbd (nth (bd (nth clsBody 13)) 1)) [("next_value", aVal (.ref f)), ("chunks", aInt (l.length / 4 : Nat)), ("tail", aInt (l.length % 4 : Nat)), ("idx", aInt 0)] l (bodyDL l) _ (last4 l) := loopDL K N hkp l 0 (by omega) hb
  have hs : ∀ {τ r}, GS (gcDL G L lv B Xg rd items nc fix Fr) [("next_value", aVal (.ref f)), ("chunks", aInt (l.length / 4 : Nat)), ("tail", aInt (l.length % 4 : Nat)), ("idx", aInt (l.length / 4 : Nat))] (last4 l) [nth (bd (nth clsBody 13)) 2] (tailDL (last4 l)) τ r → ∃ τ r, GS (gcDL G L lv B Xg rd items nc fix Fr) [("self", σs), ("next_value", aVal (.ref f)), ("chunks", aInt (l.length / 4 : Nat)), ("tail", aInt (l.length % 4 : Nat))] l (bd (nth clsBody 13)) (bodyDL l ++ tailDL (last4 l)) τ r := fun h =>
    ⟨_, _, GS.cons (GNx.weaken (GNx.assign (x := "idx") (i := 0) K (fun A rm => Ev.intC) rfl (by rfl) rfl) (fun p h => .tail _ h)) (GS.while K hw h)⟩
  have hle : (l.length % 4 : Nat) = (last4 l).length := hlen.symm
  rw [hle] at hs
  match hq : last4 l with
  | [] =>
    rw [hq] at hs hlast hle
    rw [hle]
    obtain ⟨τ, h⟩ := endDL0 K N hkp (n := (l.length / 4 : Nat)) 
    exact hs h
  | [a] =>
    rw [hq] at hlen; simp at hlen; omega
  | [a, b] =>
    rw [hq] at hs hlast hle
    rw [hle]
    obtain ⟨τ, h⟩ := endDL2 K N hkp (n := (l.length / 4 : Nat)) (hb _ (hlast _ (.head _))) (hb _ (hlast _ (.tail _ (.head _))))
    exact hs h
  | [a, b, c] =>
    rw [hq] at hs hlast hle
    rw [hle]
    obtain ⟨τ, h⟩ := endDL3 K N hkp (n := (l.length / 4 : Nat)) (hb _ (hlast _ (.head _))) (hb _ (hlast _ (.tail _ (.head _)))) (hb _ (hlast _ (.tail _ (.tail _ (.head _)))))
    exact hs h
  | a :: b :: c :: d :: r => rw [hq] at hlen; simp at hlen; omega
abbrev gcDB (G : Gl) (L lv : Addr) (B : Heap) (Xg : List Addr) (rd : Int → Value → Prop) (items : List Int) (nc : Nat) (fix : List (Addr × Obj)) (Fr : List Addr) : Gc := ⟨G, callEnv fdDB L 126, lv, B, Xg, rd, items, nc, fix, Fr⟩
def sixDB (a b c d : Int) : List Int := [(Builtin.bitOr (a * 2 ^ ((2 : Int) : Int).toNat) (b.fdiv (2 ^ ((4 : Int) : Int).toNat))), (Builtin.bitOr ((Builtin.bitAnd b (15 : Int)) * 2 ^ ((4 : Int) : Int).toNat) (c.fdiv (2 ^ ((2 : Int) : Int).toNat))), (Builtin.bitOr ((Builtin.bitAnd c (3 : Int)) * 2 ^ ((6 : Int) : Int).toNat) d)]
set_option maxHeartbeats 2000000 in
theorem turnDB {G : Gl} {L lv f : Addr} {B : Heap} {Xg : List Addr} {rd : Int → Value → Prop} {items : List Int} {nc : Nat} {fix : List (Addr × Obj)} {Fr : List Addr} (K : (gcDB G L lv B Xg rd items nc fix Fr).Ok) (N : NextV (gcDB G L lv B Xg rd items nc fix Fr) f) (hkp : ∃ fd, (f, ({ cls := .type "function", data := .func fd } : Obj)) ∈ fix) {a b c d i n t : Int} {r : List Int} (ha : 0 ≤ a ∧ a < 64) (hb : 0 ≤ b ∧ b < 64) (hc : 0 ≤ c ∧ c < 64) (hd : 0 ≤ d ∧ d < 64) : GS (gcDB G L lv B Xg rd items nc fix Fr) [("next_value", aVal (.ref f)), ("chunks", aInt n), ("tail", aInt t), ("idx", aInt i)] (a :: b :: c :: d :: r) (wbd (nth (bd (nth clsBody 14)) 1)) (sixDB a b c d) [("next_value", aVal (.ref f)), ("chunks", aInt n), ("tail", aInt t), ("idx", aInt (i + 1))] r :=
  GS.weaken (GS.cons (τ := [("next_value", aVal (.ref f)), ("chunks", aInt n), ("tail", aInt t), ("idx", aInt i), ("v1", aInt a)]) (GNx.draw K (.head _) N hkp rfl (by rfl) (by rfl) (by decide) rfl) (GS.cons (τ := [("next_value", aVal (.ref f)), ("chunks", aInt n), ("tail", aInt t), ("idx", aInt i), ("v1", aInt a), ("v2", aInt b)]) (GNx.draw K (.head _) N hkp rfl (by rfl) (by rfl) (by decide) rfl) (GS.cons (τ := [("next_value", aVal (.ref f)), ("chunks", aInt n), ("tail", aInt t), ("idx", aInt i), ("v1", aInt a), ("v2", aInt b), ("v3", aInt c)]) (GNx.draw K (.head _) N hkp rfl (by rfl) (by rfl) (by decide) rfl) (GS.cons (τ := [("next_value", aVal (.ref f)), ("chunks", aInt n), ("tail", aInt t), ("idx", aInt i), ("v1", aInt a), ("v2", aInt b), ("v3", aInt c), ("v4", aInt d)]) (GNx.draw K (.head _) N hkp rfl (by rfl) (by rfl) (by decide) rfl) (GS.yield K (fun A rm => (Ev.bin (Ev.bin (Ev.loc (.tail _ (.tail _ (.tail _ (.tail _ (.head _))))) (by rfl) rfl (by decide)) Ev.intC (Op2.shl (by decide) (by decide) (by omega))) (Ev.bin (Ev.loc (.tail _ (.tail _ (.tail _ (.tail _ (.tail _ (.head _)))))) (by rfl) rfl (by decide)) Ev.intC (Op2.shr (by decide))) Op2.or)) (GS.yield K (fun A rm => (Ev.bin (Ev.bin (Ev.bin (Ev.loc (.tail _ (.tail _ (.tail _ (.tail _ (.tail _ (.head _)))))) (by rfl) rfl (by decide)) Ev.intC Op2.and) Ev.intC (Op2.shl (by decide) (by decide) (and_small (by decide) (by decide)))) (Ev.bin (Ev.loc (.tail _ (.tail _ (.tail _ (.tail _ (.tail _ (.tail _ (.head _))))))) (by rfl) rfl (by decide)) Ev.intC (Op2.shr (by decide))) Op2.or)) (GS.yield K (fun A rm => (Ev.bin (Ev.bin (Ev.bin (Ev.loc (.tail _ (.tail _ (.tail _ (.tail _ (.tail _ (.tail _ (.head _))))))) (by rfl) rfl (by decide)) Ev.intC Op2.and) Ev.intC (Op2.shl (by decide) (by decide) (and_small (by decide) (by decide)))) (Ev.loc (.tail _ (.tail _ (.tail _ (.tail _ (.tail _ (.tail _ (.tail _ (.head _)))))))) (by rfl) rfl (by decide)) Op2.or)) (GS.cons (τ := [("next_value", aVal (.ref f)), ("chunks", aInt n), ("tail", aInt t), ("idx", aInt (i + 1)), ("v1", aInt a), ("v2", aInt b), ("v3", aInt c), ("v4", aInt d)]) (GNx.incr K (.tail _ (.tail _ (.tail _ (.head _)))) (fun A rm => Ev.intC) rfl (by rfl)) GS.nil) rfl rfl) rfl rfl) rfl rfl))))) (fun p h => by
    match p, h with
    | _, .head _ => exact .head _
    | _, .tail _ (.head _) => exact .tail _ (.head _)
    | _, .tail _ (.tail _ (.head _)) => exact .tail _ (.tail _ (.head _))
    | _, .tail _ (.tail _ (.tail _ (.head _))) => exact .tail _ (.tail _ (.tail _ (.head _))))
def bodyDB : List Int → List Int
  | a :: b :: c :: d :: r => sixDB a b c d ++ bodyDB r
  | _ => []
set_option maxHeartbeats 2000000 in
theorem loopDB {G : Gl} {L lv f : Addr} {B : Heap} {Xg : List Addr} {rd : Int → Value → Prop} {items : List Int} {nc : Nat} {fix : List (Addr × Obj)} {Fr : List Addr} (K : (gcDB G L lv B Xg rd items nc fix Fr).Ok) (N : NextV (gcDB G L lv B Xg rd items nc fix Fr) f) (hkp : ∃ fd, (f, ({ cls := .type "function", data := .func fd } : Obj)) ∈ fix) {n t : Int} : ∀ (l : List Int) (i : Int), n = i + (l.length / 4 : Nat) → (∀ x ∈ l, 0 ≤ x ∧ x < 64) → GW (gcDB G L lv B Xg rd items nc fix Fr) (wts (nth (bd (nth clsBody 14)) 1)) (wbd (nth (bd (nth clsBody 14)) 1)) [("next_value", aVal (.ref f)), ("chunks", aInt n), ("tail", aInt t), ("idx", aInt i)] l (bodyDB l) [("next_value", aVal (.ref f)), ("chunks", aInt n), ("tail", aInt t), ("idx", aInt n)] (last4 l)
  | [], i, hn, _ => by
    have hi : n = i := by simpa using hn
    subst hi
    exact GW.done (fun A rm => Tr.cmp (Ev.loc (.tail _ (.tail _ (.tail _ (.head _)))) (by rfl) rfl (by decide)) (Ev.loc (.tail _ (.head _)) (by rfl) rfl (by decide)) (Op2.lt (by simp)))
  | [a], i, hn, _ => by
    have hi : n = i := by simpa using hn
    subst hi
    exact GW.done (fun A rm => Tr.cmp (Ev.loc (.tail _ (.tail _ (.tail _ (.head _)))) (by rfl) rfl (by decide)) (Ev.loc (.tail _ (.head _)) (by rfl) rfl (by decide)) (Op2.lt (by simp)))
  | [a, b], i, hn, _ => by
    have hi : n = i := by simpa using hn
    subst hi
    exact GW.done (fun A rm => Tr.cmp (Ev.loc (.tail _ (.tail _ (.tail _ (.head _)))) (by rfl) rfl (by decide)) (Ev.loc (.tail _ (.head _)) (by rfl) rfl (by decide)) (Op2.lt (by simp)))
  | [a, b, c], i, hn, _ => by
    have hi : n = i := by simpa using hn
    subst hi
    exact GW.done (fun A rm => Tr.cmp (Ev.loc (.tail _ (.tail _ (.tail _ (.head _)))) (by rfl) rfl (by decide)) (Ev.loc (.tail _ (.head _)) (by rfl) rfl (by decide)) (Op2.lt (by simp)))
  | a :: b :: c :: d :: r, i, hn, hb => by
    have hl : (a :: b :: c :: d :: r).length = r.length + 4 := rfl
    rw [hl] at hn
    have hlt : i < n := by omega
    exact GW.turn (fun A rm => Tr.cmp (Ev.loc (.tail _ (.tail _ (.tail _ (.head _)))) (by rfl) rfl (by decide)) (Ev.loc (.tail _ (.head _)) (by rfl) rfl (by decide)) (Op2.lt (by simp [hlt]))) (turnDB K N hkp (hb _ (.head _)) (hb _ (.tail _ (.head _))) (hb _ (.tail _ (.tail _ (.head _)))) (hb _ (.tail _ (.tail _ (.tail _ (.head _)))))) (loopDB K N hkp r (i + 1) (by omega) fun x h => hb x (.tail _ (.tail _ (.tail _ (.tail _ h)))))
set_option maxHeartbeats 2000000 in
theorem endDB0 {G : Gl} {L lv f : Addr} {B : Heap} {Xg : List Addr} {rd : Int → Value → Prop} {items : List Int} {nc : Nat} {fix : List (Addr × Obj)} {Fr : List Addr} (K : (gcDB G L lv B Xg rd items nc fix Fr).Ok) (N : NextV (gcDB G L lv B Xg rd items nc fix Fr) f) (hkp : ∃ fd, (f, ({ cls := .type "function", data := .func fd } : Obj)) ∈ fix) { n : Int}  : ∃ τ, GS (gcDB G L lv B Xg rd items nc fix Fr) [("next_value", aVal (.ref f)), ("chunks", aInt n), ("tail", aInt 0), ("idx", aInt n)] [] [nth (bd (nth clsBody 14)) 2] [] τ [] :=
  ⟨_, gs_app (GS.if_f K (fun A rm => Tr.val (Ev.loc (.tail _ (.tail _ (.head _))) (by rfl) rfl (by decide)) (TrV.int (by decide))) GS.nil GS.nil)⟩
set_option maxHeartbeats 2000000 in
theorem endDB2 {G : Gl} {L lv f : Addr} {B : Heap} {Xg : List Addr} {rd : Int → Value → Prop} {items : List Int} {nc : Nat} {fix : List (Addr × Obj)} {Fr : List Addr} (K : (gcDB G L lv B Xg rd items nc fix Fr).Ok) (N : NextV (gcDB G L lv B Xg rd items nc fix Fr) f) (hkp : ∃ fd, (f, ({ cls := .type "function", data := .func fd } : Obj)) ∈ fix) {a b n : Int} (ha : 0 ≤ a ∧ a < 64) (hb : 0 ≤ b ∧ b < 64) : ∃ τ, GS (gcDB G L lv B Xg rd items nc fix Fr) [("next_value", aVal (.ref f)), ("chunks", aInt n), ("tail", aInt 2), ("idx", aInt n)] [a, b] [nth (bd (nth clsBody 14)) 2] [(Builtin.bitOr (a * 2 ^ ((2 : Int) : Int).toNat) (b.fdiv (2 ^ ((4 : Int) : Int).toNat)))] τ [] :=
  ⟨_, gs_app (GS.if_t K (fun A rm => Tr.val (Ev.loc (.tail _ (.tail _ (.head _))) (by rfl) rfl (by decide)) (TrV.int (by decide))) (GS.cons (τ := [("next_value", aVal (.ref f)), ("chunks", aInt n), ("tail", aInt 2), ("idx", aInt n), ("v1", aInt a)]) (GNx.draw K (.head _) N hkp rfl (by rfl) (by rfl) (by decide) rfl) (GS.cons (τ := [("next_value", aVal (.ref f)), ("chunks", aInt n), ("tail", aInt 2), ("idx", aInt n), ("v1", aInt a), ("v2", aInt b)]) (GNx.draw K (.head _) N hkp rfl (by rfl) (by rfl) (by decide) rfl) (GS.yield K (fun A rm => (Ev.bin (Ev.bin (Ev.loc (.tail _ (.tail _ (.tail _ (.tail _ (.head _))))) (by rfl) rfl (by decide)) Ev.intC (Op2.shl (by decide) (by decide) (by omega))) (Ev.bin (Ev.loc (.tail _ (.tail _ (.tail _ (.tail _ (.tail _ (.head _)))))) (by rfl) rfl (by decide)) Ev.intC (Op2.shr (by decide))) Op2.or)) (GS.if_f K (fun A rm => Tr.cmp (Ev.loc (.tail _ (.tail _ (.head _))) (by rfl) rfl (by decide)) Ev.intC (Op2.eq (by decide))) GS.nil GS.nil) rfl rfl))) GS.nil)⟩
set_option maxHeartbeats 2000000 in
theorem endDB3 {G : Gl} {L lv f : Addr} {B : Heap} {Xg : List Addr} {rd : Int → Value → Prop} {items : List Int} {nc : Nat} {fix : List (Addr × Obj)} {Fr : List Addr} (K : (gcDB G L lv B Xg rd items nc fix Fr).Ok) (N : NextV (gcDB G L lv B Xg rd items nc fix Fr) f) (hkp : ∃ fd, (f, ({ cls := .type "function", data := .func fd } : Obj)) ∈ fix) {a b c n : Int} (ha : 0 ≤ a ∧ a < 64) (hb : 0 ≤ b ∧ b < 64) (hc : 0 ≤ c ∧ c < 64) : ∃ τ, GS (gcDB G L lv B Xg rd items nc fix Fr) [("next_value", aVal (.ref f)), ("chunks", aInt n), ("tail", aInt 3), ("idx", aInt n)] [a, b, c] [nth (bd (nth clsBody 14)) 2] [(Builtin.bitOr (a * 2 ^ ((2 : Int) : Int).toNat) (b.fdiv (2 ^ ((4 : Int) : Int).toNat))), (Builtin.bitOr ((Builtin.bitAnd b (15 : Int)) * 2 ^ ((4 : Int) : Int).toNat) (c.fdiv (2 ^ ((2 : Int) : Int).toNat)))] τ [] :=
  ⟨_, gs_app (GS.if_t K (fun A rm => Tr.val (Ev.loc (.tail _ (.tail _ (.head _))) (by rfl) rfl (by decide)) (TrV.int (by decide))) (GS.cons (τ := [("next_value", aVal (.ref f)), ("chunks", aInt n), ("tail", aInt 3), ("idx", aInt n), ("v1", aInt a)]) (GNx.draw K (.head _) N hkp rfl (by rfl) (by rfl) (by decide) rfl) (GS.cons (τ := [("next_value", aVal (.ref f)), ("chunks", aInt n), ("tail", aInt 3), ("idx", aInt n), ("v1", aInt a), ("v2", aInt b)]) (GNx.draw K (.head _) N hkp rfl (by rfl) (by rfl) (by decide) rfl) (GS.yield K (fun A rm => (Ev.bin (Ev.bin (Ev.loc (.tail _ (.tail _ (.tail _ (.tail _ (.head _))))) (by rfl) rfl (by decide)) Ev.intC (Op2.shl (by decide) (by decide) (by omega))) (Ev.bin (Ev.loc (.tail _ (.tail _ (.tail _ (.tail _ (.tail _ (.head _)))))) (by rfl) rfl (by decide)) Ev.intC (Op2.shr (by decide))) Op2.or)) (GS.if_t K (fun A rm => Tr.cmp (Ev.loc (.tail _ (.tail _ (.head _))) (by rfl) rfl (by decide)) Ev.intC (Op2.eq (by decide))) (GS.cons (τ := [("next_value", aVal (.ref f)), ("chunks", aInt n), ("tail", aInt 3), ("idx", aInt n), ("v1", aInt a), ("v2", aInt b), ("v3", aInt c)]) (GNx.draw K (.head _) N hkp rfl (by rfl) (by rfl) (by decide) rfl) (GS.yield K (fun A rm => (Ev.bin (Ev.bin (Ev.bin (Ev.loc (.tail _ (.tail _ (.tail _ (.tail _ (.tail _ (.head _)))))) (by rfl) rfl (by decide)) Ev.intC Op2.and) Ev.intC (Op2.shl (by decide) (by decide) (and_small (by decide) (by decide)))) (Ev.bin (Ev.loc (.tail _ (.tail _ (.tail _ (.tail _ (.tail _ (.tail _ (.head _))))))) (by rfl) rfl (by decide)) Ev.intC (Op2.shr (by decide))) Op2.or)) GS.nil rfl rfl)) GS.nil) rfl rfl))) GS.nil)⟩
def tailDB : List Int → List Int
  | [a, b] => [(Builtin.bitOr (a * 2 ^ ((2 : Int) : Int).toNat) (b.fdiv (2 ^ ((4 : Int) : Int).toNat)))]
  | [a, b, c] => [(Builtin.bitOr (a * 2 ^ ((2 : Int) : Int).toNat) (b.fdiv (2 ^ ((4 : Int) : Int).toNat))), (Builtin.bitOr ((Builtin.bitAnd b (15 : Int)) * 2 ^ ((4 : Int) : Int).toNat) (c.fdiv (2 ^ ((2 : Int) : Int).toNat)))]
  | _ => []
set_option maxHeartbeats 2000000 in
theorem wholeDB {G : Gl} {σs : AV} {L lv f : Addr} {B : Heap} {Xg : List Addr} {rd : Int → Value → Prop} {items : List Int} {nc : Nat} {fix : List (Addr × Obj)} {Fr : List Addr} (K : (gcDB G L lv B Xg rd items nc fix Fr).Ok) (N : NextV (gcDB G L lv B Xg rd items nc fix Fr) f) (hkp : ∃ fd, (f, ({ cls := .type "function", data := .func fd } : Obj)) ∈ fix) (l : List Int) (hb : ∀ x ∈ l, 0 ≤ x ∧ x < 64) (ht : l.length % 4 ≠ 1) : ∃ τ r, GS (gcDB G L lv B Xg rd items nc fix Fr) [("self", σs), ("next_value", aVal (.ref f)), ("chunks", aInt (l.length / 4 : Nat)), ("tail", aInt (l.length % 4 : Nat))] l (bd (nth clsBody 14)) (bodyDB l ++ tailDB (last4 l)) τ r := by
  have hlast := last4_mem l
  have hlen := last4_len l
  have hw : GW (gcDB G L lv B Xg rd items nc fix Fr) (wts (nth (bd (nth clsBody 14)) 1)) (wbd (nth (bd (nth clsBody 14)) 1)) [("next_value", aVal (.ref f)), ("chunks", aInt (l.length / 4 : Nat)), ("tail", aInt (l.length % 4 : Nat)), ("idx", aInt 0)] l (bodyDB l) _ (last4 l) := loopDB K N hkp l 0 (by omega) hb
  have hs : ∀ {τ r}, GS (gcDB G L lv B Xg rd items nc fix Fr) [("next_value", aVal (.ref f)), ("chunks", aInt (l.length / 4 : Nat)), ("tail", aInt (l.length % 4 : Nat)), ("idx", aInt (l.length / 4 : Nat))] (last4 l) [nth (bd (nth clsBody 14)) 2] (tailDB (last4 l)) τ r → ∃ τ r, GS (gcDB G L lv B Xg rd items nc fix Fr) [("self", σs), ("next_value", aVal (.ref f)), ("chunks", aInt (l.length / 4 : Nat)), ("tail", aInt (l.length % 4 : Nat))] l (bd (nth clsBody 14)) (bodyDB l ++ tailDB (last4 l)) τ r := fun h =>
    ⟨_, _, GS.cons (GNx.weaken (GNx.assign (x := "idx") (i := 0) K (fun A rm => Ev.intC) rfl (by rfl) rfl) (fun p h => .tail _ h)) (GS.while K hw h)⟩
  have hle : (l.length % 4 : Nat) = (last4 l).length := hlen.symm
  rw [hle] at hs
  match hq : last4 l with
  | [] =>
    rw [hq] at hs hlast hle
    rw [hle]
    obtain ⟨τ, h⟩ := endDB0 K N hkp (n := (l.length / 4 : Nat)) 
    exact hs h
  | [a] =>
    rw [hq] at hlen; simp at hlen; omega
  | [a, b] =>
    rw [hq] at hs hlast hle
    rw [hle]
    obtain ⟨τ, h⟩ := endDB2 K N hkp (n := (l.length / 4 : Nat)) (hb _ (hlast _ (.head _))) (hb _ (hlast _ (.tail _ (.head _))))
    exact hs h
  | [a, b, c] =>
    rw [hq] at hs hlast hle
    rw [hle]
    obtain ⟨τ, h⟩ := endDB3 K N hkp (n := (l.length / 4 : Nat)) (hb _ (hlast _ (.head _))) (hb _ (hlast _ (.tail _ (.head _)))) (hb _ (hlast _ (.tail _ (.tail _ (.head _)))))
    exact hs h
  | a :: b :: c :: d :: r => rw [hq] at hlen; simp at hlen; omega
end
section

/-- private objects turn, none of them a cell or the frame's own -/
theorem Sat.priv_step {c : Fx} {σ : St} {X Y : List Addr} {s s' : Shared} (S : Sat c σ X s) (kp : ∀ b o, b ∉ Y → s.heap.get? b = some o → s'.heap.get? b = some o) (ok : c.G.Ok s') (hY : ∀ b ∈ Y, b ∈ X ∧ b ∉ c.own ∧ ∃ o, s.heap.get? b = some o ∧ ∀ v, o.data ≠ .cell v) (hl : ∀ b ∈ Y, ∃ o, s'.heap.get? b = some o) : Sat c σ X s' := by
  have vw : ∀ b o, (Mine.view X s.heap).get? b = some o → (Mine.view X s'.heap).get? b = some o := fun b o e => by
    obtain ⟨g, n⟩ := view_of e
    exact view_get (kp b o (fun z => n (hY b z).1) g) n
  have kc : ∀ a o v, o.data = .cell v → s.heap.get? a = some o → s'.heap.get? a = some o := fun a o v d e => kp _ _ (fun z => by
    obtain ⟨_, _, o', e', d'⟩ := hY a z
    rw [e'] at e; cases e; exact d' _ d) e
  refine ⟨ok, S.tabs, S.own, fun a h => ?_, S.L, ?_, fun y P h => ?_, fun y h => ?_, S.inj⟩
  · by_cases z : a ∈ Y
    · exact hl a z
    · obtain ⟨o, e⟩ := S.live a h; exact ⟨o, kp _ _ z e⟩
  · obtain ⟨m, n, h⟩ := S.loc
    exact ⟨m, ns_keeps (fun o e => kp _ _ (fun z => (hY _ z).2.1 S.L) e) n, fun y P hy => let ⟨v, e, hp⟩ := h y P hy; ⟨v, e, P.mono vw hp⟩⟩
  · obtain ⟨a, v, e, l, ⟨o, g, d⟩, hp⟩ := S.cel y P h
    exact ⟨a, v, e, l, ⟨o, kc _ _ _ d g, d⟩, P.mono vw hp⟩
  · obtain ⟨a, v, e, l, o, g, d⟩ := S.put y h
    exact ⟨a, v, e, l, o, kc _ _ _ d g, d⟩

section
variable {G : Gl} {A : Around} {s : Shared}
theorem rm_fresh {A : Around} {b : List Stmt} {e : Env} (r : Rm A 6) : Rm (A.in1.over (.func b e) []) 4 := by
  obtain ⟨h, d, u⟩ := r
  refine ⟨h, ?_, ?_⟩
  · show A.depth + frameCount (([] : List Frame).map Frame.where_) + (Code.func b e).weight + 4 < recursionLimit
    have e1 : frameCount (([] : List Frame).map Frame.where_) = 0 := rfl
    have e2 : (Code.func b e).weight = 1 := rfl
    rw [e1, e2]; omega
  · show A.units + 1 + unitsOf (([] : List Frame).map Frame.where_) + (Code.func b e).cUnits + 8 * 4 < cLine
    have e1 : unitsOf (([] : List Frame).map Frame.where_) = 0 := rfl
    have e2 : (Code.func b e).cUnits = 3 := rfl
    rw [e1, e2]; omega

/-- a generator def is called: nothing of it runs -/
theorem gen_make {f : Addr} {fd : FuncData} {body : List Stmt} {vs : List Value} {xs : List Str} {Z : Result → Shared → Prop} (F : FnAt G f fd) (hd : A.depth < recursionLimit) (ok : G.Ok s)
    (hbody : fd.body = .stmts body) (hbind : bindArgs fd ⟨vs, []⟩ = pure (xs.zip vs)) (hcell : ∀ x ∈ fd.scope.names, x.2 ≠ .cell) (hloc : ∀ x ∈ xs, fd.scope.names.lookup x = some .local) (hco : fd.scope.isCoroutine = false) (hgen : fd.scope.isGenerator = true) (hk : fd.scope.kind = .function)
    (h : ∀ (h₁ : Heap) (oI : Obj) (tk : Nat), h₁.Ns s.heap.objs.size (fun x => (xs.zip vs).reverse.lookup x) → (∀ b o, s.heap.get? b = some o → h₁.get? b = some o) → s.heap.objs.size < h₁.objs.size → (h₁.push oI).IsGen h₁.objs.size s.gens.size →
      Z (.ok (.ret (.ref h₁.objs.size))) { s with heap := h₁.push oI, gens := s.gens.push (.fresh (.func body (callEnv fd s.heap.objs.size f))), toks := tk }) :
    codeAny (model G.prog G.w) A (.call (.ref f) ⟨vs, []⟩) Z s := by
  obtain ⟨oc, od, osl, hl⟩ := F.obj
  refine codeAny_call_generator hd (ok.frag _ _ hl) rfl hco hgen hbody (codeRec_of ok.frag F.code) ((BindsTo.of_eq hbind) _ _ _ _ ?_)
  refine wpAny_newFunctionEnv hcell (fun x hx => hloc _ (List.of_mem_zip hx).1) (fun h₀ hn hsb => ⟨?_, ?_⟩) hk
  · exact ok.nolim.fresh _ hsb
  · have hsz : s.heap.objs.size < h₀.objs.size := by obtain ⟨o, _, _, e, _⟩ := hn; exact Heap.lt_size e
    exact h h₀ _ _ hn (fun b o e => hsb.extBut b o (Nat.ne_of_lt (Heap.lt_size e)) (Heap.get?_push_of_some _ e)) hsz ⟨_, _, _, Heap.get?_push_size _ rfl, rfl, rfl, rfl⟩
end

theorem gen_st {k : Gc} {A : Around} {I g : Nat} {s : Shared} {σ τ : List (Str × AV)} {data r : List Int} {body : List Stmt} (K : k.Ok) (gs : GS k σ data body k.items τ r) (rm : Rm A 6) (S : GSat k σ data s) (hg : s.heap.IsGen I g) (hst : s.gens[g]? = some (.fresh (.func body k.env))) : GenSt k A I g 0 s :=
  ⟨hg, S.ok, S.named, S.pv, _, hst, fun s'' al => ⟨rfl, gs.fresh (rm_fresh rm) (S.alive K al)⟩⟩

/-- from ahead of a generator's making to behind its walk -/
theorem Step.gen_mv {G : Gl} {Y wr : List Addr} {s s₂ s₃ : Shared} {g : Nat} (a : Step G true Y s s₂) (hg : s.gens.size ≤ g) (ok : G.Ok s → G.Ok s₂) (b : G.Ok s₂ → Mv G wr (some g) s₂ s₃) (h : G.Ok s) : Step G true (Y ++ wr) s s₃ := by
  have b := b (a.ok h)
  refine ⟨fun x o n e => b.keep x o (fun m => n (List.mem_append_right _ m)) (a.keep x o (fun m => n (List.mem_append_left _ m)) e), fun _ => b.ok, ?_, b.drawn.trans a.drawn, b.os.trans a.os⟩
  show ∀ (i : Nat) (x : GenState), s.gens[i]? = some x → s₃.gens[i]? = some x
  intro i x e
  have hi : i < s.gens.size := (Array.getElem?_eq_some_iff.mp e).1
  rw [b.gens i (by intro z; cases z; omega)]
  exact a.gens i x e
end
section

def MethAt (G : Gl) (C : Addr) (name : Str) (f : Addr) (fd : FuncData) : Prop := findIn G.K (.ref C) name = some (some (.ref f)) ∧ typeIn G.K (.ref f) = some (.type "function") ∧ FnAt G f fd
def BltAt (G : Gl) (x : Str) (v : Value) : Prop := G.mg x = none ∧ G.mb x = some v

structure Wd (G : Gl) (C : Addr) : Prop where
  cls : ClsOk G.K C
  m57 : MethAt G C "_encode64" 57 fd57
  m64 : MethAt G C "_decode64" 64 fd64
  m71 : MethAt G C "_encode_bytes" 71 fd71
  m78 : MethAt G C "_decode_bytes" 78 fd78
  m91 : MethAt G C "encode_bytes" 91 fd91
  m98 : MethAt G C "_encode_bytes_little" 98 fdEL
  m105 : MethAt G C "_encode_bytes_big" 105 fdEB
  m112 : MethAt G C "decode_bytes" 112 fd112
  m119 : MethAt G C "_decode_bytes_little" 119 fdDL
  m126 : MethAt G C "_decode_bytes_big" 126 fdDB
  tE : tabE ∈ G.tabs
  tD : tabD ∈ G.tabs
  isinstance : BltAt G "isinstance" (.builtin "isinstance")
  bytes : BltAt G "bytes" (.type "bytes")
  str : BltAt G "str" (.type "str")
  len : BltAt G "len" (.builtin "len")
  list : BltAt G "list" (.type "list")
  divmod : BltAt G "divmod" (.builtin "divmod")
  range : BltAt G "range" (.type "range")
  min : BltAt G "min" (.builtin "min")
  zip : BltAt G "zip" (.type "zip")
  set : BltAt G "set" (.type "set")
  dict : BltAt G "dict" (.type "dict")
  enumerate : BltAt G "enumerate" (.type "enumerate")
  reversed : BltAt G "reversed" (.type "reversed")

theorem Ev.bi {c : Fx} {σ : St} {x : Str} {pos : Pos} {v : Value} (h : BltAt c.G x v) (hl : c.env.kindOf x = some .globalImplicit) (hk : c.env.scope.kind = .function) (hg : c.env.globals = mainGlobals) (hbb : c.env.builtins = builtinsNs) (hd : (x == ("__debug__" : Str)) = false) : Ev c σ (.Name x pos) (aVal v) :=
  Ev.blt h.1 h.2 hl hk hg hbb hd

/-- the signs of an alphabet -/
structure Signs (sg : List Int) : Prop where
  len : sg.length = 64
  byte : ∀ x ∈ sg, 0 ≤ x ∧ x < 256
  inj : ∀ (i j : Nat) b, sg[i]? = some b → sg[j]? = some b → i = j

section
variable {G : Gl} {C : Addr} {sg : List Int} {big : Bool}
theorem f57 (W : Wd G C) (hs : Signs sg) {i : Int} (h0 : 0 ≤ i) (h1 : i < 64) : FnV G false 1 57 [aEng C sg big, aInt i] (aInt (sg.getD i.toNat 0)) := by
  refine FnV.mk (xs := ["self", "value"]) (σ := ⟨[("self", aEng C sg big), ("value", aInt i)], []⟩) W.m57.2.2 rfl rfl ?_ rfl (by decide) (by rfl) (by rfl) (fun L p hp => nomatch hp) rfl rfl rfl ?_
  · intro vs hv
    match vs, hv with
    | [a, b], _ => rfl
  · intro A L rm
    have := hs.len
    refine Rt.here (Rt1.ret (Ev.sub (Ev.bytemap (Ev.loc (.head _) (by rfl) rfl (by decide)) W.cls (by rfl)) (Ev.loc (.tail _ (.head _)) (by rfl) rfl (by decide)) (Sub2.bytes (by omega) h0 (by omega) rfl (by intro _ _; rfl))))
theorem f64 (W : Wd G C) {i : Nat} {b : Int} (h : sg[i]? = some b) : FnV G false 1 64 [aEng C sg big, aInt b] (aInt i) := by
  refine FnV.mk (xs := ["self", "value"]) (σ := ⟨[("self", aEng C sg big), ("value", aInt b)], []⟩) W.m64.2.2 rfl rfl ?_ rfl (by decide) (by rfl) (by rfl) (fun L p hp => nomatch hp) rfl rfl rfl ?_
  · intro vs hv
    match vs, hv with
    | [a, b], _ => rfl
  · intro A L rm
    refine Rt.here (Rt1.ret (Ev.sub (Ev.lookup (Ev.loc (.head _) (by rfl) rfl (by decide)) W.cls (by rfl)) (Ev.loc (.tail _ (.head _)) (by rfl) rfl (by decide)) (Sub2.map h (by intro _ _; rfl))))

/-- what encode_bytes's and decode_bytes's generator gives, the chunks at once -/
def outE (big : Bool) (ks : List Int) : List Int := if big then bodyEB ks ++ tailEB (last3 ks) else bodyEL ks ++ tailEL (last3 ks)
def outD (big : Bool) (vs : List Int) : List Int := if big then bodyDB vs ++ tailDB (last4 vs) else bodyDL vs ++ tailDL (last4 vs)

/-- the state behind a generator's making -/
structure GenAt (G : Gl) (D : Addr) (Fr : List Addr) (out : List Int) (s s' : Shared) (I : Addr) : Prop where
  step : Step G true [] s s'
  made : ∃ L, s.heap.get? L = none ∧ G.h₀.objs.size ≤ L ∧ L < I ∧ s.heap.get? I = none ∧ I < s'.heap.objs.size ∧ L ≠ D ∧ (∃ o, s'.heap.get? L = some o ∧ ∀ v, o.data ≠ .cell v) ∧ ∃ k : Gc, k.G = G ∧ k.Ok ∧ k.Pv = [L, D] ∧ k.nc ≤ I ∧ k.items = out ∧ k.Fr = Fr ∧ ∀ A, Rm A 6 → GenSt k A I s.gens.size 0 s'

theorem named_lt {G : Gl} {s : Shared} (ok : G.Ok s) {c : Addr} (n : Gl.Ok.Named G s c) : ∃ o, s.heap.get? c = some o ∧ o.cls = .type "code" := by
  obtain ⟨o, vs, g, hc, _⟩ := ok.named n
  exact ⟨o, g, hc⟩

/-- one of the four generator defs is called, its list private -/
theorem gen_call {A : Around} {s : Shared} {X : List Addr} {f F : Addr} {fd : FuncData} {body : List Stmt} {D : Addr} {data out : List Int} {rd : Int → Value → Prop} {fix : List (Addr × Obj)} {Fr : List Addr} {u w1 w2 : Value} {ch tl : Int} {Z : Result → Shared → Prop} (Fn : FnAt G F fd) (rm : Rm A 1) (ok : G.Ok s) (hX : Priv G X s) (hD : D ∈ X) (hD0 : G.h₀.objs.size ≤ D)
    (hbody : fd.body = .stmts body) (hclo : fd.closure = []) (hbind : bindArgs fd ⟨[u, .ref f, w1, w2], []⟩ = pure ((["self", "next_value", "chunks", "tail"] : List Str).zip [u, .ref f, w1, w2])) (hcell : ∀ x ∈ fd.scope.names, x.2 ≠ .cell) (hloc : ∀ x ∈ (["self", "next_value", "chunks", "tail"] : List Str), fd.scope.names.lookup x = some .local) (hco : fd.scope.isCoroutine = false) (hgen : fd.scope.isGenerator = true) (hk : fd.scope.kind = .function)
    (hch : (aInt ch).p w1 s.heap) (htl : (aInt tl).p w2 s.heap) (hl : ListOf rd D data s.heap) (hfix : ∀ p ∈ fix, s.heap.get? p.1 = some p.2 ∧ p.1 ≠ D) (hfr : ∀ b ∈ Fr, b ∈ X ∧ b ≠ D ∧ G.h₀.objs.size ≤ b ∧ ∀ p ∈ fix, p.1 ≠ b)
    (hgs : ∀ k : Gc, k.G = G → k.Ok → k.env = callEnv fd s.heap.objs.size F → k.lv = D → k.rd = rd → k.items = out → k.fix = fix → k.Fr = Fr → (∀ b o, (view X s.heap).get? b = some o → k.B.get? b = some o) → ∃ τ r, GS k [("self", aVal u), ("next_value", aVal (.ref f)), ("chunks", aInt ch), ("tail", aInt tl)] data body out τ r)
    (h : ∀ I s', GenAt G D Fr out s s' I → Z (.ok (.ret (.ref I))) s') : codeAny (model G.prog G.w) A (.call (.ref F) ⟨[u, .ref f, w1, w2], []⟩) Z s := by
  refine gen_make Fn (by have := rm.d; omega) ok hbody hbind hcell hloc hco hgen hk fun h₁ oI tk hn hkp hsz hI => h _ _ ?_
  have hDs : D < s.heap.objs.size := by obtain ⟨o, e⟩ := hX.2 D hD; exact Heap.lt_size e
  have hlow := ok.low
  have st : Step G true [] s { s with heap := h₁.push oI, gens := s.gens.push (.fresh (.func body (callEnv fd s.heap.objs.size F))), toks := tk } := by
    refine ⟨fun b o _ e => Heap.get?_push_of_some _ (hkp b o e), fun ok => ok.step (fun b o _ e => Heap.get?_push_of_some _ (hkp b o e)) ?_, ?_, rfl, rfl⟩
    · intro g hg
      rcases Array.mem_push.mp hg with hg | hg
      · exact ok.bare g hg
      · rw [hg]; rfl
    · show ∀ (i : Nat) (g : GenState), s.gens[i]? = some g → (s.gens.push _)[i]? = some g
      intro i g e
      have hi : i < s.gens.size := (Array.getElem?_eq_some_iff.mp e).1
      rw [Array.getElem?_push_lt hi]
      rw [← e, Array.getElem?_eq_getElem hi]
  have ok' := st.ok ok
  have LI : s.heap.objs.size < h₁.objs.size := hsz
  refine ⟨st, s.heap.objs.size, none_of_ge (Nat.le_refl _), hlow, LI, none_of_ge (Nat.le_of_lt LI), by show _ < (h₁.push oI).objs.size; rw [Heap.size_push]; exact Nat.lt_succ_self _, Nat.ne_of_gt hDs, ?_, ?_⟩
  · obtain ⟨o, _, _, e, d, _⟩ := hn
    exact ⟨o, Heap.get?_push_of_some _ e, fun v z => by rw [d] at z; cases z⟩
  let k : Gc := ⟨G, callEnv fd s.heap.objs.size F, D, view (s.heap.objs.size :: X) h₁, s.heap.objs.size :: X, rd, out, h₁.objs.size, fix, Fr⟩
  have xl : ∀ a ∈ X, a < s.heap.objs.size := fun a m => by obtain ⟨o, e⟩ := hX.2 a m; exact Heap.lt_size e
  have K : k.Ok := by
    refine ⟨fun b o e => ?_, fun t m => .tail _ (hX.1 t m), fun a m => ?_, ⟨.head _, hlow, LI⟩, ⟨.tail _ hD, hD0, Nat.lt_trans hDs LI⟩, fun x y a e => ?_, fun p hp => ?_, fun b hb => ?_⟩
    · obtain ⟨g, n⟩ := view_of e
      exact ⟨n, Heap.lt_size g⟩
    · rcases List.mem_cons.mp m with m | m
      · exact m ▸ LI
      · exact Nat.lt_trans (xl a m) LI
    · have : (callEnv fd s.heap.objs.size F).cells = [] := hclo
      rw [show k.env.cells = [] from this] at e; cases e
    · have := Heap.lt_size (hfix p hp).1
      exact ⟨Nat.lt_trans this LI, Nat.ne_of_lt this, (hfix p hp).2⟩
    · obtain ⟨h1, h2, h3, h4⟩ := hfr b hb
      exact ⟨.tail _ h1, Nat.ne_of_lt (xl b h1), h2, h3, h4⟩
  obtain ⟨τ, r, gs⟩ := hgs k rfl K rfl rfl rfl rfl rfl rfl fun b o e => by
    obtain ⟨g, n⟩ := view_of e
    refine view_get (hkp _ _ g) fun m => ?_
    rcases List.mem_cons.mp m with m | m
    · rw [m, none_of_ge (Nat.le_refl _)] at g; cases g
    · exact n m
  have S : GSat k [("self", aVal u), ("next_value", aVal (.ref f)), ("chunks", aInt ch), ("tail", aInt tl)] data { s with heap := h₁.push oI, gens := s.gens.push (.fresh (.func body (callEnv fd s.heap.objs.size F))), toks := tk } := by
    refine ⟨ok', fun b o e => Heap.get?_push_of_some _ (view_sub _ _ e), ⟨_, hn.push _, fun x P hx => ?_⟩, ?_, fun c nm => ?_, fun a m => ?_, fun p hp => Heap.get?_push_of_some _ (hkp _ _ (hfix p hp).1)⟩
    · match x, P, hx with
      | _, _, .head _ => exact ⟨u, by rfl, rfl⟩
      | _, _, .tail _ (.head _) => exact ⟨.ref f, by rfl, rfl⟩
      | _, _, .tail _ (.tail _ (.head _)) => exact ⟨w1, by rfl, hch⟩
      | _, _, .tail _ (.tail _ (.tail _ (.head _))) => exact ⟨w2, by rfl, htl⟩
    · obtain ⟨vs, ⟨n, e⟩, p⟩ := hl
      exact ⟨vs, ⟨n, Heap.get?_push_of_some _ (hkp _ _ e)⟩, p⟩
    · obtain ⟨o, g, hc⟩ := named_lt ok' nm
      have h1 : c < (h₁.push oI).objs.size := Heap.lt_size g
      rw [Heap.size_push] at h1
      refine Nat.lt_of_le_of_ne (Nat.le_of_lt_succ h1) fun z => ?_
      obtain ⟨o', _, _, g', hc', _⟩ := hI
      rw [show c = h₁.objs.size from z] at g
      rw [show (h₁.push oI).get? h₁.objs.size = some o from g] at g'
      cases g'
      rw [hc] at hc'; simp at hc'
    · rcases List.mem_cons.mp m with m | m
      · obtain ⟨o, _, _, e, _⟩ := hn; exact ⟨o, Heap.get?_push_of_some _ (m ▸ e)⟩
      · obtain ⟨o, e⟩ := hX.2 a m; exact ⟨o, Heap.get?_push_of_some _ (hkp _ _ e)⟩
  exact ⟨k, rfl, K, rfl, Nat.le_refl _, rfl, rfl, fun A rm => gen_st K gs rm S hI (by simp [k])⟩
end
end
section

theorem get_none {h h' : Heap} {a : Addr} (k : ∀ b o, h.get? b = some o → h'.get? b = some o) (n : h'.get? a = none) : h.get? a = none := by
  cases e : h.get? a with
  | none => rfl
  | some o => rw [k _ _ e] at n; cases n

theorem GenAt.from {G : Gl} {D I : Addr} {Fr : List Addr} {out : List Int} {s s₁ s' : Shared} (x : GenAt G D Fr out s₁ s' I) (k : Step G false [] s s₁) : GenAt G D Fr out s s' I := by
  have kp : ∀ b o, s.heap.get? b = some o → s₁.heap.get? b = some o := fun b o e => k.keep b o (by simp) e
  obtain ⟨st, L, h1, h2, h3, h4, h5, h6, h7, r⟩ := x
  have g : s₁.gens = s.gens := k.gens
  rw [g] at r
  exact ⟨k.up.trans st, L, get_none kp h1, h2, h3, get_none kp h4, h5, h6, h7, r⟩

theorem GenSt.move {k : Gc} {A : Around} {I g i : Nat} {s s' : Shared} (K : k.Ok) (S : GenSt k A I g i s) (ok : k.G.Ok s') (kI : ∀ o, s.heap.get? I = some o → s'.heap.get? I = some o) (kp : ∀ b o, b < k.nc → s.heap.get? b = some o → (b ∉ k.Fr → s'.heap.get? b = some o) ∧ ∃ o', s'.heap.get? b = some o') (hg : s'.gens[g]? = s.gens[g]?) : GenSt k A I g i s' := by
  obtain ⟨a, b, c, pv, gs, e, h⟩ := S
  refine ⟨isGen_keeps a kI, ok, fun c' n => c c' (named_step b (fun b o l e => (kp b o (Nat.lt_trans (Nat.lt_of_lt_of_le l K.lv.2.1) K.lv.2.2) e).1 fun m => Nat.lt_irrefl _ (Nat.lt_of_lt_of_le l (K.fr b m).2.2.2.1)) n), fun b hb => let ⟨o, e⟩ := pv b hb; (kp b o (by
    rcases List.mem_cons.mp hb with m | m
    · rw [m]; exact K.L.2.2
    · rw [List.mem_singleton.mp m]; exact K.lv.2.2) e).2, gs, by rw [hg]; exact e, fun s'' al => h s'' ⟨al.1, fun b o l e => ?_⟩⟩
  obtain ⟨h1, o', h2⟩ := kp b o l e
  obtain ⟨h3, h4⟩ := al.2 b o' l h2
  refine ⟨fun n => ?_, h4⟩
  have := h1 n
  rw [this] at h2; cases h2
  exact h3 n

theorem AllP.four {P P' P'' Q : AV} {vs : List Value} {h : Heap} (a : AllP [P, P', P'', Q] vs h) : ∃ v u w x, vs = [v, u, w, x] ∧ P.p v h ∧ P'.p u h ∧ P''.p w h ∧ Q.p x h := match vs, a with | [v, u, w, x], ⟨p, p', p'', q, _⟩ => ⟨v, u, w, x, rfl, p, p', p'', q⟩
section
variable {G : Gl} {C : Addr} {sg : List Int} {big : Bool}

/-- what the two dispatchers ask of the closure -/
structure ClosAt (G : Gl) (X : List Addr) (s : Shared) (D f : Addr) (rd : Int → Value → Prop) (data : List Int) (fix : List (Addr × Obj)) (Fr : List Addr) : Prop where
  mem : D ∈ X ∧ G.h₀.objs.size ≤ D
  lst : ListOf rd D data s.heap
  fn : ∃ fd, (f, ({ cls := .type "function", data := .func fd } : Obj)) ∈ fix
  objs : ∀ p ∈ fix, s.heap.get? p.1 = some p.2 ∧ p.1 ≠ D
  fr : ∀ b ∈ Fr, b ∈ X ∧ b ≠ D ∧ G.h₀.objs.size ≤ b ∧ ∀ p ∈ fix, p.1 ≠ b
  next : ∀ k : Gc, k.G = G → k.Ok → k.lv = D → k.rd = rd → k.fix = fix → (∀ b o, (view X s.heap).get? b = some o → k.B.get? b = some o) → NextV k f

theorem ClosAt.step {X Y : List Addr} {s s' : Shared} {D f : Addr} {rd : Int → Value → Prop} {data : List Int} {fix : List (Addr × Obj)} {Fr : List Addr} (x : ClosAt G X s D f rd data fix Fr) (kp : ∀ b o, s.heap.get? b = some o → s'.heap.get? b = some o) (hn : ∀ a ∈ Y, s.heap.get? a = none) : ClosAt G (Y ++ X) s' D f rd data fix Fr := by
  refine ⟨⟨List.mem_append_right _ x.mem.1, x.mem.2⟩, ?_, x.fn, fun p h => ⟨kp _ _ (x.objs p h).1, (x.objs p h).2⟩, fun b h => ⟨List.mem_append_right _ (x.fr b h).1, (x.fr b h).2⟩, fun k h1 h2 h3 h4 h5 h6 => x.next k h1 h2 h3 h4 h5 fun b o e => h6 b o ?_⟩
  · obtain ⟨vs, ⟨n, e⟩, p⟩ := x.lst
    exact ⟨vs, ⟨n, kp _ _ e⟩, p⟩
  · obtain ⟨g, n⟩ := view_of e
    refine view_get (kp _ _ g) fun m => ?_
    rcases List.mem_append.mp m with m | m
    · rw [hn b m] at g; cases g
    · exact n m

set_option maxHeartbeats 400000 in
theorem disp71 (W : Wd G C) {A : Around} {X : List Addr} {s : Shared} {vs : List Value} {D f : Addr} {data : List Int} {fix : List (Addr × Obj)} {Fr : List Addr} {Z : Result → Shared → Prop} (rm : Rm A 2) (ok : G.Ok s) (hX : Priv G X s)
    (hv : AllP [aEng C sg big, aVal (.ref f), aInt (data.length / 3 : Nat), aInt (data.length % 3 : Nat)] vs (view X s.heap)) (cl : ClosAt G X s D f rdE data fix Fr) (hb : ∀ x ∈ data, 0 ≤ x ∧ x < 256)
    (h : ∀ I s', GenAt G D Fr (outE big data) s s' I → Z (.ok (.ret (.ref I))) s') : codeAny (model G.prog G.w) A (.call (.ref 71) ⟨vs, []⟩) Z s := by
  refine fn_enter (fl := false) (xs := ["self", "next_value", "chunks", "tail"]) (σ := ⟨[("self", aEng C sg big), ("next_value", aVal (.ref f)), ("chunks", aInt (data.length / 3 : Nat)), ("tail", aInt (data.length % 3 : Nat))], []⟩) W.m71.2.2 rfl rfl (fun s vs _ hl => .of_eq ?_) rfl (by decide) (by rfl) (by rfl) (fun L p hp => nomatch hp) rfl rfl rfl (by have := rm.d; omega) ok hX hv fun s₁ S₁ st nn => ?_
  · match vs, hl with
    | [a, b, c, d], _ => rfl
  have goB : ∀ (e : big = true) (vs : List Value) (s₃ : Shared), Sat (fxOf G A false fd71 71 s.heap.objs.size) ⟨[("self", aEng C sg big), ("next_value", aVal (.ref f)), ("chunks", aInt (data.length / 3 : Nat)), ("tail", aInt (data.length % 3 : Nat))], []⟩ ((fxOf G A false fd71 71 s.heap.objs.size).own ++ X) s₃ → Step G false [] s s₃ →
      AllP [aEng C sg big, aVal (.ref f), aInt (data.length / 3 : Nat), aInt (data.length % 3 : Nat)] vs (view ((fxOf G A false fd71 71 s.heap.objs.size).own ++ X) s₃.heap) → ∀ Z' : Result → Shared → Prop, (∀ I s', GenAt G D Fr (outE big data) s s' I → Z' (.ok (.ret (.ref I))) s') → codeAny (model G.prog G.w) (A.deeper (callEnvC fd71 s.heap.objs.size 71)) (.call (.ref 105) ⟨vs, []⟩) Z' s₃ := by
    intro e vs s₃ S₃ k₃ hv Z' h'
    obtain ⟨u, v, w1, w2, rfl, _, hv, h1, h2⟩ := hv.four
    have hv : v = .ref f := hv
    subst hv
    have cl₃ := cl.step (s' := s₃) (fun b o e => k₃.keep b o (by simp) e) nn
    refine gen_call (fix := fix) (Fr := Fr) (data := data) (out := outE big data) (rd := rdE) (body := bd (nth clsBody 11)) W.m105.2.2 (Rm.deeper rm) S₃.ok S₃.priv cl₃.mem.1 cl₃.mem.2 rfl rfl rfl (by decide +kernel) (by decide +kernel) rfl rfl rfl h1 h2 cl₃.lst cl₃.objs cl₃.fr (fun k => ?_) fun I s' g => h' I s' (g.from k₃)
    obtain ⟨G', env', lv', B', Xg', rd', items', nc', fix', Fr'⟩ := k
    intro e1 K e2 e3 e4 e5 e6 e7 hB
    simp only at e1 e2 e3 e4 e5 e6 e7
    subst e1 e2 e3 e4 e5 e6 e7
    have N := cl₃.next _ rfl K rfl rfl rfl hB
    have := wholeEB K N cl₃.fn (σs := aVal u) data hb
    rw [show bodyEB data ++ tailEB (last3 data) = outE big data by rw [e]; rfl] at this
    exact this
  have goL : ∀ (e : big = false) (vs : List Value) (s₃ : Shared), Sat (fxOf G A false fd71 71 s.heap.objs.size) ⟨[("self", aEng C sg big), ("next_value", aVal (.ref f)), ("chunks", aInt (data.length / 3 : Nat)), ("tail", aInt (data.length % 3 : Nat))], []⟩ ((fxOf G A false fd71 71 s.heap.objs.size).own ++ X) s₃ → Step G false [] s s₃ →
      AllP [aEng C sg big, aVal (.ref f), aInt (data.length / 3 : Nat), aInt (data.length % 3 : Nat)] vs (view ((fxOf G A false fd71 71 s.heap.objs.size).own ++ X) s₃.heap) → ∀ Z' : Result → Shared → Prop, (∀ I s', GenAt G D Fr (outE big data) s s' I → Z' (.ok (.ret (.ref I))) s') → codeAny (model G.prog G.w) (A.deeper (callEnvC fd71 s.heap.objs.size 71)) (.call (.ref 98) ⟨vs, []⟩) Z' s₃ := by
    intro e vs s₃ S₃ k₃ hv Z' h'
    obtain ⟨u, v, w1, w2, rfl, _, hv, h1, h2⟩ := hv.four
    have hv : v = .ref f := hv
    subst hv
    have cl₃ := cl.step (s' := s₃) (fun b o e => k₃.keep b o (by simp) e) nn
    refine gen_call (fix := fix) (Fr := Fr) (data := data) (out := outE big data) (rd := rdE) (body := bd (nth clsBody 10)) W.m98.2.2 (Rm.deeper rm) S₃.ok S₃.priv cl₃.mem.1 cl₃.mem.2 rfl rfl rfl (by decide +kernel) (by decide +kernel) rfl rfl rfl h1 h2 cl₃.lst cl₃.objs cl₃.fr (fun k => ?_) fun I s' g => h' I s' (g.from k₃)
    obtain ⟨G', env', lv', B', Xg', rd', items', nc', fix', Fr'⟩ := k
    intro e1 K e2 e3 e4 e5 e6 e7 hB
    simp only at e1 e2 e3 e4 e5 e6 e7
    subst e1 e2 e3 e4 e5 e6 e7
    have N := cl₃.next _ rfl K rfl rfl rfl hB
    have := wholeEL K N cl₃.fn (σs := aVal u) data hb
    rw [show bodyEL data ++ tailEL (last3 data) = outE big data by rw [e]; rfl] at this
    exact this
  cases big with
  | true =>
    refine wpAny_execs_cons (wpAny_If (Tr.val (Ev.big (Ev.loc (x := "self") (.head _) (by rfl) rfl (by decide)) W.cls (by rfl)) TrV.bool (by rfl) _ s₁ S₁ _ _ fun s₂ k₂ => ?_))
    rw [if_pos rfl]
    exact wpAny_execs_cons (wpAny_Return_some (meth_raw (S₁.step k₂) (Ev.loc (x := "self") (.head _) (by rfl) rfl (by decide)) (.cons (Ev.loc (x := "next_value") (.tail _ (.head _)) (by rfl) rfl (by decide)) rfl (.cons (Ev.loc (x := "chunks") (.tail _ (.tail _ (.head _))) (by rfl) rfl (by decide)) rfl (.cons (Ev.loc (x := "tail") (.tail _ (.tail _ (.tail _ (.head _)))) (by rfl) rfl (by decide)) rfl .nil))) W.cls W.m105.1 W.m105.2.1 W.m105.2.2 (fun _ _ _ _ _ _ _ _ _ => rfl) rfl (by decide) rfl fun vs s₃ S₃ k₃ hv => wpAny_call (goB rfl vs s₃ S₃ (st.trans (k₂.trans k₃)) hv _ h)))
  | false =>
    refine wpAny_execs_cons (wpAny_If (Tr.val (Ev.big (Ev.loc (x := "self") (.head _) (by rfl) rfl (by decide)) W.cls (by rfl)) TrV.bool (by rfl) _ s₁ S₁ _ _ fun s₂ k₂ => ?_))
    rw [if_neg Bool.false_ne_true]
    refine wpAny_execs_nil ?_
    exact wpAny_execs_cons (wpAny_Return_some (meth_raw (S₁.step k₂) (Ev.loc (x := "self") (.head _) (by rfl) rfl (by decide)) (.cons (Ev.loc (x := "next_value") (.tail _ (.head _)) (by rfl) rfl (by decide)) rfl (.cons (Ev.loc (x := "chunks") (.tail _ (.tail _ (.head _))) (by rfl) rfl (by decide)) rfl (.cons (Ev.loc (x := "tail") (.tail _ (.tail _ (.tail _ (.head _)))) (by rfl) rfl (by decide)) rfl .nil))) W.cls W.m98.1 W.m98.2.1 W.m98.2.2 (fun _ _ _ _ _ _ _ _ _ => rfl) rfl (by decide) rfl fun vs s₃ S₃ k₃ hv => wpAny_call (goL rfl vs s₃ S₃ (st.trans (k₂.trans k₃)) hv _ h)))
set_option maxHeartbeats 400000 in
theorem disp78 (W : Wd G C) {A : Around} {X : List Addr} {s : Shared} {vs : List Value} {D f : Addr} {data : List Int} {fix : List (Addr × Obj)} {Fr : List Addr} {Z : Result → Shared → Prop} (rm : Rm A 2) (ok : G.Ok s) (hX : Priv G X s)
    (hv : AllP [aEng C sg big, aVal (.ref f), aInt (data.length / 4 : Nat), aInt (data.length % 4 : Nat)] vs (view X s.heap)) (cl : ClosAt G X s D f (rdD sg) data fix Fr) (hb : ∀ x ∈ data, 0 ≤ x ∧ x < 64) (ht : data.length % 4 ≠ 1)
    (h : ∀ I s', GenAt G D Fr (outD big data) s s' I → Z (.ok (.ret (.ref I))) s') : codeAny (model G.prog G.w) A (.call (.ref 78) ⟨vs, []⟩) Z s := by
  refine fn_enter (fl := false) (xs := ["self", "next_value", "chunks", "tail"]) (σ := ⟨[("self", aEng C sg big), ("next_value", aVal (.ref f)), ("chunks", aInt (data.length / 4 : Nat)), ("tail", aInt (data.length % 4 : Nat))], []⟩) W.m78.2.2 rfl rfl (fun s vs _ hl => .of_eq ?_) rfl (by decide) (by rfl) (by rfl) (fun L p hp => nomatch hp) rfl rfl rfl (by have := rm.d; omega) ok hX hv fun s₁ S₁ st nn => ?_
  · match vs, hl with
    | [a, b, c, d], _ => rfl
  have goB : ∀ (e : big = true) (vs : List Value) (s₃ : Shared), Sat (fxOf G A false fd78 78 s.heap.objs.size) ⟨[("self", aEng C sg big), ("next_value", aVal (.ref f)), ("chunks", aInt (data.length / 4 : Nat)), ("tail", aInt (data.length % 4 : Nat))], []⟩ ((fxOf G A false fd78 78 s.heap.objs.size).own ++ X) s₃ → Step G false [] s s₃ →
      AllP [aEng C sg big, aVal (.ref f), aInt (data.length / 4 : Nat), aInt (data.length % 4 : Nat)] vs (view ((fxOf G A false fd78 78 s.heap.objs.size).own ++ X) s₃.heap) → ∀ Z' : Result → Shared → Prop, (∀ I s', GenAt G D Fr (outD big data) s s' I → Z' (.ok (.ret (.ref I))) s') → codeAny (model G.prog G.w) (A.deeper (callEnvC fd78 s.heap.objs.size 78)) (.call (.ref 126) ⟨vs, []⟩) Z' s₃ := by
    intro e vs s₃ S₃ k₃ hv Z' h'
    obtain ⟨u, v, w1, w2, rfl, _, hv, h1, h2⟩ := hv.four
    have hv : v = .ref f := hv
    subst hv
    have cl₃ := cl.step (s' := s₃) (fun b o e => k₃.keep b o (by simp) e) nn
    refine gen_call (fix := fix) (Fr := Fr) (data := data) (out := outD big data) (rd := (rdD sg)) (body := bd (nth clsBody 14)) W.m126.2.2 (Rm.deeper rm) S₃.ok S₃.priv cl₃.mem.1 cl₃.mem.2 rfl rfl rfl (by decide +kernel) (by decide +kernel) rfl rfl rfl h1 h2 cl₃.lst cl₃.objs cl₃.fr (fun k => ?_) fun I s' g => h' I s' (g.from k₃)
    obtain ⟨G', env', lv', B', Xg', rd', items', nc', fix', Fr'⟩ := k
    intro e1 K e2 e3 e4 e5 e6 e7 hB
    simp only at e1 e2 e3 e4 e5 e6 e7
    subst e1 e2 e3 e4 e5 e6 e7
    have N := cl₃.next _ rfl K rfl rfl rfl hB
    have := wholeDB K N cl₃.fn (σs := aVal u) data hb ht
    rw [show bodyDB data ++ tailDB (last4 data) = outD big data by rw [e]; rfl] at this
    exact this
  have goL : ∀ (e : big = false) (vs : List Value) (s₃ : Shared), Sat (fxOf G A false fd78 78 s.heap.objs.size) ⟨[("self", aEng C sg big), ("next_value", aVal (.ref f)), ("chunks", aInt (data.length / 4 : Nat)), ("tail", aInt (data.length % 4 : Nat))], []⟩ ((fxOf G A false fd78 78 s.heap.objs.size).own ++ X) s₃ → Step G false [] s s₃ →
      AllP [aEng C sg big, aVal (.ref f), aInt (data.length / 4 : Nat), aInt (data.length % 4 : Nat)] vs (view ((fxOf G A false fd78 78 s.heap.objs.size).own ++ X) s₃.heap) → ∀ Z' : Result → Shared → Prop, (∀ I s', GenAt G D Fr (outD big data) s s' I → Z' (.ok (.ret (.ref I))) s') → codeAny (model G.prog G.w) (A.deeper (callEnvC fd78 s.heap.objs.size 78)) (.call (.ref 119) ⟨vs, []⟩) Z' s₃ := by
    intro e vs s₃ S₃ k₃ hv Z' h'
    obtain ⟨u, v, w1, w2, rfl, _, hv, h1, h2⟩ := hv.four
    have hv : v = .ref f := hv
    subst hv
    have cl₃ := cl.step (s' := s₃) (fun b o e => k₃.keep b o (by simp) e) nn
    refine gen_call (fix := fix) (Fr := Fr) (data := data) (out := outD big data) (rd := (rdD sg)) (body := bd (nth clsBody 13)) W.m119.2.2 (Rm.deeper rm) S₃.ok S₃.priv cl₃.mem.1 cl₃.mem.2 rfl rfl rfl (by decide +kernel) (by decide +kernel) rfl rfl rfl h1 h2 cl₃.lst cl₃.objs cl₃.fr (fun k => ?_) fun I s' g => h' I s' (g.from k₃)
    obtain ⟨G', env', lv', B', Xg', rd', items', nc', fix', Fr'⟩ := k
    intro e1 K e2 e3 e4 e5 e6 e7 hB
    simp only at e1 e2 e3 e4 e5 e6 e7
    subst e1 e2 e3 e4 e5 e6 e7
    have N := cl₃.next _ rfl K rfl rfl rfl hB
    have := wholeDL K N cl₃.fn (σs := aVal u) data hb ht
    rw [show bodyDL data ++ tailDL (last4 data) = outD big data by rw [e]; rfl] at this
    exact this
  cases big with
  | true =>
    refine wpAny_execs_cons (wpAny_If (Tr.val (Ev.big (Ev.loc (x := "self") (.head _) (by rfl) rfl (by decide)) W.cls (by rfl)) TrV.bool (by rfl) _ s₁ S₁ _ _ fun s₂ k₂ => ?_))
    rw [if_pos rfl]
    exact wpAny_execs_cons (wpAny_Return_some (meth_raw (S₁.step k₂) (Ev.loc (x := "self") (.head _) (by rfl) rfl (by decide)) (.cons (Ev.loc (x := "next_value") (.tail _ (.head _)) (by rfl) rfl (by decide)) rfl (.cons (Ev.loc (x := "chunks") (.tail _ (.tail _ (.head _))) (by rfl) rfl (by decide)) rfl (.cons (Ev.loc (x := "tail") (.tail _ (.tail _ (.tail _ (.head _)))) (by rfl) rfl (by decide)) rfl .nil))) W.cls W.m126.1 W.m126.2.1 W.m126.2.2 (fun _ _ _ _ _ _ _ _ _ => rfl) rfl (by decide) rfl fun vs s₃ S₃ k₃ hv => wpAny_call (goB rfl vs s₃ S₃ (st.trans (k₂.trans k₃)) hv _ h)))
  | false =>
    refine wpAny_execs_cons (wpAny_If (Tr.val (Ev.big (Ev.loc (x := "self") (.head _) (by rfl) rfl (by decide)) W.cls (by rfl)) TrV.bool (by rfl) _ s₁ S₁ _ _ fun s₂ k₂ => ?_))
    rw [if_neg Bool.false_ne_true]
    refine wpAny_execs_nil ?_
    exact wpAny_execs_cons (wpAny_Return_some (meth_raw (S₁.step k₂) (Ev.loc (x := "self") (.head _) (by rfl) rfl (by decide)) (.cons (Ev.loc (x := "next_value") (.tail _ (.head _)) (by rfl) rfl (by decide)) rfl (.cons (Ev.loc (x := "chunks") (.tail _ (.tail _ (.head _))) (by rfl) rfl (by decide)) rfl (.cons (Ev.loc (x := "tail") (.tail _ (.tail _ (.tail _ (.head _)))) (by rfl) rfl (by decide)) rfl .nil))) W.cls W.m119.1 W.m119.2.1 W.m119.2.2 (fun _ _ _ _ _ _ _ _ _ => rfl) rfl (by decide) rfl fun vs s₃ S₃ k₃ hv => wpAny_call (goL rfl vs s₃ S₃ (st.trans (k₂.trans k₃)) hv _ h)))
end
end
section

theorem Sat.lo {c : Fx} {σ : St} {X : List Addr} {s : Shared} {b : Bool} (S : Sat c σ X s) : Sat { c with fl := b } σ X s := ⟨S.ok, S.tabs, S.own, S.live, S.L, S.loc, S.cel, S.put, S.inj⟩
/-- a new object is hidden -/
theorem Sat.hideT {c : Fx} {σ : St} {X : List Addr} {s s₂ : Shared} {I : Addr} (S : Sat c σ X s) (k : Step c.G true [] s s₂) (hI : s.heap.get? I = none) (hl : ∃ o, s₂.heap.get? I = some o) : Sat c σ (I :: X) s₂ := by
  have S' : Sat { c with fl := true } σ X s := S.lo
  have S₂' := S'.step (k.more fun _ m => nomatch m)
  have S₂ : Sat c σ X s₂ := S₂'.lo (b := c.fl)
  have vw : ∀ b o, (Mine.view X s.heap).get? b = some o → (Mine.view (I :: X) s₂.heap).get? b = some o := fun b o e => by
    obtain ⟨g, n⟩ := view_of e
    refine view_get (k.keep _ _ (by simp) g) fun z => ?_
    rcases List.mem_cons.mp z with z | z
    · rw [z, hI] at g; cases g
    · exact n z
  refine ⟨S₂.ok, fun t h => .tail _ (S.tabs t h), fun a h => ⟨.tail _ (S.own a h).1, (S.own a h).2⟩, fun a h => ?_, S.L, ?_, fun y P h => ?_, S₂.put, S.inj⟩
  · rcases List.mem_cons.mp h with h | h
    · exact h ▸ hl
    · exact S₂.live a h
  · obtain ⟨m, n, h⟩ := S.loc
    exact ⟨m, ns_keeps (fun o e => k.keep _ _ (by simp) e) n, fun y P hy => let ⟨v, e, hp⟩ := h y P hy; ⟨v, e, P.mono vw hp⟩⟩
  · obtain ⟨a, v, e, l, g, hp⟩ := S.cel y P h
    exact ⟨a, v, e, l, cell_keeps (fun o q => k.keep _ _ (by simp) q) g, P.mono vw hp⟩
/-- private objects turned; they are dropped -/
theorem Sat.drop {c : Fx} {σ : St} {X Y : List Addr} {s s' : Shared} (S : Sat c σ (Y ++ X) s) (kp : ∀ b o, b ∉ Y → s.heap.get? b = some o → s'.heap.get? b = some o) (ok : c.G.Ok s') (hY : ∀ b ∈ Y, b ∉ X ∧ ∃ o, s.heap.get? b = some o ∧ ∀ v, o.data ≠ .cell v) (hT : ∀ t ∈ c.G.T, t ∈ X) (ho : ∀ a ∈ c.own, a ∈ X) : Sat c σ X s' := by
  have vw : ∀ b o, (Mine.view (Y ++ X) s.heap).get? b = some o → (Mine.view X s'.heap).get? b = some o := fun b o e => by
    obtain ⟨g, n⟩ := view_of e
    exact view_get (kp b o (fun z => n (List.mem_append_left _ z)) g) fun z => n (List.mem_append_right _ z)
  have kc : ∀ a o v, o.data = .cell v → s.heap.get? a = some o → s'.heap.get? a = some o := fun a o v d e => kp _ _ (fun z => by
    obtain ⟨_, o', e', d'⟩ := hY a z
    rw [e'] at e; cases e; exact d' _ d) e
  refine ⟨ok, hT, fun a h => ⟨ho a h, (S.own a h).2⟩, fun a h => ?_, S.L, ?_, fun y P h => ?_, fun y h => ?_, S.inj⟩
  · obtain ⟨o, e⟩ := S.live a (List.mem_append_right _ h)
    exact ⟨o, kp _ _ (fun z => (hY a z).1 h) e⟩
  · obtain ⟨m, n, h⟩ := S.loc
    exact ⟨m, ns_keeps (fun o e => kp _ _ (fun z => (hY _ z).1 (ho _ S.L)) e) n, fun y P hy => let ⟨v, e, hp⟩ := h y P hy; ⟨v, e, P.mono vw hp⟩⟩
  · obtain ⟨a, v, e, l, ⟨o, g, d⟩, hp⟩ := S.cel y P h
    exact ⟨a, v, e, l, ⟨o, kc _ _ _ d g, d⟩, P.mono vw hp⟩
  · obtain ⟨a, v, e, l, o, g, d⟩ := S.put y h
    exact ⟨a, v, e, l, o, kc _ _ _ d g, d⟩

theorem ints_paired : ∀ {vs : List Value} {ns : List Int}, IntsAre vs ns → Paired rdE ns vs
  | _, _, .nil => .nil
  | _, _, .cons n t h => .cons ⟨t, rfl⟩ (ints_paired h)

theorem off_own {c : Fx} {σ : St} {X : List Addr} {s : Shared} {D : Addr} (S : Sat c σ X s) (h : D ∉ X) : D ∉ c.own ++ c.T := fun m => by
  rcases List.mem_append.mp m with m | m
  · exact h (S.own D m).1
  · exact h (S.tabs D (mem_T m))

/-- no frame of ours holds a code -/
theorem code_off {G : Gl} {A : Around} {fl : Bool} {fd : FuncData} {f L : Addr} {σ : St} {X : List Addr} {s : Shared} (S : Sat (fxOf G A fl fd f L) σ X s) {a : Addr} {o : Obj} {q : Str} (g : s.heap.get? a = some o) (hc : CodeObj o q) : a ∉ (fxOf G A fl fd f L).own ++ (fxOf G A fl fd f L).T := fun m => by
  obtain ⟨vs, tk, c1, c2, _⟩ := hc
  rcases List.mem_append.mp m with m | m
  · rcases List.mem_cons.mp m with m | m
    · obtain ⟨m', ⟨o', _, _, e, d, _⟩, _⟩ := S.loc
      rw [m] at g
      rw [show (fxOf G A fl fd f L).env.locals = L from rfl, g] at e; cases e
      rw [c2] at d; cases d
    · obtain ⟨p, hp, e⟩ := List.mem_filterMap.mp m
      obtain ⟨a', v, e', _, o', g', d'⟩ := S.put p.1 (List.mem_map.mpr ⟨p, hp, rfl⟩)
      rw [show (fxOf G A fl fd f L).env.cells.lookup p.1 = some a from e] at e'
      cases e'
      rw [g] at g'; cases g'
      rw [c2] at d'; cases d'
  · obtain ⟨t, ht, rfl⟩ := List.mem_map.mp (mem_T m)
    obtain ⟨_, _, _, _, ⟨_, tp⟩, _⟩ := S.ok.tabs t ht
    rw [g] at tp; cases tp; cases c1

section
variable {G : Gl} {C : Addr} {sg : List Int} {big : Bool}
def encB (sg : List Int) (big : Bool) (ks : List Int) : List Int := (outE big ks).map fun v => sg.getD v.toNat 0

/-- behind the def's making: the list, the closure -/
structure Ready (c : Fx) (σ : St) (X : List Addr) (D f : Addr) (rd : Int → Value → Prop) (data : List Int) (fix : List (Addr × Obj)) (Fr : List Addr) (s s' : Shared) : Prop where
  sat : Sat c σ (D :: X) s'
  step : Step c.G true (D :: (c.own ++ c.G.T)) s s'
  clos : ClosAt c.G (D :: X) s' D f rd data fix Fr
  new : s.heap.get? D = none

set_option maxHeartbeats 1000000 in
theorem enc_ready (W : Wd G C) {A : Around} {L : Addr} {ks : List Int} {n t : Int} {X : List Addr} {s : Shared} (rm : Rm A 5) (hz : ks.length ≤ 1000)
    (S : Sat (fxOf G A true fd91 91 L) ⟨[("source", aByt ks), ("chunks", aInt n), ("tail", aInt t)], [("self", aEng C sg big)]⟩ X s) {rest : List Stmt} {Q : Flow → Shared → Prop} {E : Value → Shared → Prop}
    (h : ∀ D f fix s', Ready (fxOf G A true fd91 91 L) ⟨[("source", aByt ks), ("chunks", aInt n), ("tail", aInt t), ("next_value", aVal (.ref f))], [("self", aEng C sg big)]⟩ X D f rdE ks fix [L] s s' → wpAny (model G.prog G.w) (A.deeper (callEnvC fd91 L 91)) (execs rest (callEnvC fd91 L 91)) Q E s') :
    wpAny (model G.prog G.w) (A.deeper (callEnvC fd91 L 91)) (execs (nth (bd (nth clsBody 9)) 2 :: nth (bd (nth clsBody 9)) 3 :: rest) (callEnvC fd91 L 91)) Q E s := by
  refine wpAny_execs_cons (wpAny_Assign_Name (call1 S (Ev.bi W.list (by rfl) rfl rfl rfl (by decide)) KeepsIt.type rfl fun s₁ S₁ k₁ => Ev.loc (x := "source") (.head _) (by rfl) rfl (by decide) X s₁ S₁ _ _ fun v s₂ k₂ p₂ => ?_) rfl)
  obtain ⟨b, tb, rfl, eb⟩ := p₂
  have S₂ := S₁.step k₂
  refine ⟨S₂.ok, list_bytes rm.h (by rw [sizeLine_eq]; omega) eb S₂.ok fun s₃ vs k₃ pl ia => ?_⟩
  have hDX : s₂.heap.objs.size ∉ X := S₂.new_off (Nat.le_refl _)
  have hD0 : G.h₀.objs.size ≤ s₂.heap.objs.size := S₂.ok.low
  have hDn : s.heap.get? s₂.heap.objs.size = none := by
    cases e : s.heap.get? s₂.heap.objs.size with
    | none => rfl
    | some o =>
      have := (k₁.trans k₂).keep _ _ (fun m => off_own S hDX (List.mem_append_right _ m)) e
      exact absurd (Heap.lt_size this) (Nat.lt_irrefl _)
  generalize hDe : s₂.heap.objs.size = D at pl hDX hD0 hDn
  have S₃ : Sat (fxOf G A true fd91 91 L) _ (D :: X) s₃ := S₂.hide k₃ (Nat.le_of_eq hDe) ⟨_, pl.choose_spec⟩
  have offD : D ∉ (fxOf G A true fd91 91 L).own ++ (fxOf G A true fd91 91 L).T := off_own S hDX
  refine (Sto.cel (c := fxOf G A true fd91 91 L) (x := "values") (P := aVal (.ref D)) rfl (by rfl) (.head _)) (D :: X) s₃ (.ref D) S₃ rfl _ _ fun s₄ k₄ S₄ => ?_
  refine wpAny_execs_cons (nestDef_K rfl rfl rfl (make_fn (t := tabE) W.tE (q := ("values", L + 2)) (r := []) rfl rfl rfl S₄.ok fun c' ctv doc f s₅ k₅ hf hfo hcd hnm => ?_))
  have S₅ := S₄.step k₅
  have hfX : f ∉ D :: X := S₄.new_off hf
  refine (Sto.loc (c := fxOf G A true fd91 91 L) (x := "next_value") (P := aVal (.ref f)) rfl (by rfl)) (D :: X) s₅ (.ref f) S₅ rfl _ _ fun s₆ k₆ S₆ => ?_
  obtain ⟨co, hco, hcq⟩ := hcd.obj
  obtain ⟨a, v, ea, _, ⟨xo, hx, hxd⟩, hv⟩ := S₆.cel "values" (aVal (.ref D)) (.tail _ (.head _))
  have hv : v = .ref D := hv
  subst hv
  have ea : L + 2 = a := Option.some.inj ea
  subst ea
  have plD : ∀ {s' : Shared} {s'' : Shared} {fl : Bool} {Y : List Addr}, Step G fl Y s' s'' → D ∉ Y → s'.heap.PlainList D vs.toArray → s''.heap.PlainList D vs.toArray := fun k n ⟨m, e⟩ => ⟨m, k.keep _ _ n e⟩
  have pl₆ : s₆.heap.PlainList D vs.toArray := plD k₆ offD (plD k₅ (fun m => offD (List.mem_append_right _ m)) (plD k₄ offD pl))
  have hDo : ∃ m, s₆.heap.get? D = some { cls := .type "list", data := .seq vs.toArray m } := pl₆
  obtain ⟨mD, hDo⟩ := hDo
  have hf₆ : s₆.heap.get? f = _ := k₆.keep _ _ (off_own (X := D :: X) S₅ hfX) hfo
  have hc₆ : s₆.heap.get? c' = _ := k₆.keep _ _ (code_off S₅ hco hcq) hco
  have LX : L ∈ D :: X := (S₆.own L (.head _)).1
  have LD : L ≠ D := fun z => hDX (z ▸ (S.own L (.head _)).1)
  obtain ⟨mL, ⟨oL, _, _, eL, dL, _⟩, _⟩ := S₆.loc
  have eL : s₆.heap.get? L = some oL := eL
  have fo : s₆.heap.get? f = some (fnMade "next_value" tabE.qual (prm nvE) (bd nvE) (scp nvE) [("values", L + 2)] doc ((G.mg "__name__").getD .none) c' ctv) := hf₆
  refine h D f [(f, fnMade "next_value" tabE.qual (prm nvE) (bd nvE) (scp nvE) [("values", L + 2)] doc ((G.mg "__name__").getD .none) c' ctv), (c', co), (L + 2, xo)] s₆ ⟨S₆.weaken (fun p hp => hp) (fun p hp => ?_), ?_, ⟨⟨.head _, hD0⟩, ⟨vs, pl₆, ints_paired ia, by omega⟩, ⟨_, .head _⟩, fun p hp => ?_, fun b hb => ?_, fun k e1 K e2 e3 e4 e5 => ?_⟩, hDn⟩
  · cases hp with
    | head => exact .head _
    | tail _ h => cases h
  · have t1 : Step G true (D :: ((fxOf G A true fd91 91 L).own ++ G.T)) s s₃ := ((k₁.trans k₂).more (fun a m => .tail _ (T_own a m))).trans ((k₃.up).more fun a m => nomatch m)
    exact (t1.trans (k₄.more fun a m => .tail _ m)).trans ((k₅.more fun a m => .tail _ (List.mem_append_right _ m)).trans (k₆.more fun a m => .tail _ m))
  · match p, hp with
    | _, .head _ => exact ⟨fo, fun z => hfX (z ▸ .head _)⟩
    | _, .tail _ (.head _) =>
      refine ⟨hc₆, fun z => ?_⟩
      obtain ⟨_, _, _, d, _⟩ := hcq
      rw [show c' = D from z, hDo] at hc₆; cases hc₆; cases d
    | _, .tail _ (.tail _ (.head _)) =>
      refine ⟨hx, fun z => ?_⟩
      rw [show L + 2 = D from z, hDo] at hx; cases hx; cases hxd
  · rw [List.mem_singleton.mp hb]
    refine ⟨LX, LD, (S₆.own L (.head _)).2, fun p hp => ?_⟩
    match p, hp with
    | _, .head _ => exact fun z => hfX ((show f = L from z) ▸ LX)
    | _, .tail _ (.head _) =>
      intro z
      obtain ⟨_, _, _, d, _⟩ := hcq
      rw [show c' = L from z, eL] at hc₆; cases hc₆; rw [dL] at d; cases d
    | _, .tail _ (.tail _ (.head _)) => exact fun z => absurd (show L + 2 = L from z) (Nat.ne_of_gt (Nat.lt_add_of_pos_right (by decide)))
  · subst e1
    refine next_enc (f := f) (cc := c') (ca := L + 2) (co := co) (xo := xo) K e3 (by rw [e4]; exact .head _) (by rw [e4]; exact .tail _ (.head _)) hcq (by rw [e4]; exact .tail _ (.tail _ (.head _))) (by rw [hxd, e2])
end
end
section

def cmpS (e : Expr) : Scope := match e with | .ListComp _ _ sc _ => sc | _ => default
theorem map_range (g : Int → Int) (l : List Int) : (List.range l.length).map (fun i => g (l.getD i 0)) = l.map g := by
  apply List.ext_getElem
  · simp
  · intro i h1 h2
    simp only [List.length_map, List.length_range] at h1
    simp [h1]

section
variable {G : Gl} {C : Addr} {sg : List Int} {big : Bool}

set_option maxHeartbeats 2000000 in
theorem enc_tail (W : Wd G C) (hs : Signs sg) {A : Around} {L : Addr} {ks : List Int} {X : List Addr} {s s₃ : Shared} {D f : Addr} {fix : List (Addr × Obj)} (rm : Rm A 12) (hz : ks.length ≤ 1000) (hb : ∀ x ∈ ks, 0 ≤ x ∧ x < 256) (hE : ∀ v ∈ outE big ks, 0 ≤ v ∧ v < 64) (hL : (outE big ks).length ≤ 2000) (S : Sat (fxOf G A true fd91 91 L) ⟨[("source", aByt ks), ("chunks", aInt (ks.length / 3 : Nat)), ("tail", aInt (ks.length % 3 : Nat))], [("self", aEng C sg big)]⟩ X s)
    (R : Ready (fxOf G A true fd91 91 L) ⟨[("source", aByt ks), ("chunks", aInt (ks.length / 3 : Nat)), ("tail", aInt (ks.length % 3 : Nat)), ("next_value", aVal (.ref f))], [("self", aEng C sg big)]⟩ X D f rdE ks fix [L] s s₃) {Q : Flow → Shared → Prop} {E : Value → Shared → Prop}
    (q : ∀ v s', Step G true ((fxOf G A true fd91 91 L).own ++ G.T) s s' → (aByt (encB sg big ks)).p v (view X s'.heap) → Q (.ret v) s') :
    wpAny (model G.prog G.w) (A.deeper (callEnvC fd91 L 91)) (execs [nth (bd (nth clsBody 9)) 4, nth (bd (nth clsBody 9)) 5, nth (bd (nth clsBody 9)) 6] (callEnvC fd91 L 91)) Q E s₃ := by
  have DX : D ∉ X := fun m => by obtain ⟨o, e⟩ := S.live D m; rw [R.new] at e; cases e
  have rmA : Rm (A.deeper (callEnvC fd91 L 91)) 11 := Rm.deeper rm
  refine wpAny_execs_cons (wpAny_Assign_Name (meth_raw (c := { fxOf G A true fd91 91 L with fl := false }) R.sat.lo (Ev.cell (x := "self") (.head _) (by rfl) rfl (by decide)) (.cons (Ev.loc (x := "next_value") (.tail _ (.tail _ (.tail _ (.head _)))) (by rfl) rfl (by decide)) rfl (.cons (Ev.loc (x := "chunks") (.tail _ (.head _)) (by rfl) rfl (by decide)) rfl (.cons (Ev.loc (x := "tail") (.tail _ (.tail _ (.head _))) (by rfl) rfl (by decide)) rfl .nil))) W.cls W.m71.1 W.m71.2.1 W.m71.2.2 (fun _ _ _ _ _ _ _ _ _ => rfl) rfl (by decide) rfl fun vs s₄ S₄ k₄ hv => ?_) rfl)
  have k₄ : Step G false [] s₃ s₄ := k₄
  have cl₄ := R.clos.step (Y := []) (s' := s₄) (fun b o e => k₄.keep b o (by simp) e) (by simp)
  refine wpAny_call (disp71 W (rmA.less (by omega)) S₄.ok S₄.priv hv cl₄ hb fun I s₅ ga => ?_)
  obtain ⟨st, Lg, hn1, h0, hLI, hn2, hIs, hLD, ⟨oLg, eLg, dLg⟩, k, eG, K, ePv, hnc, eit, eFr, gs⟩ := ga
  subst eG
  have S₅ : Sat (fxOf k.G A true fd91 91 L) _ (Lg :: D :: X) s₅ := Sat.hideT S₄.lo st hn1 ⟨_, eLg⟩
  have LX : L ∈ X := (S.own L (.head _)).1
  have L4 : ∃ o, s₄.heap.get? L = some o := S₄.live L (.tail _ LX)
  have LLg : Lg ≠ L := fun z => by obtain ⟨o, e⟩ := L4; rw [z, e] at hn1; cases hn1
  have LI : I ≠ L := fun z => by obtain ⟨o, e⟩ := L4; rw [z, e] at hn2; cases hn2
  have LD : D ≠ L := fun z => DX (z ▸ LX)
  refine store_loc1 (c := fxOf k.G A true fd91 91 L) (x := "gen") (P := aVal (.ref I)) S₅ rfl (fun s₆ k₆ S₆ => ?_) rfl (by rfl)
  have keep₆ : ∀ b o, b ≠ L → s₅.heap.get? b = some o → s₆.heap.get? b = some o := fun b o n e => k₆.keep b o (fun m => n (List.mem_singleton.mp m)) e
  have gs₅ := gs (A.deeper (callEnvC fd91 L 91)) (rmA.less (by omega))
  have gs₆ : GenSt k (A.deeper (callEnvC fd91 L 91)) I s₄.gens.size 0 s₆ := by
    refine gs₅.move K S₆.ok (fun o e => keep₆ _ _ LI e) (fun b o l e => ⟨fun n => keep₆ _ _ (fun z => n (by rw [eFr, z]; exact .head _)) e, ?_⟩) ?_
    · by_cases z : b = L
      · obtain ⟨m, ⟨o, _, _, e, _⟩, _⟩ := S₆.loc; exact ⟨o, z ▸ e⟩
      · exact ⟨o, keep₆ _ _ z e⟩
    · obtain ⟨x, e, _⟩ := gs₅.goes
      rw [e, k₆.gens _ _ e]
  refine wpAny_execs_cons (wpAny_Assign_Name (call1 (c := { fxOf k.G A true fd91 91 L with fl := false }) S₆.lo (Ev.bi W.bytes (by rfl) rfl rfl rfl (by decide)) KeepsIt.type rfl fun s₇ S₇ k₇ => ?_) rfl)
  refine listcomp_ev (G := k.G) (cl := [("self", L + 1)]) (x := "value") rfl (by decide +kernel) rfl (by decide +kernel) (by rfl) ((Ev.loc (c := { fxOf k.G A true fd91 91 L with fl := false }) (x := "gen") (P := aVal (.ref I)) (.tail _ (.tail _ (.tail _ (.tail _ (.head _))))) (by rfl) rfl (by decide)) _ s₇ S₇ _ _ fun v s₈ k₈ e₈ => ?_) (fun _ => rfl)
  have e₈ : v = .ref I := e₈
  subst e₈
  have k₇ : Step k.G false [] s₆ s₇ := k₇
  have k₈ : Step k.G false [] s₇ s₈ := k₈
  have k₆₈ := k₇.trans k₈
  have S₈ := S₇.step k₈
  have kp₆₈ : ∀ b o, s₆.heap.get? b = some o → s₈.heap.get? b = some o := fun b o e => k₆₈.keep b o (by simp) e
  have gs₈ : GenSt k (A.deeper (callEnvC fd91 L 91)) I s₄.gens.size 0 s₈ := gs₆.move K S₈.ok (fun o e => kp₆₈ _ _ e) (fun b o l e => ⟨fun _ => kp₆₈ _ _ e, o, kp₆₈ _ _ e⟩) (by rw [show s₈.gens = s₆.gens from k₆₈.gens])
  have hLg8 : s₈.heap.get? Lg = some oLg := kp₆₈ _ _ (keep₆ _ _ LLg eLg)
  obtain ⟨vD, ⟨mD, eD⟩, _⟩ := cl₄.lst
  have hD8 := kp₆₈ _ _ (keep₆ _ _ LD (st.keep _ _ (by simp) eD))
  have hI8 : I < s₈.heap.objs.size := by obtain ⟨o, _, _, e, _⟩ := gs₈.gen; exact Heap.lt_size e
  have rm1 : Rm (A.deeper (callEnvC fd91 L 91)) 1 := rmA.less (by omega)
  have hzz : k.items.length ≤ sizeLine := by rw [eit, sizeLine_eq]; omega
  refine wpAny_pyIter_gen gs₈.gen ⟨I, s₈.heap.objs.size, (· < s₈.heap.objs.size), k.Pv, some s₄.gens.size, k.items.length, _, fun i y => ∃ t, y = .int (sg.getD (k.items.getD i 0).toNat 0) t, fun i s => GenSt k (A.deeper (callEnvC fd91 L 91)) I s₄.gens.size i s, rfl, Itr.gen K rm1 hnc hI8, hzz, S₈.ok, gs₈, Nat.le_refl _, fun i v C' s m E' hi hv hC ok kp hex hn hm Q' q' => ?_, fun D' s₉ ys hD' hl hF mv => ?_⟩
  · obtain ⟨tv, rfl⟩ := hv
    have hit : k.items.getD i 0 ∈ outE big ks := by
      rw [← eit, List.getD_eq_getElem?_getD, List.getElem?_eq_getElem hi]
      exact List.getElem_mem hi
    obtain ⟨i0, i1⟩ := hE _ hit
    have offP : ∀ b, b ∉ Lg :: D :: X → b ∉ k.Pv := fun b n m => by
      rw [ePv] at m
      rcases List.mem_cons.mp m with m | m
      · exact n (m ▸ .head _)
      · exact n (List.mem_singleton.mp m ▸ .tail _ (.head _))
    have Sc := cfx_sat (c := { fxOf k.G A true fd91 91 L with fl := false }) (scope := cmpS (match nth (bd (nth clsBody 9)) 5 with | .Assign _ (.Call _ (e :: _) _ _) _ => e | _ => .Name "" default)) (cl := [("self", L + 1)]) (cs := [("self", aEng C sg big)]) (x := "value") (P := aInt (k.items.getD i 0)) (v := .int (k.items.getD i 0) tv) S₈ (fun y a e => ?_) (fun p hp => ?_) hC ok (fun b o n e => kp b o (offP b n) e) (fun b o hc e => kp b o (fun m => ?_) e) (fun a ha => ?_) hn hm ⟨tv, rfl⟩
    · exact Ev.meth (Ev.cell (x := "self") (.head _) (by rfl) rfl (by decide)) (.cons (Ev.loc (x := "value") (.head _) (by rfl) rfl (by decide)) rfl .nil) W.cls W.m57.1 W.m57.2.1 W.m57.2.2 (f57 W hs i0 i1) (fun z => by cases z) rm1 (fun _ _ _ _ _ _ _ _ _ => rfl) rfl (by decide) rfl _ s Sc Q' E' fun y s' k' p => q' y s' p k'
    · by_cases z : y = "self"
      · subst z; exact e
      · have : (y == ("self" : Str)) = false := by simpa using z
        rw [List.lookup_cons, this] at e; cases e
    · rw [List.mem_singleton.mp hp]
      exact ⟨.head _, by rfl⟩
    · obtain ⟨v, hc⟩ := hc
      rw [ePv] at m
      rcases List.mem_cons.mp m with m | m
      · rw [m, hLg8] at e; cases e; exact dLg _ hc
      · rw [List.mem_singleton.mp m, hD8] at e; cases e; cases hc
    · by_cases z : a ∈ k.Pv
      · exact hex a z
      · obtain ⟨o, e⟩ := S₈.live a ha; exact ⟨o, kp _ _ z e⟩
  · have hi := items_ints hF
    rw [map_range (fun v => sg.getD v.toNat 0), eit] at hi
    have hl' : s₉.heap.IsList D' ys.toList.toArray := by simpa using hl.isList
    have hlen : ((outE big ks).map fun v => sg.getD v.toNat 0).length ≤ 2000 := by rw [List.length_map]; exact hL
    have hby : ∀ x ∈ (outE big ks).map (fun v => sg.getD v.toNat 0), 0 ≤ x ∧ x < 256 := fun x hx => by
      obtain ⟨v, hv, rfl⟩ := List.mem_map.mp hx
      obtain ⟨v0, v1⟩ := hE v hv
      have : v.toNat < sg.length := by rw [hs.len]; omega
      rw [List.getD_eq_getElem?_getD, List.getElem?_eq_getElem this]
      exact hs.byte _ (List.getElem_mem this)
    refine ⟨mv.ok, call_bytes_ints hl' hi hby (by rw [hi.length, sizeLine_eq]; omega) rm.h fun h' t tk hk => ?_⟩
    have k₁₀ : Step k.G true [] s₉ { s₉ with heap := h', toks := tk } := Step.heap hk
    have S₁₀ : Sat (fxOf k.G A true fd91 91 L) ⟨[("source", aByt ks), ("chunks", aInt (ks.length / 3 : Nat)), ("tail", aInt (ks.length % 3 : Nat)), ("next_value", aVal (.ref f)), ("gen", aVal (.ref I))], [("self", aEng C sg big)]⟩ X { s₉ with heap := h', toks := tk } := by
      refine Sat.drop (Y := [Lg, D]) (S₈.lo (b := true)) (fun b o n e => hk _ _ (mv.keep b o (by rw [ePv]; exact n) e)) (k₁₀.ok mv.ok) (fun b hb => ?_) S.tabs fun a ha => (S.own a ha).1
      rcases List.mem_cons.mp hb with hb | hb
      · rw [hb]
        refine ⟨fun m => ?_, _, hLg8, dLg⟩
        obtain ⟨o, e⟩ := S₄.live Lg (.tail _ m)
        rw [hn1] at e; cases e
      · rw [List.mem_singleton.mp hb]
        exact ⟨DX, _, hD8, fun v z => by cases z⟩
    refine (Sto.loc (c := fxOf k.G A true fd91 91 L) (x := "out") (P := aByt (encB sg big ks)) rfl (by rfl)) X _ (.bytes _ t) S₁₀ ⟨_, t, rfl, KBa.ints_make hby⟩ _ _ fun s₁₁ k₁₁ S₁₁ => ?_
    refine wpAny_execs_cons (wpAny_Return_some ((Ev.loc (c := fxOf k.G A true fd91 91 L) (x := "out") (P := aByt (encB sg big ks)) (.tail _ (.tail _ (.tail _ (.tail _ (.tail _ (.head _)))))) (by rfl) rfl (by decide)) X s₁₁ S₁₁ _ _ fun v s₁₂ k₁₂ p => q v s₁₂ ?_ p))
    have g1 : Step k.G true [L] s₄ s₈ := ((st.more fun _ m => nomatch m).trans k₆).trans (k₆₈.up.more fun _ m => nomatch m)
    have g2 : Step k.G true ([L] ++ k.Pv) s₄ s₉ := Step.gen_mv g1 (Nat.le_refl _) g1.ok (fun _ => mv) S₄.ok
    have tot : Step k.G true (Lg :: D :: ((fxOf k.G A true fd91 91 L).own ++ k.G.T)) s s₁₂ := by
      refine (R.step.more fun a m => .tail _ m).trans ((k₄.up.more fun _ m => nomatch m).trans ((g2.more fun a m => ?_).trans ((k₁₀.more fun _ m => nomatch m).trans ((k₁₁.more fun a m => .tail _ (.tail _ m)).trans (k₁₂.more fun a m => .tail _ (.tail _ (List.mem_append_right _ m)))))))
      rcases List.mem_append.mp m with m | m
      · rw [List.mem_singleton.mp m]; exact .tail _ (.tail _ (.head _))
      · rw [ePv] at m
        rcases List.mem_cons.mp m with m | m
        · exact m ▸ .head _
        · exact List.mem_singleton.mp m ▸ .tail _ (.head _)
    refine tot.less fun a o m e => ?_
    rcases List.mem_cons.mp m with m | m
    · by_cases z : a ∈ D :: ((fxOf k.G A true fd91 91 L).own ++ k.G.T)
      · rcases List.mem_cons.mp z with z | z
        · rw [z, R.new] at e; cases e
        · exact z
      · have := k₄.keep a o (by simp) (R.step.keep a o z e)
        rw [m, hn1] at this; cases this
    · rcases List.mem_cons.mp m with m | m
      · rw [m, R.new] at e; cases e
      · exact m
end
end
section

section
variable {G : Gl} {C : Addr} {sg : List Int} {big : Bool}

theorem fdiv_nat (n k : Nat) : ((n : Nat) : Int).fdiv (k : Nat) = ((n / k : Nat) : Int) := by
  rw [Int.fdiv_eq_ediv_of_nonneg _ (by omega)]; rfl
theorem fmod_nat (n k : Nat) : ((n : Nat) : Int).fmod (k : Nat) = ((n % k : Nat) : Int) := by
  rw [Int.fmod_eq_emod_of_nonneg _ (by omega)]; rfl

set_option maxHeartbeats 1000000 in
theorem f91 (W : Wd G C) (hs : Signs sg) {ks : List Int} (hz : ks.length ≤ 1000) (hb : ∀ x ∈ ks, 0 ≤ x ∧ x < 256) (hE : ∀ v ∈ outE big ks, 0 ≤ v ∧ v < 64) (hL : (outE big ks).length ≤ 2000) : FnV G true 13 91 [aEng C sg big, aByt ks] (aByt (encB sg big ks)) := by
  refine FnV.mk (xs := ["self", "source"]) (σ := ⟨[("source", aByt ks)], [("self", aEng C sg big)]⟩) W.m91.2.2 rfl rfl ?_ rfl (by decide) (by rfl) (by rfl) ?_ rfl rfl rfl ?_
  · intro vs hv
    match vs, hv with
    | [a, b], _ => rfl
  · intro L p hp
    rw [List.mem_singleton.mp hp]
    exact .tail _ (.head _)
  · intro A L rm X s S Q E q
    refine wpAny_execs_cons (Nx1.if_f (Tr.not (b := true) (Tr.val (Ev.call (Ev.bi W.isinstance (by rfl) rfl rfl rfl (by decide)) (.cons (Ev.loc (x := "source") (.head _) (by rfl) rfl (by decide)) rfl (.cons (Ev.bi W.bytes (by rfl) rfl rfl rfl (by decide)) rfl .nil)) KeepsIt.builtin (CallV.isT kit_bytes)) TrV.bool (by rfl))) Nx.nil X s S _ _ fun s₁ k₁ S₁ => ?_)
    refine wpAny_execs_cons (Nx1.pair (x := "chunks") (y := "tail") rm.h (Ev.call (Ev.bi W.divmod (by rfl) rfl rfl rfl (by decide)) (.cons (Ev.call (Ev.bi W.len (by rfl) rfl rfl rfl (by decide)) (.cons (Ev.loc (x := "source") (.head _) (by rfl) rfl (by decide)) rfl .nil) KeepsIt.builtin (CallV.lenB (by omega))) rfl (.cons Ev.intC rfl .nil)) KeepsIt.builtin (CallV.divmod (by decide) (PyProof.noPylong_small (by omega)) (fdiv_nat ks.length 3) (fmod_nat ks.length 3))) (Sto.loc rfl (by rfl)) (Sto.loc rfl (by rfl)) rfl rfl X s₁ S₁ _ _ fun s₂ k₂ S₂ => ?_)
    exact enc_ready W (rm.less (by omega)) hz S₂ fun D f fix s₃ R => enc_tail W hs rm hz hb hE hL S₂ R fun v s' st p => q v s' (k₁.trans (k₂.trans st)) p
end
end
section
def sgOf (sg : List Int) (ds : List Int) : List Int := ds.map fun v => sg.getD v.toNat 0
theorem sgOf_len (sg ds : List Int) : (sgOf sg ds).length = ds.length := by simp [sgOf]
theorem ints_pairedD {sg : List Int} (hs : Signs sg) : ∀ {ds : List Int} {vs : List Value}, (∀ v ∈ ds, 0 ≤ v ∧ v < 64) → IntsAre vs (sgOf sg ds) → Paired (rdD sg) ds vs
  | [], vs, _, h => by
    cases h
    exact .nil
  | d :: ds, vs, hb, h => by
    unfold sgOf at h
    rw [List.map_cons] at h
    cases h with
    | cons n t h =>
      refine .cons ⟨t, _, rfl, (hb d (.head _)).1, ?_⟩ (ints_pairedD hs (fun v m => hb v (.tail _ m)) h)
      have hl := hs.len
      have := hb d (.head _)
      have hlt : d.toNat < sg.length := by omega
      rw [List.getD_eq_getElem?_getD, List.getElem?_eq_getElem hlt]
      rfl
section
variable {G : Gl} {C : Addr} {sg : List Int} {big : Bool}

set_option maxHeartbeats 1000000 in
theorem dec_ready (W : Wd G C) (hsg : Signs sg) {A : Around} {L : Addr} {ds : List Int} (hds : ∀ v ∈ ds, 0 ≤ v ∧ v < 64) {n t : Int} {X : List Addr} {s : Shared} (rm : Rm A 5) (hz : ds.length ≤ 1000)
    (S : Sat (fxOf G A true fd112 112 L) ⟨[("source", aByt (sgOf sg ds)), ("chunks", aInt n), ("tail", aInt t)], [("self", aEng C sg big)]⟩ X s) {rest : List Stmt} {Q : Flow → Shared → Prop} {E : Value → Shared → Prop}
    (h : ∀ D f fix s', Ready (fxOf G A true fd112 112 L) ⟨[("source", aByt (sgOf sg ds)), ("chunks", aInt n), ("tail", aInt t), ("next_value", aVal (.ref f))], [("self", aEng C sg big)]⟩ X D f (rdD sg) ds fix [L] s s' → wpAny (model G.prog G.w) (A.deeper (callEnvC fd112 L 112)) (execs rest (callEnvC fd112 L 112)) Q E s') :
    wpAny (model G.prog G.w) (A.deeper (callEnvC fd112 L 112)) (execs (nth (bd (nth clsBody 12)) 3 :: nth (bd (nth clsBody 12)) 4 :: rest) (callEnvC fd112 L 112)) Q E s := by
  refine wpAny_execs_cons (wpAny_Assign_Name (call1 S (Ev.bi W.list (by rfl) rfl rfl rfl (by decide)) KeepsIt.type rfl fun s₁ S₁ k₁ => Ev.loc (x := "source") (.head _) (by rfl) rfl (by decide) X s₁ S₁ _ _ fun v s₂ k₂ p₂ => ?_) rfl)
  obtain ⟨b, tb, rfl, eb⟩ := p₂
  have S₂ := S₁.step k₂
  refine ⟨S₂.ok, list_bytes rm.h (by rw [sizeLine_eq, sgOf_len]; omega) eb S₂.ok fun s₃ vs k₃ pl ia => ?_⟩
  have hDX : s₂.heap.objs.size ∉ X := S₂.new_off (Nat.le_refl _)
  have hD0 : G.h₀.objs.size ≤ s₂.heap.objs.size := S₂.ok.low
  have hDn : s.heap.get? s₂.heap.objs.size = none := by
    cases e : s.heap.get? s₂.heap.objs.size with
    | none => rfl
    | some o =>
      have := (k₁.trans k₂).keep _ _ (fun m => off_own S hDX (List.mem_append_right _ m)) e
      exact absurd (Heap.lt_size this) (Nat.lt_irrefl _)
  generalize hDe : s₂.heap.objs.size = D at pl hDX hD0 hDn
  have S₃ : Sat (fxOf G A true fd112 112 L) _ (D :: X) s₃ := S₂.hide k₃ (Nat.le_of_eq hDe) ⟨_, pl.choose_spec⟩
  have offD : D ∉ (fxOf G A true fd112 112 L).own ++ (fxOf G A true fd112 112 L).T := off_own S hDX
  refine (Sto.cel (c := fxOf G A true fd112 112 L) (x := "values") (P := aVal (.ref D)) rfl (by rfl) (.head _)) (D :: X) s₃ (.ref D) S₃ rfl _ _ fun s₄ k₄ S₄ => ?_
  refine wpAny_execs_cons (nestDef_K rfl rfl rfl (make_fn (t := tabD) W.tD (q := ("values", L + 2)) (r := [("self", L + 1)]) rfl rfl rfl S₄.ok fun c' ctv doc f s₅ k₅ hf hfo hcd hnm => ?_))
  have S₅ := S₄.step k₅
  have hfX : f ∉ D :: X := S₄.new_off hf
  refine (Sto.loc (c := fxOf G A true fd112 112 L) (x := "next_value") (P := aVal (.ref f)) rfl (by rfl)) (D :: X) s₅ (.ref f) S₅ rfl _ _ fun s₆ k₆ S₆ => ?_
  obtain ⟨co, hco, hcq⟩ := hcd.obj
  obtain ⟨a, v, ea, _, ⟨xo, hx, hxd⟩, hv⟩ := S₆.cel "values" (aVal (.ref D)) (.tail _ (.head _))
  have hv : v = .ref D := hv
  subst hv
  have ea : L + 2 = a := Option.some.inj ea
  subst ea
  obtain ⟨aS, vS, eaS, _, ⟨so, hso, hsod⟩, xe, hvS, hen⟩ := S₆.cel "self" (aEng C sg big) (.head _)
  subst hvS
  have eaS : L + 1 = aS := Option.some.inj eaS
  subst eaS
  have plD : ∀ {s' : Shared} {s'' : Shared} {fl : Bool} {Y : List Addr}, Step G fl Y s' s'' → D ∉ Y → s'.heap.PlainList D vs.toArray → s''.heap.PlainList D vs.toArray := fun k n ⟨m, e⟩ => ⟨m, k.keep _ _ n e⟩
  have pl₆ : s₆.heap.PlainList D vs.toArray := plD k₆ offD (plD k₅ (fun m => offD (List.mem_append_right _ m)) (plD k₄ offD pl))
  have hDo : ∃ m, s₆.heap.get? D = some { cls := .type "list", data := .seq vs.toArray m } := pl₆
  obtain ⟨mD, hDo⟩ := hDo
  have hf₆ : s₆.heap.get? f = _ := k₆.keep _ _ (off_own (X := D :: X) S₅ hfX) hfo
  have hc₆ : s₆.heap.get? c' = _ := k₆.keep _ _ (code_off S₅ hco hcq) hco
  have LX : L ∈ D :: X := (S₆.own L (.head _)).1
  have LD : L ≠ D := fun z => hDX (z ▸ (S.own L (.head _)).1)
  obtain ⟨mL, ⟨oL, _, _, eL, dL, _⟩, _⟩ := S₆.loc
  have eL : s₆.heap.get? L = some oL := eL
  have fo : s₆.heap.get? f = some (fnMade "next_value" tabD.qual (prm nvD) (bd nvD) (scp nvD) [("values", L + 2), ("self", L + 1)] doc ((G.mg "__name__").getD .none) c' ctv) := hf₆
  refine h D f [(f, fnMade "next_value" tabD.qual (prm nvD) (bd nvD) (scp nvD) [("values", L + 2), ("self", L + 1)] doc ((G.mg "__name__").getD .none) c' ctv), (c', co), (L + 2, xo), (L + 1, so)] s₆ ⟨S₆.weaken (fun p hp => hp) (fun p hp => ?_), ?_, ⟨⟨.head _, hD0⟩, ⟨vs, pl₆, ints_pairedD hsg hds ia, by omega⟩, ⟨_, .head _⟩, fun p hp => ?_, fun b hb => ?_, fun k e1 K e2 e3 e4 e5 => ?_⟩, hDn⟩
  · cases hp with
    | head => exact .head _
    | tail _ h => cases h
  · have t1 : Step G true (D :: ((fxOf G A true fd112 112 L).own ++ G.T)) s s₃ := ((k₁.trans k₂).more (fun a m => .tail _ (T_own a m))).trans ((k₃.up).more fun a m => nomatch m)
    exact (t1.trans (k₄.more fun a m => .tail _ m)).trans ((k₅.more fun a m => .tail _ (List.mem_append_right _ m)).trans (k₆.more fun a m => .tail _ m))
  · match p, hp with
    | _, .head _ => exact ⟨fo, fun z => hfX (z ▸ .head _)⟩
    | _, .tail _ (.head _) =>
      refine ⟨hc₆, fun z => ?_⟩
      obtain ⟨_, _, _, d, _⟩ := hcq
      rw [show c' = D from z, hDo] at hc₆; cases hc₆; cases d
    | _, .tail _ (.tail _ (.head _)) =>
      refine ⟨hx, fun z => ?_⟩
      rw [show L + 2 = D from z, hDo] at hx; cases hx; cases hxd
    | _, .tail _ (.tail _ (.tail _ (.head _))) =>
      refine ⟨hso, fun z => ?_⟩
      rw [show L + 1 = D from z, hDo] at hso; cases hso; cases hsod
  · rw [List.mem_singleton.mp hb]
    refine ⟨LX, LD, (S₆.own L (.head _)).2, fun p hp => ?_⟩
    match p, hp with
    | _, .head _ => exact fun z => hfX ((show f = L from z) ▸ LX)
    | _, .tail _ (.head _) =>
      intro z
      obtain ⟨_, _, _, d, _⟩ := hcq
      rw [show c' = L from z, eL] at hc₆; cases hc₆; rw [dL] at d; cases d
    | _, .tail _ (.tail _ (.head _)) => exact fun z => absurd (show L + 2 = L from z) (Nat.ne_of_gt (Nat.lt_add_of_pos_right (by decide)))
    | _, .tail _ (.tail _ (.tail _ (.head _))) => exact fun z => absurd (show L + 1 = L from z) (Nat.ne_of_gt (Nat.lt_add_of_pos_right (by decide)))
  · subst e1
    refine next_dec (f := f) (cc := c') (ca := L + 2) (cs := L + 1) (x := xe) (C := C) (f64 := 64) (sg := sg) (big := big) (co := co) (xo := xo) (so := so) K e3 (by rw [e4]; exact .head _) (by rw [e4]; exact .tail _ (.head _)) hcq (by rw [e4]; exact .tail _ (.tail _ (.head _))) (by rw [hxd, e2]) (by rw [e4]; exact .tail _ (.tail _ (.tail _ (.head _)))) hsod (hen.keeps e5) W.cls W.m64.1 W.m64.2.1 W.m64.2.2 fun i b h => f64 W h
end
end
section
section
variable {G : Gl} {C : Addr} {sg : List Int} {big : Bool}
set_option maxHeartbeats 2000000 in
theorem dec_tail (W : Wd G C) {A : Around} {L : Addr} {ds : List Int} {P₀ : AV} {X : List Addr} {s s₃ : Shared} {D f : Addr} {fix : List (Addr × Obj)} (rm : Rm A 12) (hz : ds.length ≤ 1000) (hb : ∀ x ∈ ds, 0 ≤ x ∧ x < 64) (ht : ds.length % 4 ≠ 1) (hE : ∀ v ∈ outD big ds, 0 ≤ v ∧ v < 256) (hL : (outD big ds).length ≤ 2000) (S : Sat (fxOf G A true fd112 112 L) ⟨[("source", P₀), ("chunks", aInt (ds.length / 4 : Nat)), ("tail", aInt (ds.length % 4 : Nat))], [("self", aEng C sg big)]⟩ X s)
    (R : Ready (fxOf G A true fd112 112 L) ⟨[("source", P₀), ("chunks", aInt (ds.length / 4 : Nat)), ("tail", aInt (ds.length % 4 : Nat)), ("next_value", aVal (.ref f))], [("self", aEng C sg big)]⟩ X D f (rdD sg) ds fix [L] s s₃) {Q : Flow → Shared → Prop} {E : Value → Shared → Prop}
    (q : ∀ v s', Step G true ((fxOf G A true fd112 112 L).own ++ G.T) s s' → (aByt (outD big ds)).p v (view X s'.heap) → Q (.ret v) s') :
    wpAny (model G.prog G.w) (A.deeper (callEnvC fd112 L 112)) (execs [nth (bd (nth clsBody 12)) 5] (callEnvC fd112 L 112)) Q E s₃ := by
  have rmA : Rm (A.deeper (callEnvC fd112 L 112)) 11 := Rm.deeper rm
  refine wpAny_execs_cons (wpAny_Try_except ?_)
  refine wpAny_execs_cons (wpAny_Return_some ?_)
  refine call1 (c := { fxOf G A true fd112 112 L with fl := false }) (R.sat.lo) (Ev.bi W.bytes (by rfl) rfl rfl rfl (by decide)) KeepsIt.type rfl fun s₁ S₁ k₁ => ?_
  refine call1 (c := { fxOf G A true fd112 112 L with fl := false }) S₁ (Ev.bi W.list (by rfl) rfl rfl rfl (by decide)) KeepsIt.type rfl fun s₂ S₂ k₂ => ?_
  refine meth_raw (c := { fxOf G A true fd112 112 L with fl := false }) S₂ (Ev.cell (x := "self") (.head _) (by rfl) rfl (by decide)) (.cons (Ev.loc (x := "next_value") (.tail _ (.tail _ (.tail _ (.head _)))) (by rfl) rfl (by decide)) rfl (.cons (Ev.loc (x := "chunks") (.tail _ (.head _)) (by rfl) rfl (by decide)) rfl (.cons (Ev.loc (x := "tail") (.tail _ (.tail _ (.head _))) (by rfl) rfl (by decide)) rfl .nil))) W.cls W.m78.1 W.m78.2.1 W.m78.2.2 (fun _ _ _ _ _ _ _ _ _ => rfl) rfl (by decide) rfl fun vs s₄ S₄ k₄ hv => ?_
  have k₁₄ : Step G false [] s₃ s₄ := (show Step G false [] s₃ s₁ from k₁).trans ((show Step G false [] s₁ s₂ from k₂).trans k₄)
  have cl₄ := R.clos.step (Y := []) (s' := s₄) (fun b o e => k₁₄.keep b o (by simp) e) (by simp)
  refine wpAny_call (disp78 W (rmA.less (by omega)) S₄.ok S₄.priv hv cl₄ hb ht fun I s₅ ga => ?_)
  obtain ⟨st, Lg, hn1, h0, hLI, hn2, hIs, hLD, ⟨oLg, eLg, dLg⟩, k, eG, K, ePv, hnc, eit, eFr, gs⟩ := ga
  subst eG
  have ok₅ := st.ok S₄.ok
  refine ⟨ok₅, ?_⟩
  have rm2 : Rm (A.deeper (callEnvC fd112 L 112)).in1.in1 9 := Rm.in1 (Rm.in1 rmA)
  have hzz : k.items.length ≤ sizeLine := by rw [eit, sizeLine_eq]; omega
  refine list_itr (Itr.gen K (rm2.less (by omega)) hnc hIs) hzz (fun i s S => S.gen.typeIs) hIs (Nat.le_refl _) ok₅ (gs _ (rm2.less (by omega))) fun s₆ acc' c' mv hl hF => ?_
  have hi := items_ints hF
  have e0 : (List.range k.items.length).map (fun i => k.items.getD i 0) = outD big ds := by rw [map_range (fun v => v), eit]; simp
  rw [e0] at hi
  have hl' : s₆.heap.IsList s₅.heap.objs.size acc'.toList.toArray := ⟨_, hl, rfl, c', by simp⟩
  refine ⟨mv.ok, call_bytes_ints hl' hi hE (by rw [hi.length, sizeLine_eq]; omega) rm.h fun h' t tk hk => ?_⟩
  refine q _ _ ?_ ⟨_, t, rfl, KBa.ints_make hE⟩
  have k₁₀ : Step k.G true [] s₆ { s₆ with heap := h', toks := tk } := Step.heap hk
  have g2 : Step k.G true ([] ++ (s₅.heap.objs.size :: k.Pv)) s₄ s₆ := Step.gen_mv st (Nat.le_refl _) st.ok (fun _ => mv) S₄.ok
  have tot : Step k.G true (s₅.heap.objs.size :: Lg :: D :: ((fxOf k.G A true fd112 112 L).own ++ k.G.T)) s { s₆ with heap := h', toks := tk } := by
    refine (R.step.more fun a m => .tail _ (.tail _ m)).trans ((k₁₄.up.more fun _ m => nomatch m).trans ((g2.more fun a m => ?_).trans (k₁₀.more fun _ m => nomatch m)))
    rcases List.mem_cons.mp m with m | m
    · exact m ▸ .head _
    · rw [ePv] at m
      rcases List.mem_cons.mp m with m | m
      · exact m ▸ .tail _ (.head _)
      · exact List.mem_singleton.mp m ▸ .tail _ (.tail _ (.head _))
  refine tot.less fun a o m e => ?_
  by_cases z : a ∈ D :: ((fxOf k.G A true fd112 112 L).own ++ k.G.T)
  · rcases List.mem_cons.mp z with z | z
    · rw [z, R.new] at e; cases e
    · exact z
  · have e4 := k₁₄.keep a o (by simp) (R.step.keep a o z e)
    rcases List.mem_cons.mp m with m | m
    · have := st.keep a o (by simp) e4
      rw [m, none_of_ge (Nat.le_refl _)] at this; cases this
    · rcases List.mem_cons.mp m with m | m
      · rw [m, hn1] at e4; cases e4
      · exact absurd m z

set_option maxHeartbeats 1000000 in
theorem f112 (W : Wd G C) (hs : Signs sg) {ds : List Int} (hz : ds.length ≤ 1000) (hb : ∀ x ∈ ds, 0 ≤ x ∧ x < 64) (ht : ds.length % 4 ≠ 1) (hE : ∀ v ∈ outD big ds, 0 ≤ v ∧ v < 256) (hL : (outD big ds).length ≤ 2000) : FnV G true 13 112 [aEng C sg big, aByt (sgOf sg ds)] (aByt (outD big ds)) := by
  refine FnV.mk (xs := ["self", "source"]) (σ := ⟨[("source", aByt (sgOf sg ds))], [("self", aEng C sg big)]⟩) W.m112.2.2 rfl rfl ?_ rfl (by decide) (by rfl) (by rfl) ?_ rfl rfl rfl ?_
  · intro vs hv
    match vs, hv with
    | [a, b], _ => rfl
  · intro L p hp
    rw [List.mem_singleton.mp hp]
    exact .tail _ (.head _)
  · intro A L rm X s S Q E q
    have hl := sgOf_len sg ds
    have e1 : ((sgOf sg ds).length : Int).fdiv (4 : Nat) = ((ds.length / 4 : Nat) : Int) := by rw [fdiv_nat, hl]
    have e2 : ((sgOf sg ds).length : Int).fmod (4 : Nat) = ((ds.length % 4 : Nat) : Int) := by rw [fmod_nat, hl]
    have hne : ((ds.length % 4 : Nat) : Int) ≠ 1 := by omega
    refine wpAny_execs_cons (Nx1.if_f (Tr.not (b := true) (Tr.val (Ev.call (Ev.bi W.isinstance (by rfl) rfl rfl rfl (by decide)) (.cons (Ev.loc (x := "source") (.head _) (by rfl) rfl (by decide)) rfl (.cons (Ev.bi W.bytes (by rfl) rfl rfl rfl (by decide)) rfl .nil)) KeepsIt.builtin (CallV.isT kit_bytes)) TrV.bool (by rfl))) Nx.nil X s S _ _ fun s₁ k₁ S₁ => ?_)
    refine wpAny_execs_cons (Nx1.pair (x := "chunks") (y := "tail") rm.h (Ev.call (Ev.bi W.divmod (by rfl) rfl rfl rfl (by decide)) (.cons (Ev.call (Ev.bi W.len (by rfl) rfl rfl rfl (by decide)) (.cons (Ev.loc (x := "source") (.head _) (by rfl) rfl (by decide)) rfl .nil) KeepsIt.builtin (CallV.lenB (by omega))) rfl (.cons Ev.intC rfl .nil)) KeepsIt.builtin (CallV.divmod (by decide) (PyProof.noPylong_small (by omega)) e1 e2)) (Sto.loc rfl (by rfl)) (Sto.loc rfl (by rfl)) rfl rfl X s₁ S₁ _ _ fun s₂ k₂ S₂ => ?_)
    refine wpAny_execs_cons (Nx1.if_f (Tr.cmp (Ev.loc (x := "tail") (.tail _ (.tail _ (.head _))) (by rfl) rfl (by decide)) Ev.intC (Op2.eq (by simpa using hne))) Nx.nil X s₂ S₂ _ _ fun s₃ k₃ S₃ => ?_)
    exact dec_ready W hs hb (rm.less (by omega)) hz S₃ fun D f fix s₄ R => dec_tail W rm hz hb ht hE hL S₃ R fun v s' st p => q v s' (k₁.trans (k₂.trans (k₃.trans st))) p
end
end
section
structure Wi (G : Gl) (C : Addr) : Prop extends Wd G C where
  m222 : MethAt G C "_encode_int" 222 fd222
  m229 : MethAt G C "encode_int6" 229 fd229
  m234 : MethAt G C "encode_int12" 234 fd234
  m239 : MethAt G C "encode_int24" 239 fd239
  m246 : MethAt G C "encode_int30" 246 fd246
  m253 : MethAt G C "encode_int64" 253 fd253

section
variable {G : Gl} {C : Addr} {sg : List Int} {big : Bool}

theorem lookup_two {x y : Str} {a b : Addr} {cs : List (Str × Addr)} (h1 : cs.lookup x = some a) (h2 : cs.lookup y = some b) : ∀ z c, List.lookup z [(x, a), (y, b)] = some c → cs.lookup z = some c := fun z c h => by
  rw [List.lookup_cons] at h
  split at h
  · rename_i q; cases h; rw [beq_iff_eq.mp q]; exact h1
  · rw [List.lookup_cons] at h
    split at h
    · rename_i q; cases h; rw [beq_iff_eq.mp q]; exact h2
    · cases h
theorem lookup_one {x : Str} {a : Addr} {cs : List (Str × Addr)} (h1 : cs.lookup x = some a) : ∀ z c, List.lookup z [(x, a)] = some c → cs.lookup z = some c := fun z c h => by
  rw [List.lookup_cons] at h
  split at h
  · rename_i q; cases h; rw [beq_iff_eq.mp q]; exact h1
  · cases h
theorem and63 (x : Int) : 0 ≤ Builtin.bitAnd x 63 ∧ Builtin.bitAnd x 63 < 64 := by
  have := bitAnd_range x (y := 63) (by decide)
  omega
theorem sg_byte (hs : Signs sg) {l : List Int} (h : ∀ v ∈ l, 0 ≤ v ∧ v < 64) : ∀ x ∈ sgOf sg l, 0 ≤ x ∧ x < 256 := fun x hx => by
  obtain ⟨v, hv, rfl⟩ := List.mem_map.mp hx
  obtain ⟨v0, v1⟩ := h v hv
  have : v.toNat < sg.length := by rw [hs.len]; omega
  rw [List.getD_eq_getElem?_getD, List.getElem?_eq_getElem this]
  exact hs.byte _ (List.getElem_mem this)
theorem range_map (sg : List Int) (d : Nat → Int) (n : Nat) : (List.range n).map (fun i => sg.getD (d i).toNat 0) = sgOf sg ((List.range n).map d) := by simp [sgOf]

/-- the digits, lowest first -/
def digL (v : Int) (n : Nat) : List Int := (List.range n).map fun (i : Nat) => Builtin.bitAnd (v.fdiv (2 ^ (0 + (i : Int) * 6).toNat)) 63
def digB (v b p : Int) (n : Nat) : List Int := (List.range n).map fun (i : Nat) => Builtin.bitAnd ((v * 2 ^ p.toNat).fdiv (2 ^ (b + p - 6 + (i : Int) * -6).toNat)) 63

set_option maxHeartbeats 2000000 in
theorem f222L (W : Wi G C) (hs : Signs sg) {v b p : Int} {n : Nat} (hv : 0 ≤ v) (hp : (-b).fmod 6 = p) (hn : Builtin.Range.rangeSize 0 (b + p) 6 = (n : Int)) (hsm : Builtin.Range.small 0 (b + p) 6 = true) (hz : n ≤ 1000) (hpy : Builtin.divisionGoesByPylong (b + p - 0) 6 = false) : FnV G false 4 222 [aEng C sg false, aInt v, aInt b] (aByt (sgOf sg (digL v n))) := by
  refine FnV.mk (xs := ["self", "value", "bits"]) (σ := ⟨[("bits", aInt b)], [("self", aEng C sg false), ("value", aInt v)]⟩) W.m222.2.2 rfl rfl ?_ rfl (by decide) (by rfl) (by rfl) ?_ rfl rfl rfl ?_
  · intro vs hv
    match vs, hv with
    | [a, b, c], _ => rfl
  · intro L p hp
    match p, hp with
    | _, .head _ => exact .tail _ (.head _)
    | _, .tail _ (.head _) => exact .head _
  · intro A L rm
    have rm' : Rm (A.deeper (callEnvC fd222 L 222)) 2 := Rm.deeper rm
    refine Rt.cons (Nx1.assert_t (Tr.cmp (Ev.cell (x := "value") (.tail _ (.head _)) (by rfl) rfl (by decide)) Ev.intC (Op2.ge (by simpa using hv)))) ?_
    refine Rt.cons (Nx1.assignS (x := "pad") (P := aInt p) (hp ▸ Ev.bin (Ev.un (Ev.loc (x := "bits") (.head _) (by rfl) rfl (by decide)) Op1.neg) Ev.intC (Op2.mod (by decide))) (Sto.loc rfl (by rfl)) rfl) ?_
    refine Rt.cons (Nx1.aug (x := "bits") (.head _) (Ev.loc (x := "pad") (.tail _ (.head _)) (by rfl) rfl (by decide)) InpV.add rfl (by rfl) (Sto.loc rfl (by rfl))) ?_
    refine Rt.cons (Nx1.if_f (Tr.val (Ev.big (Ev.cell (x := "self") (.head _) (by rfl) rfl (by decide)) W.cls (by rfl)) TrV.bool (by rfl)) (Nx.cons (Nx1.assignS (x := "itr") (Ev.call (Ev.bi W.range (by rfl) rfl rfl rfl (by decide)) (.cons Ev.intC rfl (.cons (Ev.loc (x := "bits") (.head _) (by rfl) rfl (by decide)) rfl (.cons Ev.intC rfl .nil))) KeepsIt.type (CallV.range3 (by decide) hpy)) (Sto.loc rfl (by rfl)) rfl) Nx.nil)) ?_
    refine Rt.here (Rt1.ret (Ev.call (Ev.bi W.bytes (by rfl) rfl rfl rfl (by decide)) (.cons (Ev.listcomp (n := n) (r := fun i => sg.getD (Builtin.bitAnd (v.fdiv (2 ^ (0 + (i : Int) * 6).toNat)) 63).toNat 0) (cl := [("value", L + 2), ("self", L + 1)]) (cs := [("self", aEng C sg false), ("value", aInt v)]) (Ev.loc (x := "itr") (.tail _ (.tail _ (.head _))) (by rfl) rfl (by decide)) (iter_range rm.h hsm hn) (by rw [sizeLine_eq]; omega) rfl (by decide +kernel) rfl (by decide +kernel) (by rfl) (lookup_two rfl rfl) (fun p hp => ?_) (fun i C' hi => ?_) (fun _ => rfl)) rfl .nil) KeepsIt.type ?_))
    · match p, hp with
      | _, .head _ => exact ⟨.head _, by rfl⟩
      | _, .tail _ (.head _) => exact ⟨.tail _ (.head _), by rfl⟩
    · exact Ev.meth (Ev.cell (x := "self") (.head _) (by rfl) rfl (by decide)) (.cons (Ev.bin (Ev.bin (Ev.cell (x := "value") (.tail _ (.head _)) (by rfl) rfl (by decide)) (Ev.loc (x := "off") (.head _) (by rfl) rfl (by decide)) (Op2.shr (by omega))) Ev.intC Op2.and) rfl .nil) W.cls W.m57.1 W.m57.2.1 W.m57.2.2 (f57 W.toWd hs (and63 _).1 (and63 _).2) (fun z => by cases z) (rm'.less (by omega)) (fun _ _ _ _ _ _ _ _ _ => rfl) rfl (by decide) rfl
    · rw [range_map sg (fun i => Builtin.bitAnd (v.fdiv (2 ^ (0 + (i : Int) * 6).toNat)) 63)]
      exact CallV.bytes rm.h (sg_byte hs fun x hx => by obtain ⟨i, _, rfl⟩ := List.mem_map.mp hx; exact and63 _) (by rw [sgOf_len]; simp; omega)
set_option maxHeartbeats 2000000 in
theorem f222B (W : Wi G C) (hs : Signs sg) {v b p : Int} {n : Nat} (hv : 0 ≤ v) (hp : (-b).fmod 6 = p) (hn : Builtin.Range.rangeSize (b + p - 6) (-6) (-6) = (n : Int)) (hsm : Builtin.Range.small (b + p - 6) (-6) (-6) = true) (hp0 : 0 ≤ p) (hbit : (Builtin.Int.intBits v : Int) + p ≤ 2 ^ 27) (hoff : ∀ i : Nat, i < n → 0 ≤ b + p - 6 + (i : Int) * -6) (hz : n ≤ 1000) (hpy : Builtin.divisionGoesByPylong (-6 - (b + p - 6)) (-6) = false) : FnV G false 4 222 [aEng C sg true, aInt v, aInt b] (aByt (sgOf sg (digB v b p n))) := by
  refine FnV.mk (xs := ["self", "value", "bits"]) (σ := ⟨[("bits", aInt b)], [("self", aEng C sg true), ("value", aInt v)]⟩) W.m222.2.2 rfl rfl ?_ rfl (by decide) (by rfl) (by rfl) ?_ rfl rfl rfl ?_
  · intro vs hv
    match vs, hv with
    | [a, b, c], _ => rfl
  · intro L p hp
    match p, hp with
    | _, .head _ => exact .tail _ (.head _)
    | _, .tail _ (.head _) => exact .head _
  · intro A L rm
    have rm' : Rm (A.deeper (callEnvC fd222 L 222)) 2 := Rm.deeper rm
    refine Rt.cons (Nx1.assert_t (Tr.cmp (Ev.cell (x := "value") (.tail _ (.head _)) (by rfl) rfl (by decide)) Ev.intC (Op2.ge (by simpa using hv)))) ?_
    refine Rt.cons (Nx1.assignS (x := "pad") (P := aInt p) (hp ▸ Ev.bin (Ev.un (Ev.loc (x := "bits") (.head _) (by rfl) rfl (by decide)) Op1.neg) Ev.intC (Op2.mod (by decide))) (Sto.loc rfl (by rfl)) rfl) ?_
    refine Rt.cons (Nx1.aug (x := "bits") (.head _) (Ev.loc (x := "pad") (.tail _ (.head _)) (by rfl) rfl (by decide)) InpV.add rfl (by rfl) (Sto.loc rfl (by rfl))) ?_
    refine Rt.cons (Nx1.if_t (Tr.val (Ev.big (Ev.cell (x := "self") (.head _) (by rfl) rfl (by decide)) W.cls (by rfl)) TrV.bool (by rfl)) (Nx.cons (Nx1.assignS (x := "itr") (Ev.call (Ev.bi W.range (by rfl) rfl rfl rfl (by decide)) (.cons (Ev.bin (Ev.loc (x := "bits") (.head _) (by rfl) rfl (by decide)) Ev.intC Op2.sub) rfl (.cons (Ev.un Ev.intC Op1.neg) rfl (.cons (Ev.un Ev.intC Op1.neg) rfl .nil))) KeepsIt.type (CallV.range3 (by decide) hpy)) (Sto.loc rfl (by rfl)) rfl) (Nx.cons (Nx1.augC (x := "value") (.tail _ (.head _)) (Ev.loc (x := "pad") (.tail _ (.head _)) (by rfl) rfl (by decide)) (InpV.shl hp0 hbit) rfl (by rfl) (Sto.cel rfl (by rfl) (.head _))) Nx.nil))) ?_
    refine Rt.here (Rt1.ret (Ev.call (Ev.bi W.bytes (by rfl) rfl rfl rfl (by decide)) (.cons (Ev.listcomp (n := n) (r := fun i => sg.getD (Builtin.bitAnd ((v * 2 ^ p.toNat).fdiv (2 ^ (b + p - 6 + (i : Int) * -6).toNat)) 63).toNat 0) (cl := [("value", L + 2), ("self", L + 1)]) (cs := [("self", aEng C sg true), ("value", aInt (v * 2 ^ p.toNat))]) (Ev.loc (x := "itr") (.tail _ (.tail _ (.head _))) (by rfl) rfl (by decide)) (iter_range rm.h hsm hn) (by rw [sizeLine_eq]; omega) rfl (by decide +kernel) rfl (by decide +kernel) (by rfl) (lookup_two rfl rfl) (fun p hp => ?_) (fun i C' hi => ?_) (fun _ => rfl)) rfl .nil) KeepsIt.type ?_))
    · match p, hp with
      | _, .head _ => exact ⟨.head _, by rfl⟩
      | _, .tail _ (.head _) => exact ⟨.tail _ (.head _), by rfl⟩
    · exact Ev.meth (Ev.cell (x := "self") (.head _) (by rfl) rfl (by decide)) (.cons (Ev.bin (Ev.bin (Ev.cell (x := "value") (.tail _ (.head _)) (by rfl) rfl (by decide)) (Ev.loc (x := "off") (.head _) (by rfl) rfl (by decide)) (Op2.shr (hoff i hi))) Ev.intC Op2.and) rfl .nil) W.cls W.m57.1 W.m57.2.1 W.m57.2.2 (f57 W.toWd hs (and63 _).1 (and63 _).2) (fun z => by cases z) (rm'.less (by omega)) (fun _ _ _ _ _ _ _ _ _ => rfl) rfl (by decide) rfl
    · rw [range_map sg (fun i => Builtin.bitAnd ((v * 2 ^ p.toNat).fdiv (2 ^ (b + p - 6 + (i : Int) * -6).toNat)) 63)]
      exact CallV.bytes rm.h (sg_byte hs fun x hx => by obtain ⟨i, _, rfl⟩ := List.mem_map.mp hx; exact and63 _) (by rw [sgOf_len]; simp; omega)

set_option maxHeartbeats 1000000 in
theorem f246 (W : Wi G C) {v : Int} {R : AV} (h0 : 0 ≤ v) (h1 : v ≤ 1073741823) (h : FnV G false 4 222 [aEng C sg big, aInt v, aInt 30] R) : FnV G false 6 246 [aEng C sg big, aInt v] R := by
  refine FnV.mk (xs := ["self", "value"]) (σ := ⟨[("self", aEng C sg big), ("value", aInt v)], []⟩) W.m246.2.2 rfl rfl ?_ rfl (by decide) (by rfl) (by rfl) (fun L p hp => nomatch hp) rfl rfl rfl ?_
  · intro vs hv
    match vs, hv with
    | [a, b], _ => rfl
  · intro A L rm
    refine Rt.cons (Nx1.if_f (Tr.or_f (Tr.cmp (Ev.loc (x := "value") (.tail _ (.head _)) (by rfl) rfl (by decide)) Ev.intC (Op2.lt (by simp; omega))) (Tr.cmp (Ev.loc (x := "value") (.tail _ (.head _)) (by rfl) rfl (by decide)) Ev.intC (Op2.gt (by simp; omega)))) Nx.nil) ?_
    exact Rt.here (Rt1.ret (Ev.meth (Ev.loc (x := "self") (.head _) (by rfl) rfl (by decide)) (.cons (Ev.loc (x := "value") (.tail _ (.head _)) (by rfl) rfl (by decide)) rfl (.cons Ev.intC rfl .nil)) W.cls W.m222.1 W.m222.2.1 W.m222.2.2 h (fun z => by cases z) (Rm.deeper rm) (fun _ _ _ _ _ _ _ _ _ => rfl) rfl (by decide) rfl))

set_option maxHeartbeats 1000000 in
theorem f253 (W : Wi G C) {v : Int} {R : AV} (h0 : 0 ≤ v) (h1 : v ≤ 18446744073709551615) (h : FnV G false 4 222 [aEng C sg big, aInt v, aInt 64] R) : FnV G false 6 253 [aEng C sg big, aInt v] R := by
  refine FnV.mk (xs := ["self", "value"]) (σ := ⟨[("self", aEng C sg big), ("value", aInt v)], []⟩) W.m253.2.2 rfl rfl ?_ rfl (by decide) (by rfl) (by rfl) (fun L p hp => nomatch hp) rfl rfl rfl ?_
  · intro vs hv
    match vs, hv with
    | [a, b], _ => rfl
  · intro A L rm
    refine Rt.cons (Nx1.if_f (Tr.or_f (Tr.cmp (Ev.loc (x := "value") (.tail _ (.head _)) (by rfl) rfl (by decide)) Ev.intC (Op2.lt (by simp; omega))) (Tr.cmp (Ev.loc (x := "value") (.tail _ (.head _)) (by rfl) rfl (by decide)) Ev.intC (Op2.gt (by simp; omega)))) Nx.nil) ?_
    exact Rt.here (Rt1.ret (Ev.meth (Ev.loc (x := "self") (.head _) (by rfl) rfl (by decide)) (.cons (Ev.loc (x := "value") (.tail _ (.head _)) (by rfl) rfl (by decide)) rfl (.cons Ev.intC rfl .nil)) W.cls W.m222.1 W.m222.2.1 W.m222.2.2 h (fun z => by cases z) (Rm.deeper rm) (fun _ _ _ _ _ _ _ _ _ => rfl) rfl (by decide) rfl))

set_option maxHeartbeats 1000000 in
theorem f229 (W : Wi G C) (hs : Signs sg) {v : Int} (h0 : 0 ≤ v) (h1 : v ≤ 63) : FnV G false 2 229 [aEng C sg big, aInt v] (aByt (cut (some v) (some (v + 1)) sg)) := by
  refine FnV.mk (xs := ["self", "value"]) (σ := ⟨[("self", aEng C sg big), ("value", aInt v)], []⟩) W.m229.2.2 rfl rfl ?_ rfl (by decide) (by rfl) (by rfl) (fun L p hp => nomatch hp) rfl rfl rfl ?_
  · intro vs hv
    match vs, hv with
    | [a, b], _ => rfl
  · intro A L rm
    have hl := hs.len
    refine Rt.cons (Nx1.if_f (Tr.or_f (Tr.cmp (Ev.loc (x := "value") (.tail _ (.head _)) (by rfl) rfl (by decide)) Ev.intC (Op2.lt (by simp; omega))) (Tr.cmp (Ev.loc (x := "value") (.tail _ (.head _)) (by rfl) rfl (by decide)) Ev.intC (Op2.gt (by simp; omega)))) Nx.nil) ?_
    exact Rt.here (Rt1.ret (Ev.sub (Ev.bytemap (Ev.loc (x := "self") (.head _) (by rfl) rfl (by decide)) W.cls (by rfl)) (Ev.slice (.int (Ev.loc (x := "value") (.tail _ (.head _)) (by rfl) rfl (by decide))) (.int (Ev.bin (Ev.loc (x := "value") (.tail _ (.head _)) (by rfl) rfl (by decide)) Ev.intC Op2.add)) .none) (Sub2.bslice (by omega))))
end
end
section

theorem rev_item {vs : List Value} {ns : List Int} (ia : IntsAre vs ns) {i : Nat} (hi : i < ns.length) {v : Value} (h : vs.toArray[vs.toArray.size - 1 - i]? = some v) : ∃ t, v = .int (ns.reverse.getD i 0) t := by
  have hl : vs.length = ns.length := ia.length
  have h' : vs[vs.length - 1 - i]? = some v := by simpa using h
  have hlt : ns.length - 1 - i < ns.length := by omega
  obtain ⟨t, e⟩ := ia.get (ns.length - 1 - i) _ (List.getElem?_eq_getElem hlt)
  rw [hl, e] at h'
  cases h'
  refine ⟨t, ?_⟩
  rw [List.getD_eq_getElem?_getD, List.getElem?_reverse hi, List.getElem?_eq_getElem hlt]
  rfl

section
variable {c : Fx} {σ : St} {X : List Addr} {s : Shared} {I l : Addr} {vs : List Value} {ns : List Int} {x : Str} {elt iter : Expr} {scope : Scope} {cl : List (Str × Addr)} {cs : List (Str × AV)} {pos px : Pos} {r : Nat → Int} {Q E : Value → Shared → Prop}
theorem rev_comp (S : Sat c σ (I :: X) s) (hi : Ev c σ iter (aVal (.ref I))) (hrev : s.heap.IsRevIter I l ((ns.length : Int) - 1)) (hl : s.heap.IsList l vs.toArray) (ia : IntsAre vs ns) (h0 : c.G.h₀.objs.size ≤ I) (hh : c.A.handled = none) (hz : ns.length ≤ 1000) (hfl : c.fl = false)
    (hclos : closureFor scope c.env = pure cl) (hcell : ∀ y ∈ scope.names, y.2 ≠ .cell) (hkind : scope.kind = .function) (hnames : ∀ y ∈ scope.names, y.2 = .local → scope.names.lookup y.1 = some .local) (hx : scope.names.lookup x = some .local)
    (hsub : ∀ y a, cl.lookup y = some a → c.env.cells.lookup y = some a) (hcs : ∀ p ∈ cs, p ∈ σ.cel ∧ (cl.lookup p.1).isSome = true)
    (he : ∀ i C, i < ns.length → Ev (cfx c scope cl C) ⟨[(x, aInt (ns.reverse.getD i 0))], cs⟩ elt (aInt (r i))) (hs : ∀ x, foldedSetIterable iter c.env x = pure x)
    (q : ∀ D s' ys, Step c.G false [I] s s' → s'.heap.PlainList D ys → IntsAre ys.toList ((List.range ns.length).map r) → Q (.ref D) s') : wpAny c.M c.A (eval (.ListComp elt [⟨.Name x px, iter, [], 0⟩] scope pos) c.env) Q E s := by
  refine listcomp_ev hclos hcell hkind hnames hx (hi (I :: X) s S _ _ fun xv s₁ k₁ e₁ => ?_) hs
  have e₁ : xv = .ref I := e₁
  subst e₁
  have S₁ := S.step k₁
  have k₁ : Step c.G false [] s s₁ := by
    have hT : c.T = [] := by unfold Fx.T; rw [hfl]; rfl
    rw [hT, hfl] at k₁; exact k₁
  have hrev₁ : s₁.heap.IsRevIter I l ((ns.length : Int) - 1) := hrev.at fun o e => k₁.keep _ _ (by simp) e
  have hl₁ : s₁.heap.IsList l vs.toArray := isList_keeps (fun b o e => k₁.keep b o (by simp) e) hl
  have hsz : vs.toArray.size = ns.length := by simpa using ia.length
  have hI : I < s₁.heap.objs.size := let ⟨o, e, _⟩ := hrev₁; Heap.lt_size e
  have hlI : l < s₁.heap.objs.size := let ⟨o, e, _⟩ := hl₁; Heap.lt_size e
  have hne : l ≠ I := fun z => by
    obtain ⟨o, e, hc, _⟩ := hrev₁
    obtain ⟨o', e', hc', _⟩ := hl₁
    rw [z, e] at e'; cases e'; rw [hc] at hc'; simp at hc'
  have W := Itr.walk (G := c.G) (nc := s₁.heap.objs.size) (Walks.listRev (prog := c.G.prog) (w := c.G.w) (A := c.A) hh I l hne vs.toArray) h0 (fun b hb => by
    rcases List.mem_cons.mp hb with hb | hb
    · exact hb ▸ hI
    · exact List.mem_singleton.mp hb ▸ hlI) hI (fun i h S => let ⟨_, ⟨o, e, hc, hd⟩, _⟩ := S; ⟨o, e, fun z => by rw [hc] at z; simp at z, fun v z => by rw [hd] at z; cases z⟩)
  rw [hsz] at W
  have W' := W.imp (P' := fun i v => ∃ t, v = .int (ns.reverse.getD i 0) t) fun i v hi h => rev_item ia hi (by rw [hsz]; exact h)
  refine wpAny_pyIter_revIter hrev₁ ⟨I, _, _, [I], none, ns.length, _, fun i v => ∃ t, v = .int (r i) t, _, rfl, W', by rw [sizeLine_eq]; omega, S₁.ok, ⟨Nat.zero_le _, by simpa using hrev₁, hl₁⟩, Nat.le_refl _, fun i v C s₃ m E' hi' hv hC ok kp hex hn hm Q' q' => ?_, fun D s₃ ys hD hl hF mv => ?_⟩
  · obtain ⟨t, rfl⟩ := hv
    refine he i C hi' (C :: I :: X) s₃ (cfx_sat (P := aInt (ns.reverse.getD i 0)) S₁ hsub hcs hC ok (fun b o n e => kp b o (fun m => n (List.mem_singleton.mp m ▸ .head _)) e) (fun b o hc e => kp b o (fun m => ?_) e) (fun a ha => ?_) hn hm ⟨t, rfl⟩) Q' E' fun y s₄ k₄ p₄ => q' y s₄ p₄ k₄
    · obtain ⟨v, hc⟩ := hc
      obtain ⟨o', e', _, hd⟩ := hrev₁
      rw [List.mem_singleton.mp m, e'] at e; cases e; rw [hd] at hc; cases hc
    · by_cases z : a = I
      · rw [z]; exact hex I (.head _)
      · obtain ⟨o, e⟩ := S₁.live a ha
        exact ⟨o, kp _ _ (fun m => z (List.mem_singleton.mp m)) e⟩
  · exact q D s₃ ys ((k₁.more fun _ m => nomatch m).trans (mv.step S₁.ok)) hl (items_ints hF)
end

section
variable {G : Gl} {C : Addr} {sg : List Int} {big : Bool}
theorem range_map2 (sg l : List Int) : (List.range l.length).map (fun i => sg.getD (l.getD i 0).toNat 0) = sgOf sg l := map_range (fun v => sg.getD v.toNat 0) l
def dig12 (v : Int) : List Int := [Builtin.bitAnd v 63, Builtin.bitAnd (v.fdiv (2 ^ (6 : Int).toNat)) 63]
def dig24 (v : Int) : List Int := [Builtin.bitAnd v 63, Builtin.bitAnd (v.fdiv (2 ^ (6 : Int).toNat)) 63, Builtin.bitAnd (v.fdiv (2 ^ (12 : Int).toNat)) 63, Builtin.bitAnd (v.fdiv (2 ^ (18 : Int).toNat)) 63]
theorem d234_in (v : Int) : ∀ x ∈ dig12 v, 0 ≤ x ∧ x < 64 := fun x hx => by
  unfold dig12 at hx
  simp only [List.mem_cons, List.not_mem_nil, or_false] at hx
  rcases hx with rfl | rfl <;> exact and63 _
set_option maxHeartbeats 2000000 in
theorem f234L (W : Wi G C) (hs : Signs sg) {v : Int} (h0 : 0 ≤ v) (h1 : v ≤ 4095) : FnV G false 4 234 [aEng C sg false, aInt v] (aByt (sgOf sg (dig12 v))) := by
  refine FnV.mk (xs := ["self", "value"]) (σ := ⟨[("value", aInt v)], [("self", aEng C sg false)]⟩) W.m234.2.2 rfl rfl ?_ rfl (by decide) (by rfl) (by rfl) ?_ rfl rfl rfl ?_
  · intro vs hv
    match vs, hv with
    | [a, b], _ => rfl
  · intro L p hp
    rw [List.mem_singleton.mp hp]; exact .head _
  · intro A L rm
    have rm' : Rm (A.deeper (callEnvC fd234 L 234)) 2 := Rm.deeper rm
    refine Rt.cons (Nx1.if_f (Tr.or_f (Tr.cmp (Ev.loc (x := "value") (.head _) (by rfl) rfl (by decide)) Ev.intC (Op2.lt (by simp; omega))) (Tr.cmp (Ev.loc (x := "value") (.head _) (by rfl) rfl (by decide)) Ev.intC (Op2.gt (by simp; omega)))) Nx.nil) ?_
    refine Rt.cons (Nx1.assignS (x := "raw") (P := aRow (dig12 v)) (Ev.row (ns := dig12 v) (.cons (Ev.bin (Ev.loc (x := "value") (.head _) (by rfl) rfl (by decide)) Ev.intC Op2.and) rfl (.cons (Ev.bin (Ev.bin (Ev.loc (x := "value") (.head _) (by rfl) rfl (by decide)) Ev.intC (Op2.shr (by decide))) Ev.intC Op2.and) rfl .nil)) (by rw [sizeLine_eq]; show 2 ≤ _; decide)) (Sto.loc rfl (by rfl)) rfl) ?_
    refine Rt.cons (Nx1.if_f (Tr.val (Ev.big (Ev.cell (x := "self") (.head _) (by rfl) rfl (by decide)) W.cls (by rfl)) TrV.bool (by rfl)) Nx.nil) ?_
    refine Rt.here (Rt1.ret (Ev.call (Ev.bi W.bytes (by rfl) rfl rfl rfl (by decide)) (.cons (Ev.listcomp (n := (dig12 v).length) (r := fun i => sg.getD ((dig12 v).getD i 0).toNat 0) (cl := [("self", L + 1)]) (cs := [("self", aEng C sg false)]) ((Ev.loc (x := "raw") (P := aRow (dig12 v)) (.tail _ (.head _)) (by rfl) rfl (by decide)).le row_ints) (iter_ints rm.h) (by rw [sizeLine_eq]; show 2 ≤ _; decide) rfl (by decide +kernel) rfl (by decide +kernel) (by rfl) (lookup_one rfl) (fun p hp => by rw [List.mem_singleton.mp hp]; exact ⟨.head _, by rfl⟩) (fun i C' hi => ?_) (fun _ => rfl)) rfl .nil) KeepsIt.type ?_))
    · have hm := d234_in v _ (by rw [List.getD_eq_getElem?_getD, List.getElem?_eq_getElem hi]; exact List.getElem_mem hi : (dig12 v).getD i 0 ∈ dig12 v)
      exact Ev.meth (Ev.cell (x := "self") (.head _) (by rfl) rfl (by decide)) (.cons (Ev.loc (x := "c") (.head _) (by rfl) rfl (by decide)) rfl .nil) W.cls W.m57.1 W.m57.2.1 W.m57.2.2 (f57 W.toWd hs hm.1 hm.2) (fun z => by cases z) (rm'.less (by omega)) (fun _ _ _ _ _ _ _ _ _ => rfl) rfl (by decide) rfl
    · rw [range_map2]
      exact CallV.bytes rm.h (sg_byte hs (d234_in v)) (by rw [sgOf_len]; show 2 ≤ _; decide)
set_option maxHeartbeats 2000000 in
theorem f234B (W : Wi G C) (hs : Signs sg) {v : Int} (h0 : 0 ≤ v) (h1 : v ≤ 4095) : FnV G false 4 234 [aEng C sg true, aInt v] (aByt (sgOf sg (dig12 v).reverse)) := by
  refine FnV.mk (xs := ["self", "value"]) (σ := ⟨[("value", aInt v)], [("self", aEng C sg true)]⟩) W.m234.2.2 rfl rfl ?_ rfl (by decide) (by rfl) (by rfl) ?_ rfl rfl rfl ?_
  · intro vs hv
    match vs, hv with
    | [a, b], _ => rfl
  · intro L p hp
    rw [List.mem_singleton.mp hp]; exact .head _
  · intro A L rm
    have rm' : Rm (A.deeper (callEnvC fd234 L 234)) 2 := Rm.deeper rm
    refine Rt.cons (Nx1.if_f (Tr.or_f (Tr.cmp (Ev.loc (x := "value") (.head _) (by rfl) rfl (by decide)) Ev.intC (Op2.lt (by simp; omega))) (Tr.cmp (Ev.loc (x := "value") (.head _) (by rfl) rfl (by decide)) Ev.intC (Op2.gt (by simp; omega)))) Nx.nil) ?_
    refine Rt.cons (Nx1.assignS (x := "raw") (P := aRow (dig12 v)) (Ev.row (ns := dig12 v) (.cons (Ev.bin (Ev.loc (x := "value") (.head _) (by rfl) rfl (by decide)) Ev.intC Op2.and) rfl (.cons (Ev.bin (Ev.bin (Ev.loc (x := "value") (.head _) (by rfl) rfl (by decide)) Ev.intC (Op2.shr (by decide))) Ev.intC Op2.and) rfl .nil)) (by rw [sizeLine_eq]; show 2 ≤ _; decide)) (Sto.loc rfl (by rfl)) rfl) ?_
    intro X s S Q E q
    refine wpAny_execs_cons (wpAny_If ((Tr.val (Ev.big (Ev.cell (x := "self") (.head _) (by rfl) rfl (by decide)) W.cls (by rfl)) TrV.bool (by rfl)) X s S _ _ fun s₁ k₁ => ?_))
    rw [if_pos rfl]
    have S₁ := S.step k₁
    refine wpAny_execs_cons (wpAny_Assign_Name (call1 S₁ (Ev.bi W.reversed (by rfl) rfl rfl rfl (by decide)) KeepsIt.type rfl fun s₂ S₂ k₂ => (Ev.loc (x := "raw") (P := aRow (dig12 v)) (.tail _ (.head _)) (by rfl) rfl (by decide)) X s₂ S₂ _ _ fun u s₃ k₃ p₃ => ?_) rfl)
    obtain ⟨l, vs, rfl, ⟨n, pl⟩, ia⟩ := p₃
    have S₃ := S₂.step k₃
    have hl : s₃.heap.IsList l vs.toArray := Heap.PlainList.isList ⟨n, view_sub _ _ pl⟩
    refine ⟨S₃.ok, call_reversed_list hl ?_⟩
    have k₄ : Step G false [] s₃ { s₃ with heap := s₃.heap.push (revObj l ((vs.toArray.size : Int) - 1)) } := .push
    have hI : (s₃.heap.push (revObj l ((vs.toArray.size : Int) - 1))).get? s₃.heap.objs.size = some (revObj l ((vs.toArray.size : Int) - 1)) := Heap.get?_push_size _ rfl
    generalize hIe : s₃.heap.objs.size = I at hI
    have hIX : I ∉ X := hIe ▸ S₃.new_off (Nat.le_refl _)
    have S₄ := S₃.hide k₄ (Nat.le_of_eq hIe) ⟨_, hI⟩
    refine (Sto.loc (c := fxOf G A false fd234 234 L) (x := "raw") (P := aVal (.ref I)) rfl (by rfl)) (I :: X) _ (.ref I) S₄ rfl _ _ fun s₅ k₅ S₅ => ?_
    refine wpAny_execs_nil ?_
    have offI : I ∉ (fxOf G A false fd234 234 L).own ++ (fxOf G A false fd234 234 L).T := off_own S hIX
    have hI₅ := k₅.keep _ _ offI hI
    have hsz : ((vs.toArray.size : Nat) : Int) - 1 = ((dig12 v).length : Int) - 1 := by have := ia.length; simp only [List.size_toArray]; omega
    rw [hsz] at hI₅
    have hlX : l ∉ X := (view_of pl).2
    have hl₅ : s₅.heap.IsList l vs.toArray := by
      refine Heap.PlainList.isList ⟨n, k₅.keep _ _ (off_own S hlX) (Heap.get?_push_of_some _ (view_sub _ _ pl))⟩
    refine wpAny_execs_cons (wpAny_Return_some (call1 S₅ (Ev.bi W.bytes (by rfl) rfl rfl rfl (by decide)) KeepsIt.type rfl fun s₆ S₆ k₆ => ?_))
    have k₆ : Step G false [] s₅ s₆ := k₆
    refine rev_comp (ns := dig12 v) (vs := vs) (l := l) (r := fun i => sg.getD (((dig12 v).reverse).getD i 0).toNat 0) (cl := [("self", L + 1)]) (cs := [("self", aEng C sg true)]) S₆ (Ev.loc (x := "raw") (P := aVal (.ref I)) (.tail _ (.head _)) (by rfl) rfl (by decide)) ⟨_, k₆.keep _ _ (by simp) hI₅, rfl, rfl⟩ (isList_keeps (fun b o e => k₆.keep b o (by simp) e) hl₅) ia (hIe ▸ S₃.ok.low) rm.h (by show 2 ≤ _; decide) rfl rfl (by decide +kernel) rfl (by decide +kernel) (by rfl) (lookup_one rfl) (fun p hp => by rw [List.mem_singleton.mp hp]; exact ⟨.head _, by rfl⟩) (fun i C' hi => ?_) (fun _ => rfl) fun D s₇ ys k₇ hD hi => ?_
    · have hm := d234_in v _ (by rw [List.getD_eq_getElem?_getD, List.getElem?_eq_getElem (by simpa using hi)]; exact List.mem_reverse.mp (List.getElem_mem _) : (dig12 v).reverse.getD i 0 ∈ dig12 v)
      exact Ev.meth (Ev.cell (x := "self") (.head _) (by rfl) rfl (by decide)) (.cons (Ev.loc (x := "c") (.head _) (by rfl) rfl (by decide)) rfl .nil) W.cls W.m57.1 W.m57.2.1 W.m57.2.2 (f57 W.toWd hs hm.1 hm.2) (fun z => by cases z) (rm'.less (by omega)) (fun _ _ _ _ _ _ _ _ _ => rfl) rfl (by decide) rfl
    · have ok₇ := k₇.ok S₆.ok
      rw [show (dig12 v).length = (dig12 v).reverse.length by simp, range_map2] at hi
      have hby := sg_byte hs (l := (dig12 v).reverse) fun x hx => d234_in v x (List.mem_reverse.mp hx)
      have hl' : s₇.heap.IsList D ys.toList.toArray := by simpa using hD.isList
      refine ⟨ok₇, call_bytes_ints hl' hi hby (by rw [hi.length, sgOf_len, sizeLine_eq]; show 2 ≤ _; decide) rm.h fun h' t tk hk => q _ _ ?_ ⟨_, t, rfl, KBa.ints_make hby⟩⟩
      have k₁₀ : Step G false [] s₇ { s₇ with heap := h', toks := tk } := Step.heap hk
      have tot : Step G false (I :: (fxOf G A false fd234 234 L).own) s { s₇ with heap := h', toks := tk } := by
        refine Step.trans (Step.more k₁ fun _ m => nomatch m) (Step.trans (Step.more k₂ fun _ m => nomatch m) (Step.trans (Step.more k₃ fun _ m => nomatch m) (Step.trans (k₄.more fun _ m => nomatch m) (Step.trans (Step.more k₅ fun a m => ?_) (Step.trans (k₆.more fun _ m => nomatch m) (Step.trans (k₇.more fun a m => ?_) (k₁₀.more fun _ m => nomatch m)))))))
        · rcases List.mem_append.mp m with m | m
          · exact .tail _ m
          · cases m
        · exact List.mem_singleton.mp m ▸ .head _
      refine tot.less fun a o m e => ?_
      rcases List.mem_cons.mp m with m | m
      · by_cases z : a ∈ (fxOf G A false fd234 234 L).own
        · exact List.mem_append_left _ z
        · have e1 := (Step.trans k₁ (Step.trans k₂ k₃)).keep a o (fun m => nomatch m) e
          rw [m, ← hIe, none_of_ge (Nat.le_refl _)] at e1; cases e1
      · exact List.mem_append_left _ m

theorem d239_in (v : Int) : ∀ x ∈ dig24 v, 0 ≤ x ∧ x < 64 := fun x hx => by
  unfold dig24 at hx
  simp only [List.mem_cons, List.not_mem_nil, or_false] at hx
  rcases hx with rfl | rfl | rfl | rfl <;> exact and63 _
set_option maxHeartbeats 2000000 in
theorem f239L (W : Wi G C) (hs : Signs sg) {v : Int} (h0 : 0 ≤ v) (h1 : v ≤ 16777215) : FnV G false 4 239 [aEng C sg false, aInt v] (aByt (sgOf sg (dig24 v))) := by
  refine FnV.mk (xs := ["self", "value"]) (σ := ⟨[("value", aInt v)], [("self", aEng C sg false)]⟩) W.m239.2.2 rfl rfl ?_ rfl (by decide) (by rfl) (by rfl) ?_ rfl rfl rfl ?_
  · intro vs hv
    match vs, hv with
    | [a, b], _ => rfl
  · intro L p hp
    rw [List.mem_singleton.mp hp]; exact .head _
  · intro A L rm
    have rm' : Rm (A.deeper (callEnvC fd239 L 239)) 2 := Rm.deeper rm
    refine Rt.cons (Nx1.if_f (Tr.or_f (Tr.cmp (Ev.loc (x := "value") (.head _) (by rfl) rfl (by decide)) Ev.intC (Op2.lt (by simp; omega))) (Tr.cmp (Ev.loc (x := "value") (.head _) (by rfl) rfl (by decide)) Ev.intC (Op2.gt (by simp; omega)))) Nx.nil) ?_
    refine Rt.cons (Nx1.assignS (x := "raw") (P := aRow (dig24 v)) (Ev.row (ns := dig24 v) (.cons (Ev.bin (Ev.loc (x := "value") (.head _) (by rfl) rfl (by decide)) Ev.intC Op2.and) rfl (.cons (Ev.bin (Ev.bin (Ev.loc (x := "value") (.head _) (by rfl) rfl (by decide)) Ev.intC (Op2.shr (by decide))) Ev.intC Op2.and) rfl (.cons (Ev.bin (Ev.bin (Ev.loc (x := "value") (.head _) (by rfl) rfl (by decide)) Ev.intC (Op2.shr (by decide))) Ev.intC Op2.and) rfl (.cons (Ev.bin (Ev.bin (Ev.loc (x := "value") (.head _) (by rfl) rfl (by decide)) Ev.intC (Op2.shr (by decide))) Ev.intC Op2.and) rfl .nil)))) (by rw [sizeLine_eq]; show 4 ≤ _; decide)) (Sto.loc rfl (by rfl)) rfl) ?_
    refine Rt.cons (Nx1.if_f (Tr.val (Ev.big (Ev.cell (x := "self") (.head _) (by rfl) rfl (by decide)) W.cls (by rfl)) TrV.bool (by rfl)) Nx.nil) ?_
    refine Rt.here (Rt1.ret (Ev.call (Ev.bi W.bytes (by rfl) rfl rfl rfl (by decide)) (.cons (Ev.listcomp (n := (dig24 v).length) (r := fun i => sg.getD ((dig24 v).getD i 0).toNat 0) (cl := [("self", L + 1)]) (cs := [("self", aEng C sg false)]) ((Ev.loc (x := "raw") (P := aRow (dig24 v)) (.tail _ (.head _)) (by rfl) rfl (by decide)).le row_ints) (iter_ints rm.h) (by rw [sizeLine_eq]; show 4 ≤ _; decide) rfl (by decide +kernel) rfl (by decide +kernel) (by rfl) (lookup_one rfl) (fun p hp => by rw [List.mem_singleton.mp hp]; exact ⟨.head _, by rfl⟩) (fun i C' hi => ?_) (fun _ => rfl)) rfl .nil) KeepsIt.type ?_))
    · have hm := d239_in v _ (by rw [List.getD_eq_getElem?_getD, List.getElem?_eq_getElem hi]; exact List.getElem_mem hi : (dig24 v).getD i 0 ∈ dig24 v)
      exact Ev.meth (Ev.cell (x := "self") (.head _) (by rfl) rfl (by decide)) (.cons (Ev.loc (x := "c") (.head _) (by rfl) rfl (by decide)) rfl .nil) W.cls W.m57.1 W.m57.2.1 W.m57.2.2 (f57 W.toWd hs hm.1 hm.2) (fun z => by cases z) (rm'.less (by omega)) (fun _ _ _ _ _ _ _ _ _ => rfl) rfl (by decide) rfl
    · rw [range_map2]
      exact CallV.bytes rm.h (sg_byte hs (d239_in v)) (by rw [sgOf_len]; show 4 ≤ _; decide)
set_option maxHeartbeats 2000000 in
theorem f239B (W : Wi G C) (hs : Signs sg) {v : Int} (h0 : 0 ≤ v) (h1 : v ≤ 16777215) : FnV G false 4 239 [aEng C sg true, aInt v] (aByt (sgOf sg (dig24 v).reverse)) := by
  refine FnV.mk (xs := ["self", "value"]) (σ := ⟨[("value", aInt v)], [("self", aEng C sg true)]⟩) W.m239.2.2 rfl rfl ?_ rfl (by decide) (by rfl) (by rfl) ?_ rfl rfl rfl ?_
  · intro vs hv
    match vs, hv with
    | [a, b], _ => rfl
  · intro L p hp
    rw [List.mem_singleton.mp hp]; exact .head _
  · intro A L rm
    have rm' : Rm (A.deeper (callEnvC fd239 L 239)) 2 := Rm.deeper rm
    refine Rt.cons (Nx1.if_f (Tr.or_f (Tr.cmp (Ev.loc (x := "value") (.head _) (by rfl) rfl (by decide)) Ev.intC (Op2.lt (by simp; omega))) (Tr.cmp (Ev.loc (x := "value") (.head _) (by rfl) rfl (by decide)) Ev.intC (Op2.gt (by simp; omega)))) Nx.nil) ?_
    refine Rt.cons (Nx1.assignS (x := "raw") (P := aRow (dig24 v)) (Ev.row (ns := dig24 v) (.cons (Ev.bin (Ev.loc (x := "value") (.head _) (by rfl) rfl (by decide)) Ev.intC Op2.and) rfl (.cons (Ev.bin (Ev.bin (Ev.loc (x := "value") (.head _) (by rfl) rfl (by decide)) Ev.intC (Op2.shr (by decide))) Ev.intC Op2.and) rfl (.cons (Ev.bin (Ev.bin (Ev.loc (x := "value") (.head _) (by rfl) rfl (by decide)) Ev.intC (Op2.shr (by decide))) Ev.intC Op2.and) rfl (.cons (Ev.bin (Ev.bin (Ev.loc (x := "value") (.head _) (by rfl) rfl (by decide)) Ev.intC (Op2.shr (by decide))) Ev.intC Op2.and) rfl .nil)))) (by rw [sizeLine_eq]; show 4 ≤ _; decide)) (Sto.loc rfl (by rfl)) rfl) ?_
    intro X s S Q E q
    refine wpAny_execs_cons (wpAny_If ((Tr.val (Ev.big (Ev.cell (x := "self") (.head _) (by rfl) rfl (by decide)) W.cls (by rfl)) TrV.bool (by rfl)) X s S _ _ fun s₁ k₁ => ?_))
    rw [if_pos rfl]
    have S₁ := S.step k₁
    refine wpAny_execs_cons (wpAny_Assign_Name (call1 S₁ (Ev.bi W.reversed (by rfl) rfl rfl rfl (by decide)) KeepsIt.type rfl fun s₂ S₂ k₂ => (Ev.loc (x := "raw") (P := aRow (dig24 v)) (.tail _ (.head _)) (by rfl) rfl (by decide)) X s₂ S₂ _ _ fun u s₃ k₃ p₃ => ?_) rfl)
    obtain ⟨l, vs, rfl, ⟨n, pl⟩, ia⟩ := p₃
    have S₃ := S₂.step k₃
    have hl : s₃.heap.IsList l vs.toArray := Heap.PlainList.isList ⟨n, view_sub _ _ pl⟩
    refine ⟨S₃.ok, call_reversed_list hl ?_⟩
    have k₄ : Step G false [] s₃ { s₃ with heap := s₃.heap.push (revObj l ((vs.toArray.size : Int) - 1)) } := .push
    have hI : (s₃.heap.push (revObj l ((vs.toArray.size : Int) - 1))).get? s₃.heap.objs.size = some (revObj l ((vs.toArray.size : Int) - 1)) := Heap.get?_push_size _ rfl
    generalize hIe : s₃.heap.objs.size = I at hI
    have hIX : I ∉ X := hIe ▸ S₃.new_off (Nat.le_refl _)
    have S₄ := S₃.hide k₄ (Nat.le_of_eq hIe) ⟨_, hI⟩
    refine (Sto.loc (c := fxOf G A false fd239 239 L) (x := "raw") (P := aVal (.ref I)) rfl (by rfl)) (I :: X) _ (.ref I) S₄ rfl _ _ fun s₅ k₅ S₅ => ?_
    refine wpAny_execs_nil ?_
    have offI : I ∉ (fxOf G A false fd239 239 L).own ++ (fxOf G A false fd239 239 L).T := off_own S hIX
    have hI₅ := k₅.keep _ _ offI hI
    have hsz : ((vs.toArray.size : Nat) : Int) - 1 = ((dig24 v).length : Int) - 1 := by have := ia.length; simp only [List.size_toArray]; omega
    rw [hsz] at hI₅
    have hlX : l ∉ X := (view_of pl).2
    have hl₅ : s₅.heap.IsList l vs.toArray := by
      refine Heap.PlainList.isList ⟨n, k₅.keep _ _ (off_own S hlX) (Heap.get?_push_of_some _ (view_sub _ _ pl))⟩
    refine wpAny_execs_cons (wpAny_Return_some (call1 S₅ (Ev.bi W.bytes (by rfl) rfl rfl rfl (by decide)) KeepsIt.type rfl fun s₆ S₆ k₆ => ?_))
    have k₆ : Step G false [] s₅ s₆ := k₆
    refine rev_comp (ns := dig24 v) (vs := vs) (l := l) (r := fun i => sg.getD (((dig24 v).reverse).getD i 0).toNat 0) (cl := [("self", L + 1)]) (cs := [("self", aEng C sg true)]) S₆ (Ev.loc (x := "raw") (P := aVal (.ref I)) (.tail _ (.head _)) (by rfl) rfl (by decide)) ⟨_, k₆.keep _ _ (by simp) hI₅, rfl, rfl⟩ (isList_keeps (fun b o e => k₆.keep b o (by simp) e) hl₅) ia (hIe ▸ S₃.ok.low) rm.h (by show 4 ≤ _; decide) rfl rfl (by decide +kernel) rfl (by decide +kernel) (by rfl) (lookup_one rfl) (fun p hp => by rw [List.mem_singleton.mp hp]; exact ⟨.head _, by rfl⟩) (fun i C' hi => ?_) (fun _ => rfl) fun D s₇ ys k₇ hD hi => ?_
    · have hm := d239_in v _ (by rw [List.getD_eq_getElem?_getD, List.getElem?_eq_getElem (by simpa using hi)]; exact List.mem_reverse.mp (List.getElem_mem _) : (dig24 v).reverse.getD i 0 ∈ dig24 v)
      exact Ev.meth (Ev.cell (x := "self") (.head _) (by rfl) rfl (by decide)) (.cons (Ev.loc (x := "c") (.head _) (by rfl) rfl (by decide)) rfl .nil) W.cls W.m57.1 W.m57.2.1 W.m57.2.2 (f57 W.toWd hs hm.1 hm.2) (fun z => by cases z) (rm'.less (by omega)) (fun _ _ _ _ _ _ _ _ _ => rfl) rfl (by decide) rfl
    · have ok₇ := k₇.ok S₆.ok
      rw [show (dig24 v).length = (dig24 v).reverse.length by simp, range_map2] at hi
      have hby := sg_byte hs (l := (dig24 v).reverse) fun x hx => d239_in v x (List.mem_reverse.mp hx)
      have hl' : s₇.heap.IsList D ys.toList.toArray := by simpa using hD.isList
      refine ⟨ok₇, call_bytes_ints hl' hi hby (by rw [hi.length, sgOf_len, sizeLine_eq]; show 4 ≤ _; decide) rm.h fun h' t tk hk => q _ _ ?_ ⟨_, t, rfl, KBa.ints_make hby⟩⟩
      have k₁₀ : Step G false [] s₇ { s₇ with heap := h', toks := tk } := Step.heap hk
      have tot : Step G false (I :: (fxOf G A false fd239 239 L).own) s { s₇ with heap := h', toks := tk } := by
        refine Step.trans (Step.more k₁ fun _ m => nomatch m) (Step.trans (Step.more k₂ fun _ m => nomatch m) (Step.trans (Step.more k₃ fun _ m => nomatch m) (Step.trans (k₄.more fun _ m => nomatch m) (Step.trans (Step.more k₅ fun a m => ?_) (Step.trans (k₆.more fun _ m => nomatch m) (Step.trans (k₇.more fun a m => ?_) (k₁₀.more fun _ m => nomatch m)))))))
        · rcases List.mem_append.mp m with m | m
          · exact .tail _ m
          · cases m
        · exact List.mem_singleton.mp m ▸ .head _
      refine tot.less fun a o m e => ?_
      rcases List.mem_cons.mp m with m | m
      · by_cases z : a ∈ (fxOf G A false fd239 239 L).own
        · exact List.mem_append_left _ z
        · have e1 := (Step.trans k₁ (Step.trans k₂ k₃)).keep a o (fun m => nomatch m) e
          rw [m, ← hIe, none_of_ge (Nat.le_refl _)] at e1; cases e1
      · exact List.mem_append_left _ m

end
end
section
structure Wt (G : Gl) (C : Addr) : Prop extends Wi G C where
  m168 : MethAt G C "encode_transposed_bytes" 168 fd168
  m175 : MethAt G C "decode_transposed_bytes" 175 fd175

/-- the bytes at these places -/
def atAll (ks os : List Int) : List Int := os.map fun o => ks.getD o.toNat 0
section
variable {G : Gl} {C : Addr} {sg : List Int} {big : Bool}
set_option maxHeartbeats 1000000 in
theorem f168 (W : Wt G C) {ks os : List Int} {R : AV} (hk : ∀ x ∈ ks, 0 ≤ x ∧ x < 256) (hz : ks.length ≤ 1000) (hz' : os.length ≤ 1000) (ho : ∀ o ∈ os, 0 ≤ o ∧ o < ks.length) (h : FnV G true 13 91 [aEng C sg big, aByt (atAll ks os)] R) : FnV G true 15 168 [aEng C sg big, aByt ks, aInts os] R := by
  refine FnV.mk (xs := ["self", "source", "offsets"]) (σ := ⟨[("self", aEng C sg big), ("offsets", aInts os)], [("source", aByt ks)]⟩) W.m168.2.2 rfl rfl ?_ rfl (by decide) (by rfl) (by rfl) ?_ rfl rfl rfl ?_
  · intro vs hv
    match vs, hv with
    | [a, b, c], _ => rfl
  · intro L p hp
    rw [List.mem_singleton.mp hp]; exact .head _
  · intro A L rm
    refine Rt.cons (Nx1.if_f (Tr.not (b := true) (Tr.val (Ev.call (Ev.bi W.isinstance (by rfl) rfl rfl rfl (by decide)) (.cons (Ev.cell (x := "source") (.head _) (by rfl) rfl (by decide)) rfl (.cons (Ev.bi W.bytes (by rfl) rfl rfl rfl (by decide)) rfl .nil)) KeepsIt.builtin (CallV.isT kit_bytes)) TrV.bool (by rfl))) Nx.nil) ?_
    have hby : ∀ x ∈ atAll ks os, 0 ≤ x ∧ x < 256 := fun x hx => by
      obtain ⟨o, hm, rfl⟩ := List.mem_map.mp hx
      obtain ⟨h0, h1⟩ := ho o hm
      have : o.toNat < ks.length := by omega
      rw [List.getD_eq_getElem?_getD, List.getElem?_eq_getElem this]
      exact hk _ (List.getElem_mem this)
    have hlen : (atAll ks os).length ≤ 16777216 := by simp [atAll]; omega
    refine Rt.cons (Nx1.assignS (x := "tmp") (P := aByt (atAll ks os)) (Ev.call (Ev.bi W.bytes (by rfl) rfl rfl rfl (by decide)) (.cons (Ev.listcomp (n := os.length) (r := fun i => ks.getD (os.getD i 0).toNat 0) (cl := [("source", L + 1)]) (cs := [("source", aByt ks)]) (Ev.loc (x := "offsets") (.tail _ (.head _)) (by rfl) rfl (by decide)) (iter_ints rm.h) (by rw [sizeLine_eq]; omega) rfl (by decide +kernel) rfl (by decide +kernel) (by rfl) (lookup_one rfl) (fun p hp => by rw [List.mem_singleton.mp hp]; exact ⟨.head _, by rfl⟩) (fun i C' hi => ?_) (fun _ => rfl)) rfl .nil) KeepsIt.type ?_) (Sto.loc rfl (by rfl)) rfl) ?_
    · have hm := ho (os.getD i 0) (by rw [List.getD_eq_getElem?_getD, List.getElem?_eq_getElem hi]; exact List.getElem_mem hi)
      exact Ev.sub (Ev.cell (x := "source") (.head _) (by rfl) rfl (by decide)) (Ev.loc (x := "off") (.head _) (by rfl) rfl (by decide)) (Sub2.bytes (by omega) hm.1 hm.2 rfl (by intro _ _; rfl))
    · rw [map_range (fun o => ks.getD o.toNat 0)]
      exact CallV.bytes rm.h hby hlen
    · exact Rt.here (Rt1.ret (Ev.meth (Ev.loc (x := "self") (.head _) (by rfl) rfl (by decide)) (.cons (Ev.loc (x := "tmp") (.tail _ (.tail _ (.head _))) (by rfl) rfl (by decide)) rfl .nil) W.cls W.m91.1 W.m91.2.1 W.m91.2.2 h (fun _ => rfl) (Rm.deeper rm) (fun _ _ _ _ _ _ _ _ _ => rfl) rfl (by decide) rfl))
end
end
section

section
variable {prog : Program} {w : World} {A : Around} {E : Value → Shared → Prop} {s : Shared} {b : Array UInt8} {t : Tok}
theorem bytes_draw {it : Addr} {i : Nat} {c : UInt8} {Q : Value → Shared → Prop} (hit : KBw.IsBytesIter s.heap it b t i) (hx : b[i]? = some c)
    (hQ : ∀ h', KBw.IsBytesIter h' it b t (i + 1) → Heap.SameBut it s.heap h' → Q (.int (c.toNat : Int) s.toks) { s with heap := h', toks := s.toks + 1 }) : wpAny (model prog w) A (Builtin.SmallTypes.nextOf (.ref it)) Q E s := by
  obtain ⟨o, ho, hc, hd⟩ := id hit
  unfold Builtin.SmallTypes.nextOf
  refine wpAny_bind (wpAny_callSpecial?_slot (name := PySem.Str.ofString "__next__") (KBw.iter_typeIs hit) KBw.slot_next
    (wpAny_call_entry KBw.slot_next (KBw.iter_typeIs hit) KBw.entry_next ?_ (KBw.args_next _)))
  show wpAny _ _ (field (.ref it) 0 >>= _) _ _ s
  refine wpAny_bind (wpAny_field ho hd (x := .bytes b t) rfl ?_)
  show wpAny _ _ (if (Value.bytes b t == Value.none) = true then _ else _) _ _ s
  rw [if_neg (show ¬ ((Value.bytes b t == Value.none) = true) from Bool.false_ne_true)]
  show wpAny _ _ (field (.ref it) 1 >>= _) _ _ s
  refine wpAny_bind (wpAny_field ho hd (x := .int i 0) rfl ?_)
  refine wpAny_bind (wpAny_of_eq (a := b) rfl ?_)
  simp only [Int.toNat_natCast, hx]
  refine wpAny_bind (wpAny_setField ho hd (by simp) (wpAny_bind (wpAny_mkInt (wpAny_pure ⟨_, rfl, wpAny_pure (hQ _ ?_ (Heap.SameBut.update ..))⟩))))
  exact ⟨_, Heap.get?_update_self _ ho (Obj.isFreed_of_fields (Obj.data_mapFields hd _)), (Obj.cls_mapFields ..).trans hc, by
    rw [Obj.data_mapFields hd]; simp [rawInt]⟩
theorem bytes_drawn {it : Addr} {i : Nat} {Q : Value → Shared → Prop} (hh : A.handled = none) (hit : KBw.IsBytesIter s.heap it b t i) (hx : b[i]? = none)
    (hE : ∀ h' e, Heap.ExtBut it s.heap h' → (∃ o, h'.get? e = some o ∧ o.cls = .type "StopIteration") → E (.ref e) { s with heap := h' }) : wpAny (model prog w) A (Builtin.SmallTypes.nextOf (.ref it)) Q E s := by
  obtain ⟨o, ho, hc, hd⟩ := id hit
  unfold Builtin.SmallTypes.nextOf
  refine wpAny_bind (wpAny_callSpecial?_slot (name := PySem.Str.ofString "__next__") (KBw.iter_typeIs hit) KBw.slot_next
    (wpAny_call_entry KBw.slot_next (KBw.iter_typeIs hit) KBw.entry_next ?_ (KBw.args_next _)))
  show wpAny _ _ (field (.ref it) 0 >>= _) _ _ s
  refine wpAny_bind (wpAny_field ho hd (x := .bytes b t) rfl ?_)
  show wpAny _ _ (if (Value.bytes b t == Value.none) = true then _ else _) _ _ s
  rw [if_neg (show ¬ ((Value.bytes b t == Value.none) = true) from Bool.false_ne_true)]
  show wpAny _ _ (field (.ref it) 1 >>= _) _ _ s
  refine wpAny_bind (wpAny_field ho hd (x := .int i 0) rfl ?_)
  refine wpAny_bind (wpAny_of_eq (a := b) rfl ?_)
  simp only [Int.toNat_natCast, hx]
  refine wpAny_bind (wpAny_rule (wpAny_bind (wpAny_setField ho hd (by simp) ?_)))
  show wpAny _ _ (newExc (.type "StopIteration") [] >>= _) _ _ _
  refine wpAny_bind ?_
  simp only [newExc, newTuple]
  refine wpAny_bind (wpAny_newObj_type ?_ (by size_fits))
  refine wpAny_bind (m := firstArgMember _ _) (wpAny_of_eq (a := Value.none) (by first | rfl | (simp only [firstArgMember]; rfl)) ?_)
  refine wpAny_newObj_type ?_ (by size_fits)
  simp only [raiseNew]
  refine wpAny_bind (wpAny_handled ?_)
  first | rw [show A.in1.handled = none from hh] | rw [hh]
  refine wpAny_bind (wpAny_pure (wpAny_throw ?_))
  exact hE _ _ (((Heap.SameBut.update ..).extBut.push _).push _) ⟨_, Heap.get?_push_size _ rfl, rfl⟩
end
theorem draws_bytes {prog : Program} {w : World} {A : Around} (hh : A.handled = none) (it : Addr) (b : Array UInt8) (t : Tok) :
    Draws prog w A it [it] b.size (fun i v => ∃ c u, b[i]? = some c ∧ v = .int (c.toNat : Int) u) (fun i h => KBw.IsBytesIter h it b t i) where
  live := fun _ _ st => let ⟨o, ho, _⟩ := st; ⟨o, ho⟩
  frame := fun _ _ _ st hk => let ⟨o, ho, r⟩ := st; ⟨o, hk it (by simp) o ho, r⟩
  item := fun i s Q E hi st hQ => by
    refine bytes_draw st (c := b[i]) (by simp [hi]) fun h' hit' hs' => ?_
    exact hQ _ h' (s.toks + 1) ⟨_, _, by simp [hi], rfl⟩ hit' hs'
  done := fun s Q E st hE => bytes_drawn hh st (by simp) hE

/-- a zip's parts lie apart -/
structure ZA (z TI TO i1 i2 : Addr) (fp1 fp2 : List Addr) : Prop where
  TIz : TI ≠ z
  TOz : TO ≠ z
  i1z : i1 ≠ z
  i2z : i2 ≠ z
  TITO : TI ≠ TO
  TIi1 : TI ≠ i1
  TIi2 : TI ≠ i2
  TOi1 : TO ≠ i1
  TOi2 : TO ≠ i2
  i12 : i1 ≠ i2
  zf1 : z ∉ fp1
  zf2 : z ∉ fp2
  Tf1 : TO ∉ fp1
  Tf2 : TO ∉ fp2
  i1f2 : i1 ∉ fp2
  i2f1 : i2 ∉ fp1

section
variable {prog : Program} {w : World} {A : Around} {E : Value → Shared → Prop} {s : Shared} {z TI TO i1 i2 : Addr} {fp1 fp2 : List Addr} {n i : Nat} {P1 P2 : Nat → Value → Prop} {St1 St2 : Nat → Heap → Prop} {a b : Value}
theorem zip_item {Q : Value → Shared → Prop} (D : ZA z TI TO i1 i2 fp1 fp2) (D1 : Draws prog w A.in1 i1 fp1 n P1 St1) (D2 : Draws prog w A.in1 i2 fp2 n P2 St2) (hi : i < n)
    (hz : IsZip s.heap z TI TO .none) (hTI : IsPair s.heap TI (.ref i1) (.ref i2)) (hTO : IsPair s.heap TO a b) (h1 : St1 i s.heap) (h2 : St2 i s.heap)
    (hQ : ∀ x y h' tk, P1 i x → P2 i y → IsZip h' z TI TO (rawInt s.heap.objs.size) → IsPair h' TO x y → St1 (i + 1) h' → St2 (i + 1) h' → IsPair h' s.heap.objs.size x y →
      (∀ c o, c ≠ z → c ≠ TO → c ≠ i1 → c ≠ i2 → s.heap.get? c = some o → h'.get? c = some o) → Q (.ref s.heap.objs.size) { s with heap := h', toks := tk }) :
    wpAny (model prog w) A.in1 (Builtin.«zip.__next__» ⟨[.ref z], []⟩) (fun fin s' => ∃ v, fin = .done (.ret v) ∧ Q v s') E s := by
  obtain ⟨hp, g, d, tk₀, os⟩ := s
  show wpAny _ _ (field (.ref z) 2 >>= _) _ _ _
  refine wpAny_bind (wpAny_field hz rfl (x := .bool false) rfl ?_)
  show wpAny _ _ (field (.ref z) 3 >>= _) _ _ _
  refine wpAny_bind (wpAny_field hz rfl (x := .ref TI) rfl ?_)
  refine wpAny_bind (wpAny_seqItems hTI rfl ?_)
  show wpAny _ _ (Builtin.SmallTypes.ownedTupleIsFree (.ref z) >>= _) _ _ _
  refine wpAny_bind ?_
  unfold Builtin.SmallTypes.ownedTupleIsFree
  refine wpAny_bind (wpAny_field hz rfl (x := .none) rfl (wpAny_pure ?_))
  simp only [if_true]
  refine wpAny_bind (wpAny_rule ?_)
  refine wpAny_bind (wpAny_field hz rfl (x := .ref TO) rfl ?_)
  refine wpAny_bind (wpAny_setField_rec hz (by simp) fun h₁ hz₁ hs₁ => ?_)
  replace hz₁ : IsZip h₁ z TI TO .ellipsis := hz₁
  replace hs₁ : Heap.SameBut z hp h₁ := hs₁
  have f1 : ∀ {c : Addr} {l : List Addr} {j : Nat} {St : Nat → Heap → Prop} {it : Addr} {P : Nat → Value → Prop} {h h' : Heap}, Draws prog w A.in1 it l n P St → c ∉ l → Heap.SameBut c h h' → St j h → St j h' := fun D n hs st => D.frame _ _ _ st fun q hq o e => hs.extBut q o (fun z => n (z ▸ hq)) e
  have s1 := f1 D1 D.zf1 hs₁ h1
  have s2 := f1 D2 D.zf2 hs₁ h2
  refine wpAny_bind ?_
  simp only [List.zipIdx_cons, List.zipIdx_nil, List.forIn_cons, List.forIn_nil]
  refine wpAny_bind (wpAny_bind (wpAny_onRaise ?_))
  show wpAny _ _ (Builtin.SmallTypes.nextOf (.ref i1) >>= _) _ _ ⟨h₁, g, d, tk₀, os⟩
  refine wpAny_bind (D1.item i _ _ _ hi s1 fun x h₂ tk₂ p1 h1₂ hs₂ => wpAny_pure ?_)
  replace hs₂ : Heap.SameBut i1 h₁ h₂ := hs₂
  have hTO₂ : IsPair h₂ TO a b := hs₂.extBut _ _ D.TOi1 (hs₁.extBut _ _ D.TOz hTO)
  refine wpAny_bind (wpAny_seqItems hTO₂ rfl ?_)
  refine wpAny_bind (wpAny_updateSeq_pair (s := ⟨h₂, g, d, tk₂, os⟩) hTO₂ fun h₃ hTO₃ hs₃ => ?_)
  replace hTO₃ : IsPair h₃ TO x b := hTO₃
  replace hs₃ : Heap.SameBut TO h₂ h₃ := hs₃
  have s1₃ := f1 D1 D.Tf1 hs₃ h1₂
  have s2₃ := f1 D2 D.Tf2 hs₃ (f1 D2 D.i1f2 hs₂ s2)
  refine wpAny_bind (wpAny_letGo (wpAny_pure ?_))
  refine wpAny_bind (wpAny_bind (wpAny_onRaise ?_))
  show wpAny _ _ (Builtin.SmallTypes.nextOf (.ref i2) >>= _) _ _ ⟨h₃, g, d, tk₂, os⟩
  refine wpAny_bind (D2.item i _ _ _ hi s2₃ fun y h₄ tk₄ p2 h2₄ hs₄ => wpAny_pure ?_)
  replace hs₄ : Heap.SameBut i2 h₃ h₄ := hs₄
  have hTO₄ : IsPair h₄ TO x b := hs₄.extBut _ _ D.TOi2 hTO₃
  refine wpAny_bind (wpAny_seqItems hTO₄ rfl ?_)
  refine wpAny_bind (wpAny_updateSeq_pair (s := ⟨h₄, g, d, tk₄, os⟩) hTO₄ fun h₅ hTO₅ hs₅ => ?_)
  replace hTO₅ : IsPair h₅ TO x y := hTO₅
  replace hs₅ : Heap.SameBut TO h₄ h₅ := hs₅
  have s1₅ := f1 D1 D.Tf1 hs₅ (f1 D1 D.i2f1 hs₄ s1₃)
  have s2₅ := f1 D2 D.Tf2 hs₅ h2₄
  refine wpAny_bind (wpAny_letGo (wpAny_pure (wpAny_pure ?_)))
  refine wpAny_bind (wpAny_seqItems hTO₅ rfl ?_)
  refine wpAny_bind (wpAny_newTuple ?_)
  have hsz : h₅.objs.size = hp.objs.size := by rw [hs₅.1, hs₄.1, hs₃.1, hs₂.1, hs₁.1]
  have hz₅ : IsZip h₅ z TI TO .ellipsis := hs₅.extBut _ _ D.TOz.symm (hs₄.extBut _ _ D.i2z.symm (hs₃.extBut _ _ D.TOz.symm (hs₂.extBut _ _ D.i1z.symm hz₁)))
  have hk₅ : ∀ c o, c ≠ z → c ≠ TO → c ≠ i1 → c ≠ i2 → hp.get? c = some o → h₅.get? c = some o := fun c o c1 c2 c3 c4 e =>
    hs₅.extBut _ _ c2 (hs₄.extBut _ _ c4 (hs₃.extBut _ _ c2 (hs₂.extBut _ _ c3 (hs₁.extBut _ _ c1 e))))
  have hzlt : z < h₅.objs.size := Heap.lt_size hz₅
  show wpAny _ _ (Builtin.SmallTypes.ownedTupleHandOut (.ref z) (.ref h₅.objs.size) >>= _) _ _ _
  refine wpAny_bind ?_
  unfold Builtin.SmallTypes.ownedTupleHandOut
  have hz₆ : IsZip (h₅.push { cls := .type "tuple", data := .seq #[x, y] }) z TI TO .ellipsis := Heap.get?_push_of_some _ hz₅
  refine wpAny_bind (wpAny_setField_rec hz₆ (by simp) fun h₇ hz₇ hs₇ => ?_)
  replace hz₇ : IsZip h₇ z TI TO (rawInt h₅.objs.size) := hz₇
  refine wpAny_setField_rec hz₇ (by simp) fun h₈ hz₈ hs₈ => ?_
  replace hz₈ : IsZip h₈ z TI TO (rawInt h₅.objs.size) := hz₈
  have up : ∀ c o, c ≠ z → h₅.get? c = some o → h₈.get? c = some o := fun c o c1 e => hs₈.extBut _ _ c1 (hs₇.extBut _ _ c1 (Heap.get?_push_of_some _ e))
  have hT₈ : IsPair h₈ h₅.objs.size x y := hs₈.extBut _ _ (Nat.ne_of_gt hzlt) (hs₇.extBut _ _ (Nat.ne_of_gt hzlt) (Heap.get?_push_size _ rfl))
  rw [hsz] at hz₈ hT₈
  refine wpAny_pure ⟨_, rfl, ?_⟩
  show Q (.ref h₅.objs.size) _
  rw [hsz]
  exact hQ x y h₈ tk₄ p1 p2 hz₈ (up _ _ D.TOz hTO₅) (D1.frame _ _ _ s1₅ fun q hq o e => up q o (fun z => D.zf1 (z ▸ hq)) e) (D2.frame _ _ _ s2₅ fun q hq o e => up q o (fun z => D.zf2 (z ▸ hq)) e) hT₈ fun c o c1 c2 c3 c4 e => up c o c1 (hk₅ c o c1 c2 c3 c4 e)

theorem zip_end {Q : Fin → Shared → Prop} (D : ZA z TI TO i1 i2 fp1 fp2) (D1 : Draws prog w A.in1 i1 fp1 n P1 St1)
    (hz : IsZip s.heap z TI TO .none) (hTI : IsPair s.heap TI (.ref i1) (.ref i2)) (hTO : IsPair s.heap TO a b) (h1 : St1 n s.heap)
    (hE : ∀ h' e, (∀ c o, c ≠ z → c ≠ TO → c ≠ i1 → c ≠ i2 → s.heap.get? c = some o → h'.get? c = some o) → (∃ o, h'.get? e = some o ∧ o.cls = .type "StopIteration") → E (.ref e) { s with heap := h' }) :
    wpAny (model prog w) A.in1 (Builtin.«zip.__next__» ⟨[.ref z], []⟩) Q E s := by
  obtain ⟨hp, g, d, tk₀, os⟩ := s
  show wpAny _ _ (field (.ref z) 2 >>= _) _ _ _
  refine wpAny_bind (wpAny_field hz rfl (x := .bool false) rfl ?_)
  show wpAny _ _ (field (.ref z) 3 >>= _) _ _ _
  refine wpAny_bind (wpAny_field hz rfl (x := .ref TI) rfl ?_)
  refine wpAny_bind (wpAny_seqItems hTI rfl ?_)
  show wpAny _ _ (Builtin.SmallTypes.ownedTupleIsFree (.ref z) >>= _) _ _ _
  refine wpAny_bind ?_
  unfold Builtin.SmallTypes.ownedTupleIsFree
  refine wpAny_bind (wpAny_field hz rfl (x := .none) rfl (wpAny_pure ?_))
  simp only [if_true]
  refine wpAny_bind (wpAny_rule ?_)
  refine wpAny_bind (wpAny_field hz rfl (x := .ref TO) rfl ?_)
  refine wpAny_bind (wpAny_setField_rec hz (by simp) fun h₁ hz₁ hs₁ => ?_)
  replace hz₁ : IsZip h₁ z TI TO .ellipsis := hz₁
  replace hs₁ : Heap.SameBut z hp h₁ := hs₁
  refine wpAny_bind ?_
  simp only [List.zipIdx_cons, List.zipIdx_nil, List.forIn_cons, List.forIn_nil]
  refine wpAny_bind (wpAny_bind (wpAny_onRaise ?_))
  show wpAny _ _ (Builtin.SmallTypes.nextOf (.ref i1) >>= _) _ _ ⟨h₁, g, d, tk₀, os⟩
  refine wpAny_bind (D1.done _ _ _ (D1.frame _ _ _ h1 fun q hq o e => hs₁.extBut q o (fun z => D.zf1 (z ▸ hq)) e) fun h₂ e hs₂ he => ?_)
  replace hs₂ : Heap.ExtBut i1 h₁ h₂ := hs₂
  obtain ⟨oe, hoe, hce⟩ := he
  have hz₂ : IsZip h₂ z TI TO .ellipsis := hs₂ _ _ D.i1z.symm hz₁
  have hez : e ≠ z := fun x => by subst x; rw [hz₂] at hoe; cases hoe; simp at hce
  refine wpAny_setField_rec hz₂ (by simp) fun h₃ _ hs₃ => hE h₃ e (fun c o c1 _ c3 _ x => hs₃.extBut _ _ c1 (hs₂ _ _ c3 (hs₁.extBut _ _ c1 x))) ⟨oe, hs₃.extBut _ _ hez hoe, hce⟩
end
end
section

theorem meets_zip_lb (l : Addr) (xs : Array Value) (b : Array UInt8) (t : Tok) :
    Meets (Builtin.«zip.__new__» ⟨[.type "zip", .ref l, .bytes b t], []⟩) (fun _ R s => s.heap.IsList l xs ∧
      ∀ h', IsZip h' (s.heap.objs.size + 4) (s.heap.objs.size + 2) (s.heap.objs.size + 3) .none → IsPair h' (s.heap.objs.size + 2) (.ref s.heap.objs.size) (.ref (s.heap.objs.size + 1)) →
      IsPair h' (s.heap.objs.size + 3) .none .none → h'.IsListIter s.heap.objs.size l 0 → KBw.IsBytesIter h' (s.heap.objs.size + 1) b t 0 → (∀ c o, s.heap.get? c = some o → h'.get? c = some o) → R (.ok (.ret (.ref (s.heap.objs.size + 4)))) { s with heap := h' }) :=
  .of_wp fun prog w A R s h => by
    obtain ⟨hp, g, d, tk, os⟩ := s; obtain ⟨hl1, h⟩ := h
    have hL1 : Heap.IsList (Shared.heap ⟨hp, g, d, tk, os⟩) l xs := hl1
    have nc : Builtin.SmallTypes.newClass "zip" ⟨[.type "zip", .ref l, .bytes b t], []⟩ = pure (.type "zip", [.ref l, .bytes b t]) := by
      unfold Builtin.SmallTypes.newClass
      simp only [isType, sub_zip, pure_bind, Bool.not_true, Bool.false_eq_true, if_false]
    unfold Builtin.«zip.__new__»
    refine wpAny_bind (wpAny_of_eq nc ?_)
    dsimp only
    rw [if_neg (by simp)]
    refine wpAny_bind ?_
    unfold Builtin.SmallTypes.iterAll
    simp only [List.forIn_cons, List.forIn_nil]
    refine wpAny_bind (wpAny_bind (wpAny_bind (wpAny_holding (wpAny_pyIter_list hL1 (wpAny_pure ?_)))))
    refine wpAny_bind (wpAny_bind (wpAny_holding (KBw.pyIter_bytes (wpAny_pure ?_))))
    refine wpAny_pure (wpAny_pure ?_)
    refine wpAny_bind (wpAny_newTuple (hsz := by rw [sizeLine_eq]; show 2 ≤ _; decide) (wpAny_bind (wpAny_newTuple (hsz := by rw [sizeLine_eq]; show 2 ≤ _; decide) (wpAny_bind ?_))))
    unfold Builtin.SmallTypes.newRecord
    refine wpAny_newObj_type (hd := by show (5 : Nat) ≤ sizeLine + 2; rw [sizeLine_eq]; decide) (wpAny_pure ⟨_, rfl, ?_⟩)
    have p1 : ∀ (h : Heap) (o : Obj), (h.push o).objs.size = h.objs.size + 1 := fun h o => Heap.size_push ..
    have up : ∀ {h : Heap} {c : Addr} {o o' : Obj}, h.get? c = some o → (h.push o').get? c = some o := fun e => Heap.get?_push_of_some _ e
    simp only [p1]
    refine h _ ?_ ?_ ?_ ?_ ?_ ?_
    · have := Heap.get?_push_size ((((hp.push { cls := .type "list_iterator", data := .fields #[.ref l, .int 0 0] }).push { cls := .type "bytes_iterator", data := .fields #[.bytes b t, .int 0 0] }).push { cls := .type "tuple", data := .seq #[.ref hp.objs.size, .ref (hp.objs.size + 1)] }).push { cls := .type "tuple", data := .seq #[.none, .none] }) (o := { cls := .type "zip", data := .fields #[.none, .bool false, .bool false, .ref (hp.objs.size + 2), .ref (hp.objs.size + 3)] }) rfl
      simp only [p1] at this
      exact this
    · refine up (up ?_)
      have := Heap.get?_push_size ((hp.push { cls := .type "list_iterator", data := .fields #[.ref l, .int 0 0] }).push { cls := .type "bytes_iterator", data := .fields #[.bytes b t, .int 0 0] }) (o := { cls := .type "tuple", data := .seq #[.ref hp.objs.size, .ref (hp.objs.size + 1)] }) rfl
      simp only [p1] at this
      exact this
    · refine up ?_
      have := Heap.get?_push_size (((hp.push { cls := .type "list_iterator", data := .fields #[.ref l, .int 0 0] }).push { cls := .type "bytes_iterator", data := .fields #[.bytes b t, .int 0 0] }).push { cls := .type "tuple", data := .seq #[.ref hp.objs.size, .ref (hp.objs.size + 1)] }) (o := { cls := .type "tuple", data := .seq #[.none, .none] }) rfl
      simp only [p1] at this
      exact this
    · exact ⟨_, up (up (up (up (Heap.get?_push_size _ rfl)))), rfl, rfl⟩
    · refine ⟨{ cls := .type "bytes_iterator", data := .fields #[.bytes b t, .int 0 0] }, up (up (up ?_)), rfl, rfl⟩
      have := Heap.get?_push_size (hp.push { cls := .type "list_iterator", data := .fields #[.ref l, .int 0 0] }) (o := { cls := .type "bytes_iterator", data := .fields #[.bytes b t, .int 0 0] }) rfl
      simp only [p1] at this
      exact this
    · exact fun c o e => up (up (up (up (up e))))
theorem call_zip_lb {prog : Program} {w : World} {A : Around} {E : Value → Shared → Prop} {s : Shared} {l : Addr} {xs : Array Value} {b : Array UInt8} {t : Tok} {Q : Value → Shared → Prop} (hl : s.heap.IsList l xs)
    (h : ∀ h', IsZip h' (s.heap.objs.size + 4) (s.heap.objs.size + 2) (s.heap.objs.size + 3) .none → IsPair h' (s.heap.objs.size + 2) (.ref s.heap.objs.size) (.ref (s.heap.objs.size + 1)) →
      IsPair h' (s.heap.objs.size + 3) .none .none → h'.IsListIter s.heap.objs.size l 0 → KBw.IsBytesIter h' (s.heap.objs.size + 1) b t 0 → (∀ c o, s.heap.get? c = some o → h'.get? c = some o) → Q (.ref (s.heap.objs.size + 4)) { s with heap := h' }) :
    wpAny (model prog w) A (call (.type "zip") [.ref l, .bytes b t]) Q E s :=
  callType_new F.called_zip (by decide) (F.typeCall_zip_2 _ _) (F.newCall_zip_2 _ _) (fun obj => F.args_object_init_3 obj _ _) F.entry_zip_new
    (meets_zip_lb l xs b t) ⟨hl, fun h' a1 a2 a3 a4 a5 a6 => ⟨⟨_, a1, rfl⟩, h h' a1 a2 a3 a4 a5 a6⟩⟩
end
section

theorem Step.multi {G : Gl} {Y : List Addr} {s : Shared} {h' : Heap} {t : Nat} (hY : ∀ a ∈ Y, G.h₀.objs.size ≤ a ∧ ∀ o, s.heap.get? a = some o → o.cls ≠ .type "code") (k : ∀ b o, b ∉ Y → s.heap.get? b = some o → h'.get? b = some o) : Step G false Y s { s with heap := h', toks := t } := by
  refine ⟨k, fun h => h.step (fun b o q e => k b o (fun z => ?_) e) h.bare, GX.refl _ _, rfl, rfl⟩
  obtain ⟨h1, h2⟩ := hY b z
  rcases q with q | q
  · exact Nat.lt_irrefl _ (Nat.lt_of_lt_of_le q h1)
  · exact h2 o e q.1

def OptIs : Option Int → Value → Prop
  | none, v => v = .none
  | some k, v => ∃ t, v = .int k t
theorem paired_set {α β : Type} {F : α → β → Prop} : ∀ {l : List α} {m : List β} {a : α} {b : β} (j : Nat), Paired F l m → F a b → Paired F (l.set j a) (m.set j b)
  | _, _, _, _, _, .nil, _ => .nil
  | _, _, _, _, 0, .cons h t, q => .cons q t
  | _, _, _, _, j + 1, .cons h t, q => .cons h (paired_set j t q)
def fillTo (os tmp : List Int) (n : Nat) : Nat → List (Option Int)
  | 0 => List.replicate n none
  | i + 1 => (fillTo os tmp n i).set (os.getD i 0).toNat (some (tmp.getD i 0))
theorem fillTo_len (os tmp : List Int) (n : Nat) : ∀ i, (fillTo os tmp n i).length = n
  | 0 => by simp [fillTo]
  | i + 1 => by simp [fillTo, fillTo_len os tmp n i]
theorem opt_ints : ∀ {ks : List Int} {vs : List Value}, Paired OptIs (ks.map some) vs → IntsAre vs ks
  | [], _, h => by cases h; exact .nil
  | k :: ks, _, h => by
    rw [List.map_cons] at h
    cases h with
    | cons a t => obtain ⟨u, rfl⟩ := a; exact .cons _ u (opt_ints t)
theorem opt_none (n : Nat) : Paired OptIs (List.replicate n none) (List.replicate n Value.none) := by
  induction n with
  | zero => exact .nil
  | succ n ih => rw [List.replicate_succ, List.replicate_succ]; exact .cons rfl ih

section
variable {G : Gl} {A : Around} {L : Addr}
abbrev c175 (G : Gl) (A : Around) (L : Addr) : Fx := { fxOf G A true fd175 175 L with fl := false }
set_option maxHeartbeats 1000000 in
theorem zip_fill {os tmp : List Int} {n : Nat} {X : List Addr} {s : Shared} {D z TI TO i1 i2 l : Addr} {vs : List Value} {b : Array UInt8} {t : Tok} {R : Result → Shared → Prop} (hh : A.handled = none) (hn : n = os.length) (hn' : n = tmp.length) (hz0 : n ≤ 1000) (hos : ∀ o ∈ os, 0 ≤ o ∧ o < n) (ia : IntsAre vs os) (eb : KBw.bInts b = tmp) (ZD : ZA z TI TO i1 i2 [i1, l] [i2])
    (S : Sat (c175 G A L) ⟨[("buf", aVal (.ref D))], []⟩ ([z, TO, i1, i2, TI] ++ D :: X) s) (hY : ∀ a ∈ [z, TO, i1, i2, TI], a ∉ D :: X ∧ G.h₀.objs.size ≤ a) (hD : D ∉ X ∧ G.h₀.objs.size ≤ D) (hown : ∀ a ∈ (c175 G A L).own, a ∈ X) (hDl : D ≠ l) (hli : l ≠ i1) (hl0 : l ∉ (c175 G A L).own ++ (c175 G A L).T)
    (hz : IsZip s.heap z TI TO .none) (hTI : IsPair s.heap TI (.ref i1) (.ref i2)) (hTO : ∃ a b, IsPair s.heap TO a b) (h1 : s.heap.IsListIter i1 l 0 ∧ s.heap.IsList l vs.toArray) (h2 : KBw.IsBytesIter s.heap i2 b t 0) (hbuf : s.heap.IsList D (List.replicate n Value.none).toArray)
    (hTX : ∀ t ∈ G.T, t ∈ X) (h : ∀ ws s', Sat (c175 G A L) ⟨[("buf", aVal (.ref D))], []⟩ X s' → Step G false ([z, TO, i1, i2, TI] ++ D :: (c175 G A L).own) s s' → s'.heap.IsList D (List.toArray ws) → Paired OptIs (fillTo os tmp n n) ws → R (.ok .next) s') :
    codeAny (c175 G A L).M (c175 G A L).A (.forLoop (match nth (bd (nth clsBody 21)) 2 with | .For t .. => t | _ => .Name "" default) (.ref z) (match nth (bd (nth clsBody 21)) 2 with | .For _ _ b .. => b | _ => []) [] (c175 G A L).env) R s := by
  have hsz1 : vs.toArray.size = n := by rw [hn]; simpa using ia.length
  have hsz2 : b.size = n := by rw [hn', ← eb, KBw.ints_length]
  have D1 := Draws.list (prog := G.prog) (w := G.w) (A := (c175 G A L).A.in1) hh i1 l hli vs.toArray
  have D2 := draws_bytes (prog := G.prog) (w := G.w) (A := (c175 G A L).A.in1) hh i2 b t
  rw [hsz1] at D1
  rw [hsz2] at D2
  have offY : ∀ a ∈ [z, TO, i1, i2, TI], a ∉ (c175 G A L).own := fun a m q => (hY a m).1 (.tail _ (hown a q))
  refine codeAny_forLoop_any (fun m s' => ∃ i ws, i ≤ n ∧ m = n - i ∧ IsZip s'.heap z TI TO .none ∧ IsPair s'.heap TI (.ref i1) (.ref i2) ∧ (∃ a b, IsPair s'.heap TO a b) ∧ (s'.heap.IsListIter i1 l i ∧ s'.heap.IsList l vs.toArray) ∧ KBw.IsBytesIter s'.heap i2 b t i ∧ s'.heap.IsList D (List.toArray ws) ∧ Paired OptIs (fillTo os tmp n i) ws ∧
    Sat (c175 G A L) ⟨[("buf", aVal (.ref D))], []⟩ ([z, TO, i1, i2, TI] ++ D :: X) s' ∧ Step G false ([z, TO, i1, i2, TI] ++ D :: (c175 G A L).own) s s') ?_ n ⟨0, _, Nat.zero_le _, rfl, hz, hTI, hTO, h1, h2, hbuf, opt_none n, S, .refl⟩
  rintro m s' ⟨i, ws, hin, rfl, hz, hTI, ⟨a₀, b₀, hTO⟩, h1, h2, hbf, hfill, S', k'⟩
  have hT : s'.TypeIs (.ref z) "zip" := ⟨_, hz, rfl⟩
  -- the objects of the zip
  have cls : ∀ a ∈ [z, TO, i1, i2], ∃ o, s'.heap.get? a = some o ∧ o.cls ≠ .type "code" ∧ ∀ v, o.data ≠ .cell v := fun a m => by
    simp only [List.mem_cons, List.not_mem_nil, or_false] at m
    rcases m with rfl | rfl | rfl | rfl
    · exact ⟨_, hz, fun q => by simp at q, fun v q => by cases q⟩
    · exact ⟨_, hTO, fun q => by simp at q, fun v q => by cases q⟩
    · obtain ⟨o, e, c, d⟩ := h1.1; exact ⟨o, e, fun q => by rw [c] at q; simp at q, fun v q => by rw [d] at q; cases q⟩
    · obtain ⟨o, e, c, d⟩ := h2; exact ⟨o, e, fun q => by rw [c] at q; simp at q, fun v q => by rw [d] at q; cases q⟩
  have in5 : ∀ a ∈ [z, TO, i1, i2], a ∈ [z, TO, i1, i2, TI] := fun a m => by
    simp only [List.mem_cons, List.not_mem_nil, or_false] at m ⊢
    rcases m with rfl | rfl | rfl | rfl <;> simp
  have zstep : ∀ (h' : Heap) (tk : Nat), (∀ c o, c ≠ z → c ≠ TO → c ≠ i1 → c ≠ i2 → s'.heap.get? c = some o → h'.get? c = some o) → Step G false [z, TO, i1, i2] s' { s' with heap := h', toks := tk } := fun h' tk kp =>
    Step.multi (fun a m => ⟨(hY a (in5 a m)).2, fun o e => by obtain ⟨o', e', c, _⟩ := cls a m; rw [e] at e'; cases e'; exact c⟩) fun c o n e => by
      simp only [List.mem_cons, List.not_mem_nil, or_false, not_or] at n
      exact kp c o n.1 n.2.1 n.2.2.1 n.2.2.2 e
  by_cases hlt : i < n
  · unfold pyNext
    refine wpAny_bind (wpAny_attempt (wpAny_callSpecial?_slot (name := Str.ofString "__next__") hT F.slot_zip_next (wpAny_call_entry F.slot_zip_next hT F.entry_zip_next
      (zip_item ZD D1 D2 hlt hz hTI hTO h1 h2 fun x y h₁ tk px py hz₁ hTO₁ h1₁ h2₁ hT₁ kp₁ => wpAny_pure ?_) (F.args_zip_next_1 _))))
    have zlt : z < s'.heap.objs.size := Heap.lt_size hz
    refine wpAny_letOwnedTupleGo_zip (s := ⟨h₁, s'.gens, s'.drawn, tk, s'.os⟩) hz₁ fun h₂ hz₂ hs₂ => ?_
    replace hs₂ : Heap.SameBut z h₁ h₂ := hs₂
    have ht₂ : IsTup h₂ s'.heap.objs.size #[x, y] := ⟨_, hs₂.extBut _ _ (Nat.ne_of_gt zlt) hT₁, rfl, 0, rfl⟩
    refine assign_Tuple_tuple (s := ⟨h₂, s'.gens, s'.drawn, tk, s'.os⟩) hh ht₂ rfl rfl fun h₃ he₃ => ?_
    replace he₃ : Heap.ExtBut h₂.objs.size h₂ h₃ := he₃
    have up₃ : ∀ c o, h₂.get? c = some o → h₃.get? c = some o := fun c o e => he₃ c o (Nat.ne_of_lt (Heap.lt_size e)) e
    have kp₃ : ∀ c o, c ≠ z → c ≠ TO → c ≠ i1 → c ≠ i2 → s'.heap.get? c = some o → h₃.get? c = some o := fun c o c1 c2 c3 c4 e => up₃ _ _ (hs₂.extBut _ _ c1 (kp₁ c o c1 c2 c3 c4 e))
    have k₃ := zstep h₃ tk kp₃
    have hz₃ : IsZip h₃ z TI TO .none := up₃ _ _ hz₂
    have hTI₃ : IsPair h₃ TI (.ref i1) (.ref i2) := kp₃ _ _ ZD.TIz ZD.TITO ZD.TIi1 ZD.TIi2 hTI
    have hTO₃ : IsPair h₃ TO x y := up₃ _ _ (hs₂.extBut _ _ ZD.TOz hTO₁)
    have h1₃ : h₃.IsListIter i1 l (i + 1) ∧ h₃.IsList l vs.toArray := D1.frame _ _ _ h1₁ fun q hq o e => up₃ _ _ (hs₂.extBut q o (fun w => ZD.zf1 (w ▸ hq)) e)
    have h2₃ : KBw.IsBytesIter h₃ i2 b t (i + 1) := D2.frame _ _ _ h2₁ fun q hq o e => up₃ _ _ (hs₂.extBut q o (fun w => ZD.zf2 (w ▸ hq)) e)
    have S₃ : Sat (c175 G A L) ⟨[("buf", aVal (.ref D))], []⟩ ([z, TO, i1, i2, TI] ++ D :: X) { s' with heap := h₃, toks := tk } := by
      refine S'.priv_step (Y := [z, TO, i1, i2]) k₃.keep (k₃.ok S'.ok) (fun a m => ⟨List.mem_append_left _ (in5 a m), offY a (in5 a m), let ⟨o, e, _, d⟩ := cls a m; ⟨o, e, d⟩⟩) fun a m => ?_
      simp only [List.mem_cons, List.not_mem_nil, or_false] at m
      rcases m with rfl | rfl | rfl | rfl
      · exact ⟨_, hz₃⟩
      · exact ⟨_, hTO₃⟩
      · obtain ⟨o, e, _⟩ := h1₃.1; exact ⟨o, e⟩
      · obtain ⟨o, e, _⟩ := h2₃; exact ⟨o, e⟩
    have hbuf₃ : h₃.IsList D (List.toArray ws) := by
      obtain ⟨o, e, r⟩ := hbf
      have nD : ∀ a ∈ [z, TO, i1, i2], D ≠ a := fun a m w => (hY a (in5 a m)).1 (w ▸ .head _)
      exact ⟨o, kp₃ _ _ (nD _ (.head _)) (nD _ (.tail _ (.head _))) (nD _ (.tail _ (.tail _ (.head _)))) (nD _ (.tail _ (.tail _ (.tail _ (.head _))))) e, r⟩
    have px' : ∃ u, x = .int (os.getD i 0) u := by
      have hi' : i < os.length := hn ▸ hlt
      obtain ⟨u, e⟩ := ia.get i _ (List.getElem?_eq_getElem hi')
      have px : vs.toArray[i]? = some x := px
      rw [show vs.toArray[i]? = vs[i]? by simp, e] at px
      cases px
      exact ⟨u, by rw [List.getD_eq_getElem?_getD, List.getElem?_eq_getElem hi']; rfl⟩
    have py' : ∃ u, y = .int (tmp.getD i 0) u := by
      obtain ⟨c, u, e, ey⟩ := py
      refine ⟨u, ?_⟩
      rw [ey, List.getD_eq_getElem?_getD, ← eb, KBw.ints_get e]; rfl
    refine assignInOrder_cons (wpAny_assign_Name ((Sto.loc (c := c175 G A L) (x := "off") (P := aInt (os.getD i 0)) rfl (by rfl)) _ _ x S₃ px' _ _ fun s₄ k₄ S₄ => ?_))
    refine assignInOrder_cons (wpAny_assign_Name ((Sto.loc (c := c175 G A L) (x := "char") (P := aInt (tmp.getD i 0)) rfl (by rfl)) _ s₄ y S₄ py' _ _ fun s₅ k₅ S₅ => assignInOrder_nil ?_))
    refine wpAny_execs_cons (wpAny_Assign_Subscript ((Ev.loc (c := c175 G A L) (x := "char") (P := aInt (tmp.getD i 0)) (.tail _ (.tail _ (.head _))) (by rfl) rfl (by decide)) _ s₅ S₅ _ _ fun v s₆ k₆ p₆ => (Ev.loc (c := c175 G A L) (x := "buf") (P := aVal (.ref D)) (.head _) (by rfl) rfl (by decide)) _ s₆ (S₅.step k₆) _ _ fun u s₇ k₇ p₇ => (Ev.loc (c := c175 G A L) (x := "off") (P := aInt (os.getD i 0)) (.tail _ (.head _)) (by rfl) rfl (by decide)) _ s₇ ((S₅.step k₆).step k₇) _ _ fun w s₈ k₈ p₈ => ?_) rfl)
    obtain ⟨tv, rfl⟩ := p₆
    have p₇ : u = .ref D := p₇
    subst p₇
    obtain ⟨tw, rfl⟩ := p₈
    have S₈ := ((S₅.step k₆).step k₇).step k₈
    have k₅₈ : Step G false [] s₅ s₈ := (show Step G false [] s₅ s₆ from k₆).trans ((show Step G false [] s₆ s₇ from k₇).trans k₈)
    have k₃₅ : Step G false (c175 G A L).own { s' with heap := h₃, toks := tk } s₅ := ((show Step G false _ _ s₄ from k₄).trans k₅).more fun a m => by
      rcases List.mem_append.mp m with m | m
      · exact m
      · cases m
    have kp₃₈ : ∀ c o, c ∉ (c175 G A L).own → h₃.get? c = some o → s₈.heap.get? c = some o := fun c o n e => k₅₈.keep c o (by simp) (k₃₅.keep c o n e)
    have DO : D ∉ (c175 G A L).own := fun m => hD.1 (hown D m)
    have hbuf₈ : s₈.heap.IsList D (List.toArray ws) := let ⟨o, e, r⟩ := hbuf₃; ⟨o, kp₃₈ _ _ DO e, r⟩
    have hwl : ws.length = n := by rw [← hfill.length, fillTo_len]
    obtain ⟨o0, o1⟩ := hos (os.getD i 0) (by rw [List.getD_eq_getElem?_getD, List.getElem?_eq_getElem (hn ▸ hlt : i < os.length)]; exact List.getElem_mem _)
    refine wpAny_setItem_list hbuf₈ o0 (by omega) (by simp only [List.size_toArray]; omega) fun h₉ hl₉ hs₉ => ?_
    replace hs₉ : Heap.SameBut D s₈.heap h₉ := hs₉
    have kD : Step G false [D] s₈ { s₈ with heap := h₉ } := Step.multi (t := s₈.toks) (fun a m => by
      rw [List.mem_singleton.mp m]
      refine ⟨hD.2, fun o e => ?_⟩
      obtain ⟨o', e', c', _⟩ := hbuf₈
      rw [e] at e'; cases e'; rw [c']; simp) fun c o n' e => hs₉.extBut c o (fun w => n' (by rw [w]; exact .head _)) e
    have kp₃₉ : ∀ c o, c ∉ (c175 G A L).own → c ≠ D → h₃.get? c = some o → h₉.get? c = some o := fun c o n d e => hs₉.extBut c o d (kp₃₈ c o n e)
    have S₉ : Sat (c175 G A L) _ ([z, TO, i1, i2, TI] ++ D :: X) { s₈ with heap := h₉ } := S₈.priv_step (Y := [D]) kD.keep (kD.ok S₈.ok) (fun a m => by
      rw [List.mem_singleton.mp m]
      refine ⟨List.mem_append_right _ (.head _), DO, ?_⟩
      obtain ⟨o', e', _, m', d'⟩ := hbuf₈
      exact ⟨o', e', fun v q => by rw [d'] at q; cases q⟩) fun a m => by
      rw [List.mem_singleton.mp m]
      obtain ⟨o', e', _⟩ := hl₉; exact ⟨o', e'⟩
    have n5 : ∀ a ∈ [z, TO, i1, i2, TI], a ≠ D := fun a m w => (hY a m).1 (w ▸ .head _)
    have nz : ∀ {a : Addr} (m : a ∈ [z, TO, i1, i2, TI]) {o : Obj}, h₃.get? a = some o → h₉.get? a = some o := fun {a} m {o} e => kp₃₉ a o (offY a m) (n5 a m) e
    have hl0' : l ∉ (c175 G A L).own := fun m => hl0 (List.mem_append_left _ m)
    refine wpAny_execs_nil ⟨n - (i + 1), by omega, i + 1, ws.set (os.getD i 0).toNat (.int (tmp.getD i 0) tv), hlt, rfl, nz (.head _) hz₃, nz (.tail _ (.tail _ (.tail _ (.tail _ (.head _))))) hTI₃, ⟨_, _, nz (.tail _ (.head _)) hTO₃⟩, ⟨?_, ?_⟩, ?_, ?_, ?_, S₉.weaken (fun p hp => ?_) (fun p hp => nomatch hp), ?_⟩
    · obtain ⟨o, e, r⟩ := h1₃.1; exact ⟨o, nz (.tail _ (.tail _ (.head _))) e, r⟩
    · obtain ⟨o, e, r⟩ := h1₃.2; exact ⟨o, kp₃₉ l o hl0' (Ne.symm hDl) e, r⟩
    · obtain ⟨o, e, r⟩ := h2₃; exact ⟨o, nz (.tail _ (.tail _ (.tail _ (.head _)))) e, r⟩
    · have : (List.toArray ws).setIfInBounds (os.getD i 0).toNat (.int (tmp.getD i 0) tv) = (ws.set (os.getD i 0).toNat (.int (tmp.getD i 0) tv)).toArray := by simp
      rw [this] at hl₉; exact hl₉
    · exact paired_set _ hfill ⟨tv, rfl⟩
    · rw [List.mem_singleton.mp hp]; exact .head _
    · refine k'.trans ((k₃.more fun a m => List.mem_append_left _ (in5 a m)).trans ((k₃₅.more fun a m => List.mem_append_right _ (.tail _ m)).trans ((k₅₈.more fun _ m => nomatch m).trans (kD.more fun a m => ?_))))
      rw [List.mem_singleton.mp m]; exact List.mem_append_right _ (.head _)
  · have hin' : i = n := by omega
    subst hin'
    unfold pyNext
    refine wpAny_bind (wpAny_attempt (wpAny_callSpecial?_slot (name := Str.ofString "__next__") hT F.slot_zip_next (wpAny_call_entry F.slot_zip_next hT F.entry_zip_next
      (zip_end ZD D1 hz hTI hTO h1 fun h₁ e kp₁ he => ?_) (F.args_zip_next_1 _))))
    obtain ⟨o, ho, hc⟩ := he
    refine wpAny_bind (wpAny_isInstance (T := "StopIteration") (b := true) ⟨o, ho, hc⟩ isSubtype_stop ?_)
    refine wpAny_pure (wpAny_execs_nil ?_)
    have k₁ := zstep h₁ s'.toks kp₁
    have n5 : ∀ a ∈ [z, TO, i1, i2, TI], a ≠ D := fun a m w => (hY a m).1 (w ▸ .head _)
    have kpD : ∀ a ∈ [z, TO, i1, i2], D ≠ a := fun a m w => n5 a (in5 a m) w.symm
    refine h ws { s' with heap := h₁ } ?_ (k'.trans (k₁.more fun a m => List.mem_append_left _ (in5 a m))) ?_ hfill
    · refine Sat.drop (Y := [z, TO, i1, i2, TI, D]) S' (fun c o n' e => k₁.keep c o (fun m => n' ?_) e) (k₁.ok S'.ok) (fun a m => ?_) hTX hown
      · simp only [List.mem_cons, List.not_mem_nil, or_false] at m ⊢
        rcases m with rfl | rfl | rfl | rfl <;> simp
      · have hc4 : a ∈ [z, TO, i1, i2] → a ∉ X ∧ ∃ o, s'.heap.get? a = some o ∧ ∀ v, o.data ≠ .cell v := fun m => ⟨fun q => (hY a (in5 a m)).1 (.tail _ q), let ⟨o, e, _, d⟩ := cls a m; ⟨o, e, d⟩⟩
        simp only [List.mem_cons, List.not_mem_nil, or_false] at m
        rcases m with m | m | m | m | m | m
        · exact hc4 (by simp [m])
        · exact hc4 (by simp [m])
        · exact hc4 (by simp [m])
        · exact hc4 (by simp [m])
        · subst m
          exact ⟨fun q => (hY _ (.tail _ (.tail _ (.tail _ (.tail _ (.head _)))))).1 (.tail _ q), _, hTI, fun v q => by cases q⟩
        · subst m
          obtain ⟨o', e', _, m', d'⟩ := hbf
          exact ⟨hD.1, o', e', fun v q => by rw [d'] at q; cases q⟩
    · obtain ⟨o', e', r⟩ := hbf
      exact ⟨o', kp₁ _ _ (kpD _ (.head _)) (kpD _ (.tail _ (.head _))) (kpD _ (.tail _ (.tail _ (.head _)))) (kpD _ (.tail _ (.tail _ (.tail _ (.head _))))) e', r⟩
end
end
section

theorem Sat.hideL {c : Fx} {σ : St} {X Y : List Addr} {s s₂ : Shared} (S : Sat c σ X s) (k : Step c.G false [] s s₂) (hI : ∀ a ∈ Y, s.heap.get? a = none) (hl : ∀ a ∈ Y, ∃ o, s₂.heap.get? a = some o) : Sat c σ (Y ++ X) s₂ := by
  have S₂ := S.step k.low
  have vw : ∀ b o, (Mine.view X s.heap).get? b = some o → (Mine.view (Y ++ X) s₂.heap).get? b = some o := fun b o e => by
    obtain ⟨g, n⟩ := view_of e
    refine view_get (k.keep _ _ (by simp) g) fun z => ?_
    rcases List.mem_append.mp z with z | z
    · rw [hI b z] at g; cases g
    · exact n z
  refine ⟨S₂.ok, fun t h => List.mem_append_right _ (S.tabs t h), fun a h => ⟨List.mem_append_right _ (S.own a h).1, (S.own a h).2⟩, fun a h => ?_, S.L, ?_, fun y P h => ?_, S₂.put, S.inj⟩
  · rcases List.mem_append.mp h with h | h
    · exact hl a h
    · exact S₂.live a h
  · obtain ⟨m, n, h⟩ := S.loc
    exact ⟨m, ns_keeps (fun o e => k.keep _ _ (by simp) e) n, fun y P hy => let ⟨v, e, hp⟩ := h y P hy; ⟨v, e, P.mono vw hp⟩⟩
  · obtain ⟨a, v, e, l, g, hp⟩ := S.cel y P h
    exact ⟨a, v, e, l, cell_keeps (fun o q => k.keep _ _ (by simp) q) g, P.mono vw hp⟩

theorem fold_rep (v : Value) : ∀ (n : Nat) (acc : Array Value), List.foldl (fun x1 x2 => x1 ++ x2) acc (List.replicate n #[v]) = acc ++ (List.replicate n v).toArray
  | 0, acc => by simp
  | n + 1, acc => by
    rw [List.replicate_succ, List.foldl_cons, fold_rep v n, List.replicate_succ, Array.append_assoc]
    exact congrArg (acc ++ ·) (Array.toList_inj.mp (by simp))
theorem mul_list0 {prog : Program} {w : World} {A : Around} {E : Value → Shared → Prop} {s : Shared} {l : Addr} {k : Nat} {x : Int} {u : Tok} {Q : Value → Shared → Prop} {v : Value}
    (hl : s.heap.get? l = some { cls := .type "list", dict := none, data := .seq #[v] k, slots := #[] })
    (hlo : 0 ≤ x) (hhi : x ≤ 1000)
    (h : Q (.ref s.heap.objs.size) { s with heap := s.heap.push { cls := .type "list", data := .seq (List.replicate x.toNat v).toArray } }) :
    wpAny (model prog w) A (binaryOp .Mult (.ref l) (.int x u)) Q E s := by
  refine wpAny_binaryOp_repeat_ref (T := "list") (U := "int") (by decide) ⟨_, hl, rfl⟩ (fun s' => typeIs_int s' x u) noFill_list_mul F.fills_int_mul F.slot_int_rmul repeat_list F.slot_int_index.lookup
    (call_meets F.slot_int_rmul (typeIs_int s x u) F.entry_int_rmul (F.args_int_rmul_2 _ _) (int___rmul___int_list x u l #[v] k)
      ⟨hl, rfl, ⟨_, hl, rfl⟩, call_meets F.slot_list_mul ⟨_, hl, rfl⟩ F.entry_list_mul (F.args_list_mul_2 _ _)
        (AutoListH.list___mul___list_int_3 l #[v] k x u (by simp [Builtin.List.listFitsIndex]; omega) (by simp; omega) (by simp [Builtin.List.listTooLong, sizeLine]; omega))
        ⟨hl, ?_⟩⟩)
  have e : List.foldl (fun x1 x2 => x1 ++ x2) #[] (List.replicate (if (#[v] : Array Value).isEmpty = true then 0 else x.toNat) #[v]) = (List.replicate x.toNat v).toArray := by
    rw [if_neg (by simp), fold_rep]; simp
  rw [e]
  exact h

theorem ni2 {a b c : Nat} (h1 : a ≠ b) (h2 : a ≠ c) : (a : Addr) ∉ [(b : Addr), c] := fun m => by
  rcases List.mem_cons.mp m with m | m
  · exact h1 m
  · exact h2 (List.mem_singleton.mp m)
theorem ni1 {a b : Nat} (h1 : a ≠ b) : (a : Addr) ∉ [(b : Addr)] := fun m => h1 (List.mem_singleton.mp m)
theorem za_new (N l : Nat) (hl : l < N) : ZA (N + 4) (N + 2) (N + 3) N (N + 1) [N, l] [N + 1] := by
  have e : ∀ a b : Nat, a ≠ b → (a : Addr) ≠ b := fun _ _ h => h
  exact ⟨e _ _ (by omega), e _ _ (by omega), e _ _ (by omega), e _ _ (by omega), e _ _ (by omega), e _ _ (by omega), e _ _ (by omega), e _ _ (by omega), e _ _ (by omega), e _ _ (by omega), ni2 (by omega) (by omega), ni1 (by omega), ni2 (by omega) (by omega), ni1 (by omega), ni1 (by omega), ni2 (by omega) (by omega)⟩
theorem five_ge {M N : Nat} (h : M ≤ N) : ∀ a ∈ [N + 4, N + 3, N, N + 1, N + 2], M ≤ a := fun a m => by
  simp at m
  omega
section
variable {G : Gl} {C : Addr} {sg : List Int} {big : Bool}
set_option maxHeartbeats 2000000 in
theorem f175 (W : Wt G C) {os tmp res : List Int} {P₀ : AV} (hn' : os.length = tmp.length) (hz0 : os.length ≤ 1000) (hos : ∀ o ∈ os, 0 ≤ o ∧ o < os.length) (hfill : fillTo os tmp os.length os.length = res.map some) (hres : ∀ x ∈ res, 0 ≤ x ∧ x < 256) (h112 : FnV G true 13 112 [aEng C sg big, P₀] (aByt tmp)) : FnV G true 16 175 [aEng C sg big, P₀, aInts os] (aByt res) := by
  refine FnV.mk (xs := ["self", "source", "offsets"]) (σ := ⟨[("self", aEng C sg big), ("source", P₀), ("offsets", aInts os)], []⟩) W.m175.2.2 rfl rfl ?_ rfl (by decide) (by rfl) (by rfl) (fun L p hp => nomatch hp) rfl rfl rfl ?_
  · intro vs hv
    match vs, hv with
    | [a, b, c], _ => rfl
  · intro A L rm X s S Q E q
    have rm' : Rm (A.deeper (callEnvC fd175 L 175)) 14 := Rm.deeper rm
    refine wpAny_execs_cons (Nx1.assignS (x := "tmp") (P := aByt tmp) (Ev.meth (Ev.loc (x := "self") (.head _) (by rfl) rfl (by decide)) (.cons (Ev.loc (x := "source") (.tail _ (.head _)) (by rfl) rfl (by decide)) rfl .nil) W.cls W.m112.1 W.m112.2.1 W.m112.2.2 h112 (fun _ => rfl) (rm'.less (by omega)) (fun _ _ _ _ _ _ _ _ _ => rfl) rfl (by decide) rfl) (Sto.loc rfl (by rfl)) rfl X s S _ _ fun s₁ k₁ S₁' => ?_)
    have S₁ : Sat (c175 G A L) _ X s₁ := S₁'.lo
    -- buf
    refine wpAny_execs_cons (wpAny_Assign_Name (wpAny_BinOp (wpAny_List ((EvL.cons (c := c175 G A L) Ev.noneC rfl .nil).spliced X s₁ S₁ _ _ fun vs s₂ k₂ hv => ?_))) rfl)
    obtain ⟨u, rfl, hu⟩ := hv.one
    have hu : u = .none := hu
    subst hu
    refine ⟨by rw [sizeLine_eq]; show 1 ≤ _; decide, ?_⟩
    have k₃ : Step G false [] s₂ { s₂ with heap := s₂.heap.push { cls := .type "list", data := .seq [Value.none].toArray } } := .push
    have S₃ := (S₁.step k₂).step k₃
    refine (Ev.call (c := c175 G A L) (Ev.bi W.len (by rfl) rfl rfl rfl (by decide)) (.cons (Ev.loc (x := "offsets") (.tail _ (.tail _ (.head _))) (by rfl) rfl (by decide)) rfl .nil) KeepsIt.builtin (CallV.lenI (ks := os) (by omega))) X _ S₃ _ _ fun w s₄ k₄ p₄ => ?_
    obtain ⟨tw, rfl⟩ := p₄
    have k₄ : Step G false [] _ s₄ := k₄
    have S₄ := S₃.step k₄
    have hl0 := k₄.keep _ _ (by simp) (Heap.get?_push_size s₂.heap (o := { cls := .type "list", data := .seq [Value.none].toArray }) rfl)
    refine mul_list0 hl0 (by omega) (by omega) ?_
    have hx : ((os.length : Int)).toNat = os.length := by simp
    rw [hx]
    have k₅ : Step G false [] s₄ { s₄ with heap := s₄.heap.push { cls := .type "list", data := .seq (List.replicate os.length Value.none).toArray } } := .push
    have hD := Heap.get?_push_size s₄.heap (o := { cls := .type "list", data := .seq (List.replicate os.length Value.none).toArray }) rfl
    have DX : s₄.heap.objs.size ∉ X := S₄.new_off (Nat.le_refl _)
    have D0 : G.h₀.objs.size ≤ s₄.heap.objs.size := S₄.ok.low
    have Dn : s₄.heap.get? s₄.heap.objs.size = none := none_of_ge (Nat.le_refl _)
    have S₅ := S₄.hide k₅ (Nat.le_refl _) ⟨_, hD⟩
    generalize s₄.heap.objs.size = D at hD DX D0 Dn S₅
    refine (Sto.loc (c := c175 G A L) (x := "buf") (P := aVal (.ref D)) rfl (by rfl)) (D :: X) _ (.ref D) S₅ rfl _ _ fun s₆ k₆ S₆ => ?_
    have DO : D ∉ (c175 G A L).own := fun m => DX (S₁.own D m).1
    have own_X : ∀ a ∈ (c175 G A L).own, a ∈ X := fun a m => (S₁.own a m).1
    have k₆' : Step G false (c175 G A L).own _ s₆ := Step.more k₆ fun a m => by
      rcases List.mem_append.mp m with m | m
      · exact m
      · cases m
    have hD₆ := k₆'.keep _ _ DO hD
    -- the loop
    refine wpAny_execs_cons (wpAny_For (wpAny_Call_NameR ((Ev.bi (c := c175 G A L) W.zip (by rfl) rfl rfl rfl (by decide)) (D :: X) s₆ S₆ _ _ fun z' s₇ k₇ e₇ => ?_)) (fun _ => rfl))
    have e₇ : z' = .type "zip" := e₇
    subst e₇
    refine callWith_any (c := c175 G A L) (first := []) (S₆.step k₇) (.cons (Ev.loc (x := "offsets") (P := aInts os) (.tail _ (.tail _ (.head _))) (by rfl) rfl (by decide)) rfl (.cons (Ev.loc (x := "tmp") (P := aByt tmp) (.tail _ (.tail _ (.tail _ (.head _)))) (by rfl) rfl (by decide)) rfl .nil)) KeepsIt.type fun vs s₈ k₈ hv => ?_
    obtain ⟨u1, u2, rfl, ⟨l, ws, rfl, hl, ia⟩, b, tb, rfl, eb⟩ := hv.two
    have S₈ := (S₆.step k₇).step k₈
    have k₆₈ : Step G false [] s₆ s₈ := (show Step G false [] s₆ s₇ from k₇).trans k₈
    have hl₈ : s₈.heap.IsList l ws.toArray := isList_keeps view_sub hl
    have lX : l ∉ D :: X := let ⟨o, e, _⟩ := hl; (view_of e).2
    have ll : l < s₈.heap.objs.size := let ⟨o, e, _⟩ := hl₈; Heap.lt_size e
    refine call_zip_lb hl₈ fun h₉ hz hTI hTO hi1 hi2 kp => ?_
    have hD₈ := k₆₈.keep _ _ (by simp) hD₆
    have Dl : D < s₈.heap.objs.size := Heap.lt_size hD₈
    have low₈ := S₈.ok.low
    generalize hN : s₈.heap.objs.size = N at hz hTI hTO hi1 hi2 ll Dl low₈
    have k₉ : Step G false [] s₈ { s₈ with heap := h₉ } := Step.heap (t := s₈.toks) kp
    have new5 : ∀ a ∈ [N + 4, N + 3, N, N + 1, N + 2], s₈.heap.get? a = none := fun a m => none_of_ge (by
      rw [hN]
      exact five_ge (Nat.le_refl _) a m)
    have off5 : ∀ a ∈ [N + 4, N + 3, N, N + 1, N + 2], a ∉ D :: X := fun a m q => by
      obtain ⟨o, e⟩ := S₈.live a q
      rw [new5 a m] at e; cases e
    have S₉ : Sat (c175 G A L) _ ([N + 4, N + 3, N, N + 1, N + 2] ++ D :: X) { s₈ with heap := h₉ } := S₈.hideL k₉ new5 fun a m => by
      simp only [List.mem_cons, List.not_mem_nil, or_false] at m
      rcases m with rfl | rfl | rfl | rfl | rfl
      · exact ⟨_, hz⟩
      · exact ⟨_, hTO⟩
      · obtain ⟨o, e, _⟩ := hi1; exact ⟨o, e⟩
      · obtain ⟨o, e, _⟩ := hi2; exact ⟨o, e⟩
      · exact ⟨_, hTI⟩
    refine wpAny_pyIter_zip hz ?_
    have lO : l ∉ (c175 G A L).own ++ (c175 G A L).T := fun m => by
      rcases List.mem_append.mp m with m | m
      · exact lX (.tail _ (own_X l m))
      · cases m
    refine zip_fill (n := os.length) (D := D) (z := N + 4) (TI := N + 2) (TO := N + 3) (i1 := N) (i2 := N + 1) (l := l) (vs := ws) (b := b) (t := tb) (os := os) (tmp := tmp) rm.h rfl hn' hz0 hos ia eb (za_new N l ll) (S₉.weaken (fun p hp => ?_) fun p hp => nomatch hp) (fun a m => ⟨off5 a m, five_ge low₈ a m⟩) ⟨DX, D0⟩ own_X (fun e => lX (e ▸ .head _)) (Nat.ne_of_lt ll) lO hz hTI ⟨_, _, hTO⟩ ⟨hi1, isList_keeps kp hl₈⟩ hi2 ⟨_, kp _ _ hD₈, rfl, 0, rfl⟩ S₁.tabs fun vs s₁₀ S₁₀ k₁₀ hb hf => ?_
    · rw [List.mem_singleton.mp hp]; exact .tail _ (.tail _ (.tail _ (.tail _ (.head _))))
    -- the end
    rw [hfill] at hf
    have hi := opt_ints hf
    refine wpAny_execs_cons (wpAny_Return_some (call1 (c := c175 G A L) S₁₀ (Ev.bi W.bytes (by rfl) rfl rfl rfl (by decide)) KeepsIt.type rfl fun s₁₁ S₁₁ k₁₁ => (Ev.loc (c := c175 G A L) (x := "buf") (P := aVal (.ref D)) (.head _) (by rfl) rfl (by decide)) X s₁₁ S₁₁ _ _ fun v s₁₂ k₁₂ e₁₂ => ?_))
    have e₁₂ : v = .ref D := e₁₂
    subst e₁₂
    have k₁₀₂ : Step G false [] s₁₀ s₁₂ := (show Step G false [] s₁₀ s₁₁ from k₁₁).trans k₁₂
    have ok₁₂ := (S₁₁.step k₁₂).ok
    have hlen : res.length = os.length := by
      have := congrArg List.length hfill
      rw [fillTo_len, List.length_map] at this
      exact this.symm
    refine ⟨ok₁₂, call_bytes_ints (isList_keeps (fun b o e => k₁₀₂.keep b o (by simp) e) hb) hi hres (by rw [hi.length, hlen, sizeLine_eq]; omega) rm.h fun h' t tk hk => q _ _ ?_ ⟨_, t, rfl, KBa.ints_make hres⟩⟩
    have k₁₃ : Step G false [] s₁₂ { s₁₂ with heap := h', toks := tk } := Step.heap hk
    have mid : Step G false ([N + 4, N + 3, N, N + 1, N + 2] ++ D :: (c175 G A L).own) s₄ { s₁₂ with heap := h', toks := tk } :=
      (k₅.more fun _ m => nomatch m).trans ((k₆'.more fun a m => List.mem_append_right _ (.tail _ m)).trans ((k₆₈.more fun _ m => nomatch m).trans ((k₉.more fun _ m => nomatch m).trans (k₁₀.trans ((k₁₀₂.more fun _ m => nomatch m).trans (k₁₃.more fun _ m => nomatch m))))))
    have mid' : Step G false (c175 G A L).own s₄ { s₁₂ with heap := h', toks := tk } := mid.less fun a o m e => by
      rcases List.mem_append.mp m with m | m
      · by_cases z : a ∈ (c175 G A L).own
        · exact z
        · have := k₆₈.keep a o (by simp) (k₆'.keep a o z (k₅.keep a o (by simp) e))
          rw [new5 a m] at this; cases this
      · rcases List.mem_cons.mp m with m | m
        · rw [m, Dn] at e; cases e
        · exact m
    have k₁₄ : Step G false [] s₁ s₄ := (show Step G false [] s₁ s₂ from k₂).trans (k₃.trans k₄)
    exact k₁.trans ((k₁₄.up.more fun _ m => nomatch m).trans (mid'.up.more fun a m => List.mem_append_left _ m))
end
end
section

theorem bits_small {x : Int} (h : x.natAbs < 2 ^ 64) : Builtin.Int.intBits x ≤ 64 := by
  unfold Builtin.Int.intBits
  split
  · omega
  · rename_i z
    have : x.natAbs ≠ 0 := by simpa using z
    have := (Nat.log2_lt this).mpr h
    omega
section
variable {G : Gl} {C : Addr}

/-- what the globals of the law's own text hold -/
structure Ww (G : Gl) (C : Addr) : Prop extends Wt G C where
  g265 : G.mg "_law_map" = some (.ref 265)
  g272 : G.mg "_law_number" = some (.ref 272)
  g277 : G.mg "_law_end_right" = some (.ref 277)
  g284 : G.mg "_law_numbers_right" = some (.ref 284)
  gC : G.mg "Base64Engine" = some (.ref C)
  F265 : FnAt G 265 fd265
  F272 : FnAt G 272 fd272
  F277 : FnAt G 277 fd277
  F284 : FnAt G 284 fd284
  F289 : FnAt G 289 fd289

def mapOf (number : Int) : List Int := (List.range 64).map fun i : Nat => (number.fmod 256 + (1 + (number.fdiv 256).fmod 128 * 2) * (0 + (i : Int) * 1)).fmod 256

theorem fmod256 (x : Int) : 0 ≤ x.fmod 256 ∧ x.fmod 256 < 256 := by
  rw [Int.fmod_eq_emod_of_nonneg _ (by decide)]
  omega
set_option maxHeartbeats 1000000 in
theorem f265 (W : Ww G C) {v : Int} : FnV G false 3 265 [aInt v] (aByt (mapOf v)) := by
  refine FnV.mk (xs := ["number"]) (σ := ⟨[("number", aInt v)], []⟩) W.F265 rfl rfl ?_ rfl (by decide) (by rfl) (by rfl) (fun L p hp => nomatch hp) rfl rfl rfl ?_
  · intro vs hv
    match vs, hv with
    | [a], _ => rfl
  · intro A L rm
    refine Rt.cons (Nx1.assignS (x := "start") (Ev.bin (Ev.loc (x := "number") (.head _) (by rfl) rfl (by decide)) Ev.intC (Op2.mod (by decide))) (Sto.cel rfl (by rfl) (.tail _ (.head _))) rfl) ?_
    refine Rt.cons (Nx1.assignS (x := "stride") (Ev.bin Ev.intC (Ev.bin (Ev.bin (Ev.bin (Ev.loc (x := "number") (.head _) (by rfl) rfl (by decide)) Ev.intC (Op2.div (by decide) (PyProof.noPylong_small (by decide)))) Ev.intC (Op2.mod (by decide))) Ev.intC (Op2.mul (.of_right (by decide)))) Op2.add) (Sto.cel rfl (by rfl) (.head _)) rfl) ?_
    refine Rt.here (Rt1.ret (Ev.call (Ev.bi W.bytes (by rfl) rfl rfl rfl (by decide)) (.cons (Ev.listcomp (n := 64) (r := fun i => (v.fmod 256 + (1 + (v.fdiv 256).fmod 128 * 2) * (0 + (i : Int) * 1)).fmod 256) (cl := [("stride", L + 2), ("start", L + 1)]) (cs := [("start", aInt (v.fmod 256)), ("stride", aInt (1 + (v.fdiv 256).fmod 128 * 2))]) (Ev.call (Ev.bi W.range (by rfl) rfl rfl rfl (by decide)) (.cons Ev.intC rfl .nil) KeepsIt.type CallV.range1) (iter_range rm.h (by decide +kernel) (by decide +kernel)) (by rw [sizeLine_eq]; decide) rfl (by decide +kernel) rfl (by decide +kernel) (by rfl) (lookup_two rfl rfl) (fun p hp => ?_) (fun i C' hi => ?_) (fun _ => rfl)) rfl .nil) KeepsIt.type ?_))
    · match p, hp with
      | _, .head _ => exact ⟨.head _, by rfl⟩
      | _, .tail _ (.head _) => exact ⟨.tail _ (.head _), by rfl⟩
    · exact Ev.bin (Ev.bin (Ev.cell (x := "start") (.head _) (by rfl) rfl (by decide)) (Ev.bin (Ev.cell (x := "stride") (.tail _ (.head _)) (by rfl) rfl (by decide)) (Ev.loc (x := "k") (.head _) (by rfl) rfl (by decide)) (Op2.mul (.of_right (bits_small (by omega))))) Op2.add) Ev.intC (Op2.mod (by decide))
    · exact CallV.bytes rm.h (fun x hx => by obtain ⟨i, _, rfl⟩ := List.mem_map.mp hx; exact fmod256 _) (by simp)
end
end
section
section
variable {c : Fx} {σ τ τ' : St} {l : List Stmt}
theorem Nx.weaken (h : Nx c σ l τ) (h1 : ∀ p, p ∈ τ'.loc → p ∈ τ.loc) (h2 : ∀ p, p ∈ τ'.cel → p ∈ τ.cel) : Nx c σ l τ' := fun X s S Q E q => h X s S Q E fun s' k S' => q s' k (S'.weaken h1 h2)
end
def numOf (l : List Int) : Int := l.foldl (fun n o => n * 256 + o) 0
theorem numOf_take (l : List Int) {i : Nat} (h : i < l.length) : numOf (l.take (i + 1)) = numOf (l.take i) * 256 + l.getD i 0 := by
  unfold numOf
  rw [List.take_succ, List.foldl_append, List.getElem?_eq_getElem h]
  simp [h]
section
variable {G : Gl} {C : Addr}
set_option maxHeartbeats 1000000 in
theorem f272 (W : Ww G C) {ks : List Int} {big : Bool} (hz : ks.length ≤ 1000) : FnV G false 3 272 [aByt ks, aBool big] (aInt (numOf (if big then ks else ks.reverse))) := by
  refine FnV.mk (xs := ["octets", "big"]) (σ := ⟨[("octets", aByt ks), ("big", aBool big)], []⟩) W.F272 rfl rfl ?_ rfl (by decide) (by rfl) (by rfl) (fun L p hp => nomatch hp) rfl rfl rfl ?_
  · intro vs hv
    match vs, hv with
    | [a, b], _ => rfl
  · intro A L rm
    refine Rt.cons (Nx1.assignS (x := "number") Ev.intC (Sto.loc rfl (by rfl)) rfl) ?_
    have key : ∀ (l : List Int), (hl : l.length ≤ 1000) → ∀ {iter : Expr} {xp pos : Pos}, Ev (fxOf G A false fd272 272 L) ⟨[("octets", aByt ks), ("big", aBool big), ("number", aInt 0)], []⟩ iter (aByt l) → (∀ x, foldedSetIterable iter (callEnvC fd272 L 272) x = pure x) →
        Nx1 (fxOf G A false fd272 272 L) ⟨[("octets", aByt ks), ("big", aBool big), ("number", aInt 0)], []⟩ (.For (.Name "octet" xp) iter (match nth (bd (nth topBody 8)) 1 with | .For _ _ b .. => b | _ => []) [] pos) ⟨[("octets", aByt ks), ("big", aBool big), ("number", aInt (numOf l))], []⟩ := by
      intro l hl iter xp pos he hs
      have z := Nx1.for (c := fxOf G A false fd272 272 L) (n := l.length) (xp := xp) (pos := pos) (x := "octet") (Pi := fun i => aInt (l.getD i 0)) (σ := fun i => ⟨[("octets", aByt ks), ("big", aBool big), ("number", aInt (numOf (l.take i)))], []⟩) (τ := fun i => ⟨[("octets", aByt ks), ("big", aBool big), ("number", aInt (numOf (l.take i))), ("octet", aInt (l.getD i 0))], []⟩) (body := match nth (bd (nth topBody 8)) 1 with | .For _ _ b .. => b | _ => []) he (iter_bytes rm.h) (fun i hi => Sto.loc rfl (by rfl)) (fun i hi => ?_) hs
      · rw [List.take_length] at z; exact z
      · rw [numOf_take l hi]
        exact Nx.weaken (Nx.cons (Nx1.assignS (x := "number") (Ev.bin (Ev.bin (Ev.loc (x := "number") (.tail _ (.tail _ (.head _))) (by rfl) rfl (by decide)) Ev.intC (Op2.mul (.of_right (by decide)))) (Ev.loc (x := "octet") (.tail _ (.tail _ (.tail _ (.head _)))) (by rfl) rfl (by decide)) Op2.add) (Sto.loc rfl (by rfl)) rfl) Nx.nil) (fun p hp => by
          match p, hp with
          | _, .head _ => exact .head _
          | _, .tail _ (.head _) => exact .tail _ (.head _)
          | _, .tail _ (.tail _ (.head _)) => exact .tail _ (.tail _ (.head _))) fun p hp => nomatch hp
    cases big with
    | true =>
      refine Rt.cons (key ks hz (Ev.ife_t (Tr.val (Ev.loc (x := "big") (.tail _ (.head _)) (by rfl) rfl (by decide)) TrV.bool (by rfl)) (Ev.loc (x := "octets") (.head _) (by rfl) rfl (by decide))) (fun _ => rfl)) ?_
      exact Rt.here (Rt1.ret (Ev.loc (x := "number") (.tail _ (.tail _ (.head _))) (by rfl) rfl (by decide)))
    | false =>
      refine Rt.cons (key ks.reverse (by simpa using hz) (Ev.ife_f (Tr.val (Ev.loc (x := "big") (.tail _ (.head _)) (by rfl) rfl (by decide)) TrV.bool (by rfl)) (Ev.sub (Ev.loc (x := "octets") (.head _) (by rfl) rfl (by decide)) (Ev.slice .none .none (.int (Ev.un Ev.intC Op1.neg))) (Sub2.brev (ops := fun o i => [o, i]) (by omega)))) (fun _ => rfl)) ?_
      exact Rt.here (Rt1.ret (Ev.loc (x := "number") (.tail _ (.tail _ (.head _))) (by rfl) rfl (by decide)))
end
end
section

/-! ## the mathematics of the digits -/
theorem digL_len (v : Int) (n : Nat) : (digL v n).length = n := by simp [digL]
theorem digB_rev {v b p : Int} {n : Nat} (h : b + p = 6 * n) : digB v b p n = (digL (v * 2 ^ p.toNat) n).reverse := by
  show ((List.range n).map fun (i : Nat) => Builtin.bitAnd ((v * 2 ^ p.toNat).fdiv (2 ^ (b + p - 6 + (i : Int) * -6).toNat)) 63) = ((List.range n).map fun (i : Nat) => Builtin.bitAnd ((v * 2 ^ p.toNat).fdiv (2 ^ (0 + (i : Int) * 6).toNat)) 63).reverse
  apply List.ext_getElem
  · simp
  · intro i h1 h2
    have hi : i < n := by simpa using h1
    rw [List.getElem_reverse]
    simp only [List.getElem_map, List.getElem_range, List.length_map, List.length_range]
    have e : b + p - 6 + (i : Int) * -6 = 0 + ((n - 1 - i : Nat) : Int) * 6 := by omega
    rw [e]
theorem sgOf_rev (sg l : List Int) : (sgOf sg l).reverse = sgOf sg l.reverse := by simp [sgOf]
theorem sgOf_app (sg l m : List Int) : sgOf sg (l ++ m) = sgOf sg l ++ sgOf sg m := by simp [sgOf]
theorem dig_at (x : Int) (k : Nat) (m : Int) (hm : m = 2 ^ k) (h0 : 0 < m) : Builtin.bitAnd (x.fdiv m) 63 = x / m % 64 := by
  rw [bitAnd_m6, Int.fdiv_eq_ediv_of_nonneg _ (Int.le_of_lt h0)]
theorem fm (x : Int) {m : Int} (h : 0 ≤ m) : x.fmod m = x % m := Int.fmod_eq_emod_of_nonneg _ h
theorem fd' (x : Int) {m : Int} (h : 0 ≤ m) : x.fdiv m = x / m := Int.fdiv_eq_ediv_of_nonneg _ h

theorem digL5 (x : Int) : digL (x.fmod (2 ^ 30)) 5 = dig24 (x.fmod (2 ^ 24)) ++ [Builtin.bitAnd ((x.fdiv (2 ^ 24)).fmod 64) 63] := by
  have e : digL (x.fmod (2 ^ 30)) 5 = [Builtin.bitAnd ((x.fmod (2 ^ 30)).fdiv 1) 63, Builtin.bitAnd ((x.fmod (2 ^ 30)).fdiv 64) 63, Builtin.bitAnd ((x.fmod (2 ^ 30)).fdiv 4096) 63, Builtin.bitAnd ((x.fmod (2 ^ 30)).fdiv 262144) 63, Builtin.bitAnd ((x.fmod (2 ^ 30)).fdiv 16777216) 63] := rfl
  have e' : dig24 (x.fmod (2 ^ 24)) = [Builtin.bitAnd (x.fmod (2 ^ 24)) 63, Builtin.bitAnd ((x.fmod (2 ^ 24)).fdiv 64) 63, Builtin.bitAnd ((x.fmod (2 ^ 24)).fdiv 4096) 63, Builtin.bitAnd ((x.fmod (2 ^ 24)).fdiv 262144) 63] := rfl
  rw [e, e']
  simp only [bitAnd_m6]
  rw [fm x (show (0 : Int) ≤ 2 ^ 30 by decide), fm x (show (0 : Int) ≤ 2 ^ 24 by decide), fd' x (show (0 : Int) ≤ 2 ^ 24 by decide)]
  simp only [fd' _ (show (0 : Int) ≤ 1 by decide), fd' _ (show (0 : Int) ≤ 64 by decide), fd' _ (show (0 : Int) ≤ 4096 by decide), fd' _ (show (0 : Int) ≤ 262144 by decide), fd' _ (show (0 : Int) ≤ 16777216 by decide), fm _ (show (0 : Int) ≤ 64 by decide)]
  simp only [List.cons_append, List.nil_append, List.cons.injEq, and_true]
  refine ⟨?_, ?_, ?_, ?_, ?_⟩ <;> omega
theorem cut_one {sg : List Int} {v : Int} (h0 : 0 ≤ v) (h1 : v < sg.length) : cut (some v) (some (v + 1)) sg = [sg.getD v.toNat 0] := by
  obtain ⟨n, rfl⟩ := Int.eq_ofNat_of_zero_le h0
  have hn : n < sg.length := by omega
  unfold cut
  simp only [Option.elim]
  have e1 : clipAt sg.length (n : Int) = n := by rw [clipAt_nat]; omega
  have e2 : clipAt sg.length ((n : Int) + 1) = n + 1 := by
    have : ((n : Int) + 1) = ((n + 1 : Nat) : Int) := by simp
    rw [this, clipAt_nat]; omega
  rw [e1, e2]
  have : n + 1 - n = 1 := by omega
  rw [this]
  rw [List.drop_eq_getElem_cons hn, List.take_succ_cons, List.take_zero]
  simp [List.getD_eq_getElem?_getD, hn]
end
section

/-! ## the codec in plain numbers -/
theorem and_apart : ∀ (k : Nat) (x y : Int), 0 ≤ y → y < 2 ^ k → Builtin.bitAnd (x * 2 ^ k) y = 0
  | 0, x, y, h0, h1 => by
    have : y = 0 := by simp at h1; omega
    subst this
    exact bitAnd_zero _
  | k + 1, x, y, h0, h1 => by
    rw [kbt_halves]
    have e : x * 2 ^ (k + 1) = 2 * (x * 2 ^ k) := by rw [Int.pow_succ, ← Int.mul_assoc]; omega
    have e1 : x * 2 ^ (k + 1) / 2 = x * 2 ^ k := by omega
    have e2 : ¬ (x * 2 ^ (k + 1) % 2 = 1 ∧ y % 2 = 1) := by omega
    have h1' : y < 2 * 2 ^ k := by rw [Int.pow_succ] at h1; omega
    rw [e1, and_apart k x (y / 2) (by omega) (by omega), if_neg e2]
    rfl
theorem or_apart (k : Nat) (x y : Int) (h0 : 0 ≤ y) (h1 : y < 2 ^ k) : Builtin.bitOr (x * 2 ^ k) y = x * 2 ^ k + y := by
  rw [bitOr_and, and_apart k x y h0 h1]; omega
theorem or_apart' (k : Nat) (x y : Int) (h0 : 0 ≤ y) (h1 : y < 2 ^ k) : Builtin.bitOr y (x * 2 ^ k) = y + x * 2 ^ k := by
  rw [bitOr_comm, or_apart k x y h0 h1]; omega
theorem fd2 (x : Int) : x.fdiv (2 ^ (2 : Int).toNat) = x / 4 := Int.fdiv_eq_ediv_of_nonneg _ (by decide)
theorem fd4 (x : Int) : x.fdiv (2 ^ (4 : Int).toNat) = x / 16 := Int.fdiv_eq_ediv_of_nonneg _ (by decide)
theorem fd6 (x : Int) : x.fdiv (2 ^ (6 : Int).toNat) = x / 64 := Int.fdiv_eq_ediv_of_nonneg _ (by decide)
theorem o2 {x y : Int} (h0 : 0 ≤ y) (h1 : y < 4) : Builtin.bitOr (x * 2 ^ (2 : Int).toNat) y = x * 4 + y := or_apart 2 x y h0 h1
theorem o4 {x y : Int} (h0 : 0 ≤ y) (h1 : y < 16) : Builtin.bitOr (x * 2 ^ (4 : Int).toNat) y = x * 16 + y := or_apart 4 x y h0 h1
theorem o6 {x y : Int} (h0 : 0 ≤ y) (h1 : y < 64) : Builtin.bitOr (x * 2 ^ (6 : Int).toNat) y = x * 64 + y := or_apart 6 x y h0 h1
theorem o2' {x y : Int} (h0 : 0 ≤ y) (h1 : y < 4) : Builtin.bitOr y (x * 2 ^ (2 : Int).toNat) = y + x * 4 := or_apart' 2 x y h0 h1
theorem o4' {x y : Int} (h0 : 0 ≤ y) (h1 : y < 16) : Builtin.bitOr y (x * 2 ^ (4 : Int).toNat) = y + x * 16 := or_apart' 4 x y h0 h1
theorem o6' {x y : Int} (h0 : 0 ≤ y) (h1 : y < 64) : Builtin.bitOr y (x * 2 ^ (6 : Int).toNat) = y + x * 64 := or_apart' 6 x y h0 h1
theorem m2 (x : Int) : x * 2 ^ (2 : Int).toNat = x * 4 := rfl
theorem m4 (x : Int) : x * 2 ^ (4 : Int).toNat = x * 16 := rfl

abbrev Oct (x : Int) : Prop := 0 ≤ x ∧ x < 256
abbrev Sx (x : Int) : Prop := 0 ≤ x ∧ x < 64
theorem sixEL_eq {a b c : Int} (ha : Oct a) (hb : Oct b) (hc : Oct c) : sixEL a b c = [a % 64, b % 16 * 4 + a / 64, c % 4 * 16 + b / 16, c / 4] := by
  unfold sixEL
  simp only [bitAnd_m2, bitAnd_m4, bitAnd_m6, fd2, fd4, fd6]
  rw [o2 (by omega) (by omega), o4 (by omega) (by omega)]
theorem sixEB_eq {a b c : Int} (ha : Oct a) (hb : Oct b) (hc : Oct c) : sixEB a b c = [a / 4, a % 4 * 16 + b / 16, b % 16 * 4 + c / 64, c % 64] := by
  unfold sixEB
  simp only [bitAnd_m2, bitAnd_m4, bitAnd_m6, fd2, fd4, fd6]
  rw [o2 (by omega) (by omega), o4 (by omega) (by omega)]
theorem sixDL_eq {a b c d : Int} (ha : Sx a) (hb : Sx b) (hc : Sx c) (hd : Sx d) : sixDL a b c d = [a + b % 4 * 64, b / 4 + c % 16 * 16, c / 16 + d * 4] := by
  unfold sixDL
  simp only [bitAnd_m2, bitAnd_m4, bitAnd_m6, fd2, fd4, fd6]
  rw [o6' (by omega) (by omega), o4' (by omega) (by omega), o2' (by omega) (by omega)]
theorem sixDB_eq {a b c d : Int} (ha : Sx a) (hb : Sx b) (hc : Sx c) (hd : Sx d) : sixDB a b c d = [a * 4 + b / 16, b % 16 * 16 + c / 4, c % 4 * 64 + d] := by
  unfold sixDB
  simp only [bitAnd_m2, bitAnd_m4, bitAnd_m6, fd2, fd4, fd6]
  rw [o2 (by omega) (by omega), o4 (by omega) (by omega), o6 (by omega) (by omega)]
theorem tailEL1 (a : Int) : tailEL [a] = [a % 64, a / 64] := by
  simp only [tailEL, bitAnd_m6, fd6]
theorem tailEL2 {a b : Int} (ha : Oct a) (hb : Oct b) : tailEL [a, b] = [a % 64, b % 16 * 4 + a / 64, b / 16] := by
  simp only [tailEL, bitAnd_m6, bitAnd_m4, fd6, fd4]
  rw [o2 (by omega) (by omega)]
theorem tailEB1 (a : Int) : tailEB [a] = [a / 4, a % 4 * 16] := by
  simp only [tailEB, bitAnd_m2, fd2, m4]
theorem tailEB2 {a b : Int} (ha : Oct a) (hb : Oct b) : tailEB [a, b] = [a / 4, a % 4 * 16 + b / 16, b % 16 * 4] := by
  simp only [tailEB, bitAnd_m2, bitAnd_m4, fd2, fd4, m2]
  rw [o4 (by omega) (by omega)]
theorem tailDL2 {a b : Int} (ha : Sx a) (hb : Sx b) : tailDL [a, b] = [a + b % 4 * 64] := by
  simp only [tailDL, bitAnd_m2]
  rw [o6' (by omega) (by omega)]
theorem tailDL3 {a b c : Int} (ha : Sx a) (hb : Sx b) (hc : Sx c) : tailDL [a, b, c] = [a + b % 4 * 64, b / 4 + c % 16 * 16] := by
  simp only [tailDL, bitAnd_m2, bitAnd_m4, fd2]
  rw [o6' (by omega) (by omega), o4' (by omega) (by omega)]
theorem tailDB2 {a b : Int} (ha : Sx a) (hb : Sx b) : tailDB [a, b] = [a * 4 + b / 16] := by
  simp only [tailDB, fd4]
  rw [o2 (by omega) (by omega)]
theorem tailDB3 {a b c : Int} (ha : Sx a) (hb : Sx b) (hc : Sx c) : tailDB [a, b, c] = [a * 4 + b / 16, b % 16 * 16 + c / 4] := by
  simp only [tailDB, bitAnd_m4, fd2, fd4]
  rw [o2 (by omega) (by omega), o4 (by omega) (by omega)]
end
section
def six (big : Bool) (a b c : Int) : List Int := if big then sixEB a b c else sixEL a b c
def tailE (big : Bool) (l : List Int) : List Int := if big then tailEB l else tailEL l
theorem outE_3 (big : Bool) (a b c : Int) (r : List Int) : outE big (a :: b :: c :: r) = six big a b c ++ outE big r := by
  cases big <;> simp [outE, six, bodyEB, bodyEL, last3]
theorem outE_1 (big : Bool) (a : Int) : outE big [a] = tailE big [a] := by cases big <;> rfl
theorem outE_2 (big : Bool) (a b : Int) : outE big [a, b] = tailE big [a, b] := by cases big <;> rfl
theorem outE_0 (big : Bool) : outE big [] = [] := by cases big <;> rfl
theorem outD_4 (big : Bool) (a b c d : Int) (r : List Int) : outD big (a :: b :: c :: d :: r) = (if big then sixDB a b c d else sixDL a b c d) ++ outD big r := by
  cases big <;> simp [outD, bodyDB, bodyDL, last4]
theorem outD_0 (big : Bool) : outD big [] = [] := by cases big <;> rfl
theorem outD_2 (big : Bool) (a b : Int) : outD big [a, b] = if big then tailDB [a, b] else tailDL [a, b] := by cases big <;> rfl
theorem outD_3 (big : Bool) (a b c : Int) : outD big [a, b, c] = if big then tailDB [a, b, c] else tailDL [a, b, c] := by cases big <;> rfl

theorem six_eq {big : Bool} {a b c : Int} (ha : Oct a) (hb : Oct b) (hc : Oct c) : six big a b c = if big then [a / 4, a % 4 * 16 + b / 16, b % 16 * 4 + c / 64, c % 64] else [a % 64, b % 16 * 4 + a / 64, c % 4 * 16 + b / 16, c / 4] := by
  unfold six; rw [sixEL_eq ha hb hc, sixEB_eq ha hb hc]
theorem tailE1 (big : Bool) (a : Int) : tailE big [a] = if big then [a / 4, a % 4 * 16] else [a % 64, a / 64] := by
  unfold tailE; rw [tailEB1, tailEL1]
theorem tailE2 (big : Bool) {a b : Int} (ha : Oct a) (hb : Oct b) : tailE big [a, b] = if big then [a / 4, a % 4 * 16 + b / 16, b % 16 * 4] else [a % 64, b % 16 * 4 + a / 64, b / 16] := by
  unfold tailE; rw [tailEB2 ha hb, tailEL2 ha hb]

abbrev Octs (l : List Int) : Prop := ∀ x ∈ l, 0 ≤ x ∧ x < 256
theorem Octs.c {a : Int} {l : List Int} (h : Octs (a :: l)) : Oct a ∧ Octs l := ⟨h a (.head _), fun x m => h x (.tail _ m)⟩
theorem outE_range (big : Bool) : ∀ (l : List Int), Octs l → ∀ v ∈ outE big l, 0 ≤ v ∧ v < 64
  | [], _, v, h => by rw [outE_0] at h; nomatch h
  | [a], hl, v, h => by
    have ha := hl.c.1
    rw [outE_1, tailE1] at h
    cases big <;> simp only [if_true, Bool.false_eq_true, if_false, List.mem_cons, List.not_mem_nil, or_false] at h <;> omega
  | [a, b], hl, v, h => by
    have ha := hl.c.1
    have hb := hl.c.2.c.1
    rw [outE_2, tailE2 big ha hb] at h
    cases big <;> simp only [if_true, Bool.false_eq_true, if_false, List.mem_cons, List.not_mem_nil, or_false] at h <;> omega
  | a :: b :: c :: r, hl, v, h => by
    have ha := hl.c.1
    have hb := hl.c.2.c.1
    have hc := hl.c.2.c.2.c.1
    rw [outE_3, six_eq ha hb hc] at h
    cases List.mem_append.mp h with
    | inr h => exact outE_range big r hl.c.2.c.2.c.2 v h
    | inl h => cases big <;> simp only [if_true, Bool.false_eq_true, if_false, List.mem_cons, List.not_mem_nil, or_false] at h <;> omega
theorem six_len (big : Bool) (a b c : Int) : (six big a b c).length = 4 := by cases big <;> rfl
theorem outE_len (big : Bool) : ∀ (l : List Int), (outE big l).length ≤ 2 * l.length
  | [] => by rw [outE_0]; simp
  | [a] => by rw [outE_1, tailE1]; cases big <;> simp
  | [a, b] => by rw [outE_2]; cases big <;> simp [tailE, tailEB, tailEL]
  | a :: b :: c :: r => by rw [outE_3, List.length_append, six_len]; have := outE_len big r; simp only [List.length_cons]; omega
theorem outE_mod (big : Bool) : ∀ (l : List Int), (outE big l).length % 4 ≠ 1
  | [] => by rw [outE_0]; simp
  | [a] => by rw [outE_1, tailE1]; cases big <;> simp
  | [a, b] => by rw [outE_2]; cases big <;> simp [tailE, tailEB, tailEL]
  | a :: b :: c :: r => by rw [outE_3, List.length_append, six_len]; have := outE_mod big r; omega
theorem dec_enc (big : Bool) : ∀ (l : List Int), Octs l → outD big (outE big l) = l
  | [], _ => by rw [outE_0, outD_0]
  | [a], hl => by
    have ha := hl.c.1
    rw [outE_1, tailE1]
    cases big
    · simp only [Bool.false_eq_true, if_false]
      rw [outD_2, if_neg (by decide), tailDL2 (by omega) (by omega)]
      congr 1; omega
    · simp only [if_true]
      rw [outD_2, if_pos rfl, tailDB2 (by omega) (by omega)]
      congr 1; omega
  | [a, b], hl => by
    have ha := hl.c.1
    have hb := hl.c.2.c.1
    rw [outE_2, tailE2 big ha hb]
    cases big
    · simp only [Bool.false_eq_true, if_false]
      rw [outD_3, if_neg (by decide), tailDL3 (by omega) (by omega) (by omega)]
      simp only [List.cons.injEq, and_true]
      omega
    · simp only [if_true]
      rw [outD_3, if_pos rfl, tailDB3 (by omega) (by omega) (by omega)]
      simp only [List.cons.injEq, and_true]
      omega
  | a :: b :: c :: r, hl => by
    have ha := hl.c.1
    have hb := hl.c.2.c.1
    have hc := hl.c.2.c.2.c.1
    have ih := dec_enc big r hl.c.2.c.2.c.2
    rw [outE_3, six_eq ha hb hc]
    cases big
    · simp only [Bool.false_eq_true, if_false, List.cons_append, List.nil_append]
      rw [outD_4, if_neg (by decide), sixDL_eq (by omega) (by omega) (by omega) (by omega), ih]
      simp only [List.cons_append, List.nil_append, List.cons.injEq, and_true]
      omega
    · simp only [if_true, List.cons_append, List.nil_append]
      rw [outD_4, if_pos rfl, sixDB_eq (by omega) (by omega) (by omega) (by omega), ih]
      simp only [List.cons_append, List.nil_append, List.cons.injEq, and_true]
      omega
theorem outE_app (big : Bool) : ∀ (l m : List Int), l.length % 3 = 0 → outE big (l ++ m) = outE big l ++ outE big m
  | [], m, _ => by rw [outE_0]; rfl
  | [a], m, h => by simp at h
  | [a, b], m, h => by simp at h
  | a :: b :: c :: r, m, h => by
    rw [List.cons_append, List.cons_append, List.cons_append, outE_3, outE_3, outE_app big r m (by simp only [List.length_cons] at h; omega), List.append_assoc]
theorem outE_turn : ∀ (l : List Int), Octs l → l.length % 3 = 0 → outE false l = (outE true l.reverse).reverse
  | [], _, _ => by rw [outE_0]; rfl
  | [a], _, h => by simp at h
  | [a, b], _, h => by simp at h
  | a :: b :: c :: r, hl, h => by
    have ha := hl.c.1
    have hb := hl.c.2.c.1
    have hc := hl.c.2.c.2.c.1
    have h' : r.length % 3 = 0 := by simp only [List.length_cons] at h; omega
    have e : (a :: b :: c :: r).reverse = r.reverse ++ [c, b, a] := by simp
    rw [outE_3, e, outE_app true r.reverse [c, b, a] (by simpa using h'), List.reverse_append, ← outE_turn r hl.c.2.c.2.c.2 h', outE_3, outE_0, six_eq ha hb hc, six_eq hc hb ha]
    simp
end
section
theorem digL11 (x : Int) : digL x 11 = [x % 64, x / 64 % 64, x / 4096 % 64, x / 262144 % 64, x / 16777216 % 64, x / 1073741824 % 64, x / 68719476736 % 64, x / 4398046511104 % 64, x / 281474976710656 % 64, x / 18014398509481984 % 64, x / 1152921504606846976 % 64] := by
  have e : digL x 11 = [Builtin.bitAnd (x.fdiv 1) 63, Builtin.bitAnd (x.fdiv 64) 63, Builtin.bitAnd (x.fdiv 4096) 63, Builtin.bitAnd (x.fdiv 262144) 63, Builtin.bitAnd (x.fdiv 16777216) 63, Builtin.bitAnd (x.fdiv 1073741824) 63, Builtin.bitAnd (x.fdiv 68719476736) 63, Builtin.bitAnd (x.fdiv 4398046511104) 63, Builtin.bitAnd (x.fdiv 281474976710656) 63, Builtin.bitAnd (x.fdiv 18014398509481984) 63, Builtin.bitAnd (x.fdiv 1152921504606846976) 63] := rfl
  rw [e]
  simp only [bitAnd_m6]
  rw [fd' x (show (0 : Int) ≤ 1 by decide), fd' x (show (0 : Int) ≤ 64 by decide), fd' x (show (0 : Int) ≤ 4096 by decide), fd' x (show (0 : Int) ≤ 262144 by decide), fd' x (show (0 : Int) ≤ 16777216 by decide), fd' x (show (0 : Int) ≤ 1073741824 by decide), fd' x (show (0 : Int) ≤ 68719476736 by decide), fd' x (show (0 : Int) ≤ 4398046511104 by decide), fd' x (show (0 : Int) ≤ 281474976710656 by decide), fd' x (show (0 : Int) ≤ 18014398509481984 by decide), fd' x (show (0 : Int) ≤ 1152921504606846976 by decide)]
  rw [Int.ediv_one]
theorem dig12_eq (x : Int) : dig12 x = [x % 64, x / 64 % 64] := by
  have e : dig12 x = [Builtin.bitAnd x 63, Builtin.bitAnd (x.fdiv 64) 63] := rfl
  rw [e]; simp only [bitAnd_m6, fd' x (show (0 : Int) ≤ 64 by decide)]
theorem dig24_eq (x : Int) : dig24 x = [x % 64, x / 64 % 64, x / 4096 % 64, x / 262144 % 64] := by
  have e : dig24 x = [Builtin.bitAnd x 63, Builtin.bitAnd (x.fdiv 64) 63, Builtin.bitAnd (x.fdiv 4096) 63, Builtin.bitAnd (x.fdiv 262144) 63] := rfl
  rw [e]; simp only [bitAnd_m6, fd' x (show (0 : Int) ≤ 64 by decide), fd' x (show (0 : Int) ≤ 4096 by decide), fd' x (show (0 : Int) ≤ 262144 by decide)]
theorem dig4 {a b c y : Int} (ha : Oct a) (hb : Oct b) (hc : Oct c) : (((y * 256 + c) * 256 + b) * 256 + a) % 64 = a % 64 ∧ (((y * 256 + c) * 256 + b) * 256 + a) / 64 % 64 = b % 16 * 4 + a / 64 ∧ (((y * 256 + c) * 256 + b) * 256 + a) / 4096 % 64 = c % 4 * 16 + b / 16 ∧ (((y * 256 + c) * 256 + b) * 256 + a) / 262144 % 64 = c / 4 ∧ (((y * 256 + c) * 256 + b) * 256 + a) / 16777216 = y := by
  refine ⟨?_, ?_, ?_, ?_, ?_⟩ <;> omega
theorem far (x : Int) {k m n : Int} (h : k * m = n) (hk : 0 ≤ k) : x / n = x / k / m := by rw [← h, Int.ediv_ediv_of_nonneg hk]
theorem eight_little {a b c d e f g h : Int} (ha : Oct a) (hb : Oct b) (hc : Oct c) (hd : Oct d) (he : Oct e) (hf : Oct f) (hg : Oct g) (hh : Oct h) :
    outE false [a, b, c, d, e, f, g, h] = digL (numOf [h, g, f, e, d, c, b, a]) 11 := by
  have en : numOf [h, g, f, e, d, c, b, a] = ((((((((0 * 256 + h) * 256 + g) * 256 + f) * 256 + e) * 256 + d) * 256 + c) * 256 + b) * 256 + a) := rfl
  obtain ⟨z1, z2, z3⟩ : ((0 * 256 + h) * 256 + g) % 64 = g % 64 ∧ ((0 * 256 + h) * 256 + g) / 64 % 64 = h % 16 * 4 + g / 64 ∧ ((0 * 256 + h) * 256 + g) / 4096 % 64 = h / 16 := by refine ⟨?_, ?_, ?_⟩ <;> omega
  generalize (0 * 256 + h) * 256 + g = z at en z1 z2 z3
  obtain ⟨q1, q2, q3, q4, q5⟩ := dig4 (y := z) hd he hf
  generalize ((z * 256 + f) * 256 + e) * 256 + d = y at en q1 q2 q3 q4 q5
  obtain ⟨p1, p2, p3, p4, p5⟩ := dig4 (y := y) ha hb hc
  generalize ((y * 256 + c) * 256 + b) * 256 + a = x at en p1 p2 p3 p4 p5
  rw [outE_3, outE_3, outE_2, six_eq ha hb hc, six_eq hd he hf, tailE2 false hg hh, digL11, en]
  rw [far x (k := 16777216) (m := 64) (n := 1073741824) rfl (by decide), far x (k := 16777216) (m := 4096) (n := 68719476736) rfl (by decide), far x (k := 16777216) (m := 262144) (n := 4398046511104) rfl (by decide), far x (k := 16777216) (m := 16777216) (n := 281474976710656) rfl (by decide), far x (k := 16777216) (m := 1073741824) (n := 18014398509481984) rfl (by decide), far x (k := 16777216) (m := 68719476736) (n := 1152921504606846976) rfl (by decide), p5]
  rw [far y (k := 16777216) (m := 64) (n := 1073741824) rfl (by decide), far y (k := 16777216) (m := 4096) (n := 68719476736) rfl (by decide), q5, p1, p2, p3, p4, q1, q2, q3, q4, z1, z2, z3]
  rfl
theorem eight_big {a b c d e f g h : Int} (ha : Oct a) (hb : Oct b) (hc : Oct c) (hd : Oct d) (he : Oct e) (hf : Oct f) (hg : Oct g) (hh : Oct h) :
    outE true [a, b, c, d, e, f, g, h] = digB (numOf [a, b, c, d, e, f, g, h]) 64 2 11 := by
  have en : numOf [a, b, c, d, e, f, g, h] * 4 = ((((((((0 * 256 + a) * 256 + b) * 256 + c) * 256 + d) * 256 + e) * 256 + f) * 256 + g) * 256 + h) * 4 := rfl
  obtain ⟨z1, z2, z3, z4⟩ : ((0 * 256 + a) * 256 + b) * 256 + c = ((0 * 256 + a) * 256 + b) * 256 + c ∧ True ∧ True ∧ True := ⟨rfl, trivial, trivial, trivial⟩
  obtain ⟨q1, q2, q3, q4, q5⟩ := dig4 (y := 0) hc hb ha
  generalize ((0 * 256 + a) * 256 + b) * 256 + c = w at en q1 q2 q3 q4 q5
  obtain ⟨p1, p2, p3, p4, p5⟩ := dig4 (y := w) hf he hd
  generalize ((w * 256 + d) * 256 + e) * 256 + f = u at en p1 p2 p3 p4 p5
  obtain ⟨r1, r2, r3, r4⟩ : ((u * 256 + g) * 256 + h) * 4 % 64 = h % 16 * 4 ∧ ((u * 256 + g) * 256 + h) * 4 / 64 % 64 = g % 4 * 16 + h / 16 ∧ ((u * 256 + g) * 256 + h) * 4 / 4096 % 64 = g / 4 ∧ ((u * 256 + g) * 256 + h) * 4 / 262144 = u := by refine ⟨?_, ?_, ?_, ?_⟩ <;> omega
  generalize ((u * 256 + g) * 256 + h) * 4 = x at en r1 r2 r3 r4
  rw [digB_rev (show (64 : Int) + 2 = 6 * (11 : Nat) by decide), show (2 : Int) ^ (2 : Int).toNat = 4 from rfl]
  rw [outE_3, outE_3, outE_2, six_eq ha hb hc, six_eq hd he hf, tailE2 true hg hh, en, digL11]
  rw [far x (k := 262144) (m := 64) (n := 16777216) rfl (by decide), far x (k := 262144) (m := 4096) (n := 1073741824) rfl (by decide), far x (k := 262144) (m := 262144) (n := 68719476736) rfl (by decide), far x (k := 262144) (m := 16777216) (n := 4398046511104) rfl (by decide), far x (k := 262144) (m := 1073741824) (n := 281474976710656) rfl (by decide), far x (k := 262144) (m := 68719476736) (n := 18014398509481984) rfl (by decide), far x (k := 262144) (m := 4398046511104) (n := 1152921504606846976) rfl (by decide), r4]
  rw [far u (k := 16777216) (m := 64) (n := 1073741824) rfl (by decide), far u (k := 16777216) (m := 4096) (n := 68719476736) rfl (by decide), far u (k := 16777216) (m := 262144) (n := 4398046511104) rfl (by decide), p5, p1, p2, p3, p4, q1, q2, q3, q4, r1, r2, r3]
  rfl
theorem three_little {a b c : Int} (ha : Oct a) (hb : Oct b) (hc : Oct c) : outE false [a, b, c] = dig24 (numOf [c, b, a]) := by
  have en : numOf [c, b, a] = ((0 * 256 + c) * 256 + b) * 256 + a := rfl
  rw [outE_3, outE_0, six_eq ha hb hc, dig24_eq, en]
  simp only [Bool.false_eq_true, if_false, List.cons_append, List.nil_append, List.append_nil, List.cons.injEq, and_true]
  refine ⟨?_, ?_, ?_, ?_⟩ <;> omega
theorem three_big {a b c : Int} (ha : Oct a) (hb : Oct b) (hc : Oct c) : outE true [a, b, c] = (dig24 (numOf [a, b, c])).reverse := by
  have en : numOf [a, b, c] = ((0 * 256 + a) * 256 + b) * 256 + c := rfl
  rw [outE_3, outE_0, six_eq ha hb hc, dig24_eq, en]
  simp only [if_true, List.cons_append, List.nil_append, List.append_nil, List.reverse_cons, List.reverse_nil, List.cons.injEq, and_true]
  refine ⟨?_, ?_, ?_, ?_⟩ <;> omega
theorem one_little {a : Int} (ha : Oct a) : outE false [a] = dig12 a := by
  rw [outE_1, tailE1, dig12_eq]
  simp only [Bool.false_eq_true, if_false, List.cons.injEq, and_true]
  refine ⟨trivial, ?_⟩
  omega
theorem one_big {a : Int} (ha : Oct a) : outE true [a] = (dig12 (a * 16)).reverse := by
  rw [outE_1, tailE1, dig12_eq]
  simp only [if_true, List.cons_append, List.nil_append, List.reverse_cons, List.reverse_nil, List.cons.injEq, and_true]
  refine ⟨?_, ?_⟩ <;> omega
theorem dig30_turn (x : Int) : digL x 5 = (digB x 30 0 5).reverse := by
  rw [digB_rev (show (30 : Int) + 0 = 6 * (5 : Nat) by decide), List.reverse_reverse, show (2 : Int) ^ (0 : Int).toNat = 1 from rfl, Int.mul_one]
theorem dig64_turn (x : Int) : digL (4 * x) 11 = (digB x 64 2 11).reverse := by
  rw [digB_rev (show (64 : Int) + 2 = 6 * (11 : Nat) by decide), List.reverse_reverse, show (2 : Int) ^ (2 : Int).toNat = 4 from rfl, Int.mul_comm]
theorem numOf_range {l : List Int} (h : Octs l) : 0 ≤ numOf l ∧ numOf l < 256 ^ l.length := by
  have key : ∀ (l : List Int) (n : Int) (k : Nat), Octs l → 0 ≤ n → n < 256 ^ k → 0 ≤ l.foldl (fun n o => n * 256 + o) n ∧ l.foldl (fun n o => n * 256 + o) n < 256 ^ (k + l.length) := by
    intro l
    induction l with
    | nil => intro n k _ h0 h1; exact ⟨h0, h1⟩
    | cons a r ih =>
      intro n k hl h0 h1
      have ha := hl.c.1
      have e : k + (a :: r).length = (k + 1) + r.length := by simp only [List.length_cons]; omega
      rw [e]
      have hp : (256 : Int) ^ (k + 1) = 256 ^ k * 256 := Int.pow_succ ..
      exact ih (n * 256 + a) (k + 1) hl.c.2 (by omega) (by rw [hp]; omega)
  have := key l 0 0 h (by decide) (by decide)
  rw [Nat.zero_add] at this
  exact this
end
section
/-! ## places -/
theorem fill_at (os tmp : List Int) (n : Nat) (inj : ∀ a b, a < n → b < n → (os.getD a 0).toNat = (os.getD b 0).toNat → a = b) (bnd : ∀ a, a < n → (os.getD a 0).toNat < n) :
    ∀ i, i ≤ n → ∀ k, k < i → (fillTo os tmp n i)[(os.getD k 0).toNat]? = some (some (tmp.getD k 0))
  | 0, _, k, h => absurd h (Nat.not_lt_zero _)
  | i + 1, hi, k, hk => by
    unfold fillTo
    have hb := bnd i (by omega)
    by_cases e : k = i
    · subst e
      rw [List.getElem?_set_self (by rw [fillTo_len]; exact hb)]
    · have ne : (os.getD i 0).toNat ≠ (os.getD k 0).toNat := fun q => e (inj _ _ (by omega) (by omega) q.symm)
      rw [List.getElem?_set_ne ne]
      exact fill_at os tmp n inj bnd i (by omega) k (by omega)
theorem fill_all {os tmp res : List Int} {n : Nat} (inj : ∀ a b, a < n → b < n → (os.getD a 0).toNat = (os.getD b 0).toNat → a = b) (bnd : ∀ a, a < n → (os.getD a 0).toNat < n)
    (hl : res.length = n) (h : ∀ j, j < n → ∃ k, k < n ∧ (os.getD k 0).toNat = j ∧ res[j]? = some (tmp.getD k 0)) : fillTo os tmp n n = res.map some := by
  apply List.ext_getElem?
  intro j
  by_cases hj : j < n
  · obtain ⟨k, hk, e, r⟩ := h j hj
    rw [← e, fill_at os tmp n inj bnd n (Nat.le_refl _) k hk, e, List.getElem?_map, r]
    rfl
  · rw [List.getElem?_eq_none (by rw [fillTo_len]; omega), List.getElem?_eq_none (by rw [List.length_map]; omega)]
theorem getD_map_range {n k : Nat} (f : Nat → Int) (h : k < n) : ((List.range n).map f).getD k 0 = f k := by
  simp [List.getD_eq_getElem?_getD, List.getElem?_map, List.getElem?_range h]
def pRev (n : Nat) : List Int := (List.range n).map fun i => ((n - 1 - i : Nat) : Int)
def pRot (n : Nat) : List Int := (List.range n).map fun i => (((i + 1) % n : Nat) : Int)
theorem pRev_len (n : Nat) : (pRev n).length = n := by simp [pRev]
theorem pRot_len (n : Nat) : (pRot n).length = n := by simp [pRot]
theorem pRev_bnd (n : Nat) : ∀ o ∈ pRev n, 0 ≤ o ∧ o < n := fun o h => by
  obtain ⟨i, hi, rfl⟩ := List.mem_map.mp h
  have := List.mem_range.mp hi
  omega
theorem pRot_bnd (n : Nat) : ∀ o ∈ pRot n, 0 ≤ o ∧ o < n := fun o h => by
  obtain ⟨i, hi, rfl⟩ := List.mem_map.mp h
  have := List.mem_range.mp hi
  have := Nat.mod_lt (i + 1) (show n > 0 by omega)
  omega
theorem at_pRev (l : List Int) : atAll l (pRev l.length) = l.reverse := by
  apply List.ext_getElem
  · simp [atAll, pRev]
  · intro i h1 h2
    have hi : i < l.length := by simpa using h2
    have e : l.length - 1 - i < l.length := by omega
    simp only [atAll, pRev, List.getElem_map, List.getElem_range, List.getElem_reverse, Int.toNat_natCast]
    simp [List.getD_eq_getElem?_getD, e]
theorem fill_pRev (l : List Int) : fillTo (pRev l.length) l l.length l.length = l.reverse.map some := by
  have g : ∀ k, k < l.length → ((pRev l.length).getD k 0).toNat = l.length - 1 - k := fun k h => by
    unfold pRev; rw [getD_map_range _ h]; rfl
  refine fill_all (fun a b ha hb e => ?_) (fun a ha => ?_) (by simp) (fun j hj => ⟨l.length - 1 - j, by omega, ?_, ?_⟩)
  · rw [g a ha, g b hb] at e; omega
  · rw [g a ha]; omega
  · rw [g _ (by omega)]; omega
  · have e : l.length - 1 - j < l.length := by omega
    rw [List.getElem?_reverse hj]
    simp [List.getD_eq_getElem?_getD, e]
theorem at_pRot (l : List Int) : atAll l (pRot l.length) = l.drop 1 ++ l.take 1 := by
  match l with
  | [] => rfl
  | a :: r =>
    apply List.ext_getElem
    · simp [atAll, pRot]
    · intro i h1 h2
      have hi : i < r.length + 1 := by simpa using h2
      simp only [atAll, pRot, List.getElem_map, List.getElem_range, Int.toNat_natCast, List.length_cons, List.drop_succ_cons, List.drop_zero, List.take_succ_cons, List.take_zero]
      by_cases e : i = r.length
      · subst e
        rw [Nat.mod_self, List.getElem_append_right (Nat.le_refl _)]
        simp
      · have hi' : i < r.length := by omega
        rw [Nat.mod_eq_of_lt (by omega), List.getElem_append_left hi']
        simp [List.getD_eq_getElem?_getD, hi']
/-- the last one put first -/
def turn1 (l : List Int) : List Int := l.drop (l.length - 1) ++ l.take (l.length - 1)
theorem fill_pRot (l : List Int) : fillTo (pRot l.length) l l.length l.length = (turn1 l).map some := by
  have g : ∀ k, k < l.length → ((pRot l.length).getD k 0).toNat = (k + 1) % l.length := fun k h => by
    unfold pRot; rw [getD_map_range _ h]; rfl
  have md : ∀ k, k < l.length → (k + 1) % l.length = if k + 1 = l.length then 0 else k + 1 := fun k h => by
    by_cases e : k + 1 = l.length
    · rw [if_pos e, e, Nat.mod_self]
    · rw [if_neg e, Nat.mod_eq_of_lt (by omega)]
  refine fill_all (fun a b ha hb e => ?_) (fun a ha => ?_) (by simp [turn1]; try omega) (fun j hj => ⟨if j = 0 then l.length - 1 else j - 1, by split <;> omega, ?_, ?_⟩)
  · rw [g a ha, g b hb, md a ha, md b hb] at e
    split at e <;> split at e <;> omega
  · rw [g a ha]; exact Nat.mod_lt _ (by omega)
  · rw [g _ (by split <;> omega), md _ (by split <;> omega)]
    split <;> split <;> omega
  · unfold turn1
    by_cases e : j = 0
    · subst e
      have e' : l.length - 1 < l.length := by omega
      rw [if_pos rfl, List.getElem?_append_left (by simp; omega), List.getElem?_drop]
      simp [List.getD_eq_getElem?_getD, e']
    · have e' : j - 1 < l.length := by omega
      rw [if_neg e, List.getElem?_append_right (by simp; omega), List.length_drop, List.getElem?_take]
      have q : j - (l.length - (l.length - 1)) = j - 1 := by omega
      rw [q, if_pos (by omega)]
      simp [List.getD_eq_getElem?_getD, e']
end
section
theorem odd_coprime : ∀ q, q < 128 → Nat.Coprime 256 (1 + q * 2) := by decide +kernel
theorem map_at (v : Int) {i : Nat} (h : i < 64) : (mapOf v)[i]? = some ((v % 256 + (1 + (v / 256) % 128 * 2) * i) % 256) := by
  unfold mapOf
  rw [List.getElem?_map, List.getElem?_range h]
  simp only [Option.map_some, Option.some.injEq]
  rw [fm _ (by decide), fm _ (by decide), fm _ (by decide), fd' _ (by decide)]
  simp
theorem map_len (v : Int) : (mapOf v).length = 64 := by simp [mapOf]
theorem map_signs (v : Int) : Signs (mapOf v) where
  len := map_len v
  byte := fun x hx => by
    obtain ⟨i, _, rfl⟩ := List.mem_map.mp hx; exact fmod256 _
  inj := fun i j b hi hj => by
    have li : i < 64 := by have := (List.getElem?_eq_some_iff.mp hi).1; rwa [map_len] at this
    have lj : j < 64 := by have := (List.getElem?_eq_some_iff.mp hj).1; rwa [map_len] at this
    rw [map_at v li] at hi
    rw [map_at v lj] at hj
    have e := (Option.some.inj hi).trans (Option.some.inj hj).symm
    obtain ⟨q, hq⟩ : ∃ q : Nat, (v / 256) % 128 = q := ⟨((v / 256) % 128).toNat, by omega⟩
    have hq' : q < 128 := by omega
    rw [hq] at e
    have key : ∀ (a d : Nat), (v % 256 + (1 + (q : Int) * 2) * (a : Int)) % 256 = (v % 256 + (1 + (q : Int) * 2) * ((a + d : Nat) : Int)) % 256 → 256 ∣ d := by
      intro a d h
      have hd : (256 : Int) ∣ (1 + (q : Int) * 2) * (d : Int) := by
        have e1 : (1 + (q : Int) * 2) * ((a + d : Nat) : Int) = (1 + (q : Int) * 2) * (a : Int) + (1 + (q : Int) * 2) * (d : Int) := by
          rw [Int.natCast_add, Int.mul_add]
        rw [e1] at h
        generalize (1 + (q : Int) * 2) * (a : Int) = x at h
        generalize (1 + (q : Int) * 2) * (d : Int) = y at h ⊢
        omega
      have hn : 256 ∣ (1 + q * 2) * d := by
        have : ((256 : Nat) : Int) ∣ (((1 + q * 2) * d : Nat) : Int) := by
          simpa using hd
        exact Int.natCast_dvd_natCast.mp this
      exact (odd_coprime q hq').dvd_of_dvd_mul_left hn
    rcases Nat.le_total i j with h | h
    · obtain ⟨d, rfl⟩ := Nat.exists_eq_add_of_le h
      have := key i d e
      have := Nat.eq_zero_of_dvd_of_lt this (by omega)
      omega
    · obtain ⟨d, rfl⟩ := Nat.exists_eq_add_of_le h
      have := key j d e.symm
      have := Nat.eq_zero_of_dvd_of_lt this (by omega)
      omega
theorem numDiv (v : Int) : v.fdiv 32768 = v / 32768 := fd' _ (by decide)
end
section
section
variable {G : Gl} {C : Addr} {sg : List Int}
theorem bits_le {v : Int} (h0 : 0 ≤ v) (h1 : v ≤ 18446744073709551615) : (Builtin.Int.intBits v : Int) + 2 ≤ 2 ^ 27 := by
  have := bits_small (x := v) (by omega)
  have e : (2 : Int) ^ 27 = 134217728 := rfl
  rw [e]; omega
theorem c30 (W : Wi G C) (hs : Signs sg) {v : Int} (h0 : 0 ≤ v) (h1 : v ≤ 1073741823) : ∀ big, FnV G false 6 246 [aEng C sg big, aInt v] (aByt (sgOf sg (if big then (digL v 5).reverse else digL v 5)))
  | false => f246 W h0 h1 (f222L (p := 0) W hs h0 (by decide) (by decide +kernel) (by decide +kernel) (by decide) (by decide +kernel))
  | true => by
    have z := f246 (R := aByt (sgOf sg (digB v 30 0 5))) W h0 h1 (f222B (p := 0) W hs h0 (by decide) (by decide +kernel) (by decide +kernel) (by decide) (by have := bits_le h0 (by omega); omega) (fun i hi => by omega) (by decide) (by decide +kernel))
    rw [if_pos rfl, dig30_turn, List.reverse_reverse]; exact z
theorem c64 (W : Wi G C) (hs : Signs sg) {v : Int} (h0 : 0 ≤ v) (h1 : v ≤ 18446744073709551615) : ∀ big, FnV G false 6 253 [aEng C sg big, aInt v] (aByt (sgOf sg (if big then digB v 64 2 11 else digL v 11)))
  | false => f253 W h0 h1 (f222L (p := 2) W hs h0 (by decide) (by decide +kernel) (by decide +kernel) (by decide) (by decide +kernel))
  | true => f253 W h0 h1 (f222B (p := 2) W hs h0 (by decide) (by decide +kernel) (by decide +kernel) (by decide) (by have := bits_le h0 (by omega); omega) (fun i hi => by omega) (by decide) (by decide +kernel))
theorem c12 (W : Wi G C) (hs : Signs sg) {v : Int} (h0 : 0 ≤ v) (h1 : v ≤ 4095) : ∀ big, FnV G false 4 234 [aEng C sg big, aInt v] (aByt (sgOf sg (if big then (dig12 v).reverse else dig12 v)))
  | false => f234L W hs h0 h1
  | true => f234B W hs h0 h1
theorem c24 (W : Wi G C) (hs : Signs sg) {v : Int} (h0 : 0 ≤ v) (h1 : v ≤ 16777215) : ∀ big, FnV G false 4 239 [aEng C sg big, aInt v] (aByt (sgOf sg (if big then (dig24 v).reverse else dig24 v)))
  | false => f239L W hs h0 h1
  | true => f239B W hs h0 h1
theorem c6 (W : Wi G C) (hs : Signs sg) {v : Int} {big : Bool} (h0 : 0 ≤ v) (h1 : v ≤ 63) : FnV G false 2 229 [aEng C sg big, aInt v] (aByt [sg.getD v.toNat 0]) := by
  have z := f229 (big := big) W hs h0 h1
  rw [cut_one h0 (by rw [hs.len]; omega)] at z; exact z
end
end
section
section
variable {G : Gl} {C : Addr} {sg : List Int}
theorem mod_rng (x : Int) {m : Int} (h : 0 < m) : 0 ≤ x.fmod m ∧ x.fmod m < m := ⟨Int.fmod_nonneg_of_pos _ h, Int.fmod_lt_of_pos _ h⟩
abbrev σN (C : Addr) (sg : List Int) (v : Int) : St := ⟨[("little", aEng C sg false), ("great", aEng C sg true), ("signs", aByt sg), ("number", aInt v), ("small", aByt [sg.getD (v.fmod 64).toNat 0])], []⟩
abbrev cN (G : Gl) (A : Around) (L : Addr) : Fx := fxOf G A false fd284 284 L
section
variable {A : Around} {L : Addr} {v : Int}
theorem nLit {p : Pos} : Ev (cN G A L) (σN C sg v) (.Name "little" p) (aEng C sg false) := Ev.loc (x := "little") (.head _) (by rfl) rfl (by decide)
theorem nGrt {p : Pos} : Ev (cN G A L) (σN C sg v) (.Name "great" p) (aEng C sg true) := Ev.loc (x := "great") (.tail _ (.head _)) (by rfl) rfl (by decide)
theorem nNum {p : Pos} : Ev (cN G A L) (σN C sg v) (.Name "number" p) (aInt v) := Ev.loc (x := "number") (.tail _ (.tail _ (.tail _ (.head _)))) (by rfl) rfl (by decide)
theorem nSml {p : Pos} : Ev (cN G A L) (σN C sg v) (.Name "small" p) (aByt [sg.getD (v.fmod 64).toNat 0]) := Ev.loc (x := "small") (.tail _ (.tail _ (.tail _ (.tail _ (.head _))))) (by rfl) rfl (by decide)
theorem nPow {k : Int} {n m : Nat} {p q r : Pos} (hk : 0 ≤ k) (h : (Builtin.Int.intBits 2 : Int) * k ≤ 2 ^ 27) : Ev (cN G A L) (σN C sg v) (.BinOp (.Constant (.int 2) n p) .Pow (.Constant (.int k) m q) r) (aInt (2 ^ k.toNat)) := Ev.bin Ev.intC Ev.intC (Op2.pow hk h)
end
set_option maxHeartbeats 2000000 in
theorem f284 (W : Ww G C) (hs : Signs sg) {v : Int} : FnV G false 8 284 [aEng C sg false, aEng C sg true, aByt sg, aInt v] (aBool true) := by
  refine FnV.mk (xs := ["little", "great", "signs", "number"]) (σ := ⟨[("little", aEng C sg false), ("great", aEng C sg true), ("signs", aByt sg), ("number", aInt v)], []⟩) W.F284 rfl rfl ?_ rfl (by decide) (by rfl) (by rfl) (fun L p hp => nomatch hp) rfl rfl rfl ?_
  · intro vs hv
    match vs, hv with
    | [a, b, c, d], _ => rfl
  · intro A L rm
    have r6 := mod_rng v (show (0 : Int) < 64 by decide)
    have lk : (v.fmod 64).toNat < sg.length := by rw [hs.len]; omega
    refine Rt.cons (Nx1.assignS (x := "small") (P := aByt [sg.getD (v.fmod 64).toNat 0]) (Ev.call (Ev.bi W.bytes (by rfl) rfl rfl rfl (by decide)) (.cons ((Ev.row (ns := [sg.getD (v.fmod 64).toNat 0]) (.cons (Ev.sub (Ev.loc (x := "signs") (.tail _ (.tail _ (.head _))) (by rfl) rfl (by decide)) (Ev.bin (Ev.loc (x := "number") (.tail _ (.tail _ (.tail _ (.head _)))) (by rfl) rfl (by decide)) Ev.intC (Op2.mod (by decide))) (Sub2.bytes (by rw [hs.len]; decide) r6.1 (by rw [hs.len]; exact r6.2) rfl)) rfl .nil) (by rw [sizeLine_eq]; show 1 ≤ _; decide)).le row_ints) rfl .nil) KeepsIt.type (CallV.bytes rm.h (fun x hx => ?_) (by simp))) (Sto.loc rfl (by rfl)) rfl) ?_
    · rw [List.mem_singleton.mp hx, List.getD_eq_getElem?_getD, List.getElem?_eq_getElem lk]
      exact hs.byte _ (List.getElem_mem lk)
    have r64 := c6 W.toWt.toWi hs (big := false) r6.1 (show v.fmod 64 ≤ 63 by omega)
    have r64' := c6 W.toWt.toWi hs (big := true) r6.1 (show v.fmod 64 ≤ 63 by omega)
    refine Rt.cons (Nx1.if_f (Tr.or_f (Tr.cmp (Ev.meth nLit (.cons (Ev.bin nNum Ev.intC (Op2.mod (by decide))) rfl .nil) W.cls W.m229.1 W.m229.2.1 W.m229.2.2 r64 (fun z => by cases z) ((Rm.deeper rm).less (by decide)) (fun _ _ _ _ _ _ _ _ _ => rfl) rfl (by decide) rfl) nSml (Op2.neB (by simp))) (Tr.cmp (Ev.meth nGrt (.cons (Ev.bin nNum Ev.intC (Op2.mod (by decide))) rfl .nil) W.cls W.m229.1 W.m229.2.1 W.m229.2.2 r64' (fun z => by cases z) ((Rm.deeper rm).less (by decide)) (fun _ _ _ _ _ _ _ _ _ => rfl) rfl (by decide) rfl) nSml (Op2.neB (by simp)))) Nx.nil) ?_
    have r30 := mod_rng v (show (0 : Int) < 2 ^ (30 : Int).toNat by decide)
    have r24 := mod_rng v (show (0 : Int) < 2 ^ (24 : Int).toNat by decide)
    have r12 := mod_rng v (show (0 : Int) < 2 ^ (12 : Int).toNat by decide)
    have p30 : (2 : Int) ^ (30 : Int).toNat = 1073741824 := rfl
    have p24 : (2 : Int) ^ (24 : Int).toNat = 16777216 := rfl
    have p12 : (2 : Int) ^ (12 : Int).toNat = 4096 := rfl
    have p62 : (2 : Int) ^ (62 : Int).toNat = 4611686018427387904 := rfl
    have rt := mod_rng (v.fdiv (2 ^ (24 : Int).toNat)) (show (0 : Int) < 64 by decide)
    have r62 := mod_rng v (show (0 : Int) < 2 ^ (62 : Int).toNat by decide)
    have k30 := fun b => c30 W.toWt.toWi hs r30.1 (show v.fmod (2 ^ (30 : Int).toNat) ≤ 1073741823 by omega) b
    have k24 := fun b => c24 W.toWt.toWi hs r24.1 (show v.fmod (2 ^ (24 : Int).toNat) ≤ 16777215 by omega) b
    have k12 := fun b => c12 W.toWt.toWi hs r12.1 (show v.fmod (2 ^ (12 : Int).toNat) ≤ 4095 by omega) b
    have kt := c6 W.toWt.toWi hs (big := false) rt.1 (show (v.fdiv (2 ^ (24 : Int).toNat)).fmod 64 ≤ 63 by omega)
    refine Rt.cons (Nx1.if_f (Tr.cmp (Ev.meth nLit (.cons (Ev.bin nNum (nPow (by decide) (by decide +kernel)) (Op2.mod (by decide))) rfl .nil) W.cls W.m246.1 W.m246.2.1 W.m246.2.2 (k30 false) (fun z => by cases z) ((Rm.deeper rm).less (by decide)) (fun _ _ _ _ _ _ _ _ _ => rfl) rfl (by decide) rfl) (Ev.bin (Ev.meth nLit (.cons (Ev.bin nNum (nPow (by decide) (by decide +kernel)) (Op2.mod (by decide))) rfl .nil) W.cls W.m239.1 W.m239.2.1 W.m239.2.2 (k24 false) (fun z => by cases z) ((Rm.deeper rm).less (by decide)) (fun _ _ _ _ _ _ _ _ _ => rfl) rfl (by decide) rfl) (Ev.meth nLit (.cons (Ev.bin (Ev.bin nNum (nPow (by decide) (by decide +kernel)) (Op2.div (by decide) (PyProof.noPylong_small (by decide)))) Ev.intC (Op2.mod (by decide))) rfl .nil) W.cls W.m229.1 W.m229.2.1 W.m229.2.2 kt (fun z => by cases z) ((Rm.deeper rm).less (by decide)) (fun _ _ _ _ _ _ _ _ _ => rfl) rfl (by decide) rfl) (Op2.addB (by simp [sgOf, dig24]))) (Op2.neB ?_)) Nx.nil) ?_
    · have e := digL5 v
      have g : Builtin.bitAnd ((v.fdiv (2 ^ 24)).fmod 64) 63 = (v.fdiv (2 ^ 24)).fmod 64 := by
        rw [bitAnd_m6]; exact Int.emod_eq_of_lt rt.1 rt.2
      rw [g] at e
      have e' : sgOf sg (digL (v.fmod (2 ^ (30 : Int).toNat)) 5) = sgOf sg (dig24 (v.fmod (2 ^ (24 : Int).toNat))) ++ [sg.getD ((v.fdiv (2 ^ (24 : Int).toNat)).fmod 64).toNat 0] := (congrArg (sgOf sg) e).trans (sgOf_app ..)
      simp only [Bool.false_eq_true, if_false]
      rw [decide_eq_true e']; rfl
    refine Rt.cons (Nx1.if_f (Tr.cmp (Ev.meth nLit (.cons (Ev.bin nNum (nPow (by decide) (by decide +kernel)) (Op2.mod (by decide))) rfl .nil) W.cls W.m234.1 W.m234.2.1 W.m234.2.2 (k12 false) (fun z => by cases z) ((Rm.deeper rm).less (by decide)) (fun _ _ _ _ _ _ _ _ _ => rfl) rfl (by decide) rfl) (Ev.sub (Ev.meth nGrt (.cons (Ev.bin nNum (nPow (by decide) (by decide +kernel)) (Op2.mod (by decide))) rfl .nil) W.cls W.m234.1 W.m234.2.1 W.m234.2.2 (k12 true) (fun z => by cases z) ((Rm.deeper rm).less (by decide)) (fun _ _ _ _ _ _ _ _ _ => rfl) rfl (by decide) rfl) (Ev.slice .none .none (.int (Ev.un Ev.intC Op1.neg))) (Sub2.brev (ops := fun o i => [o, i]) (by simp [sgOf, dig12, dig24, digL]))) (Op2.neB (by simp [sgOf_rev]))) Nx.nil) ?_
    refine Rt.cons (Nx1.if_f (Tr.cmp (Ev.meth nLit (.cons (Ev.bin nNum (nPow (by decide) (by decide +kernel)) (Op2.mod (by decide))) rfl .nil) W.cls W.m239.1 W.m239.2.1 W.m239.2.2 (k24 false) (fun z => by cases z) ((Rm.deeper rm).less (by decide)) (fun _ _ _ _ _ _ _ _ _ => rfl) rfl (by decide) rfl) (Ev.sub (Ev.meth nGrt (.cons (Ev.bin nNum (nPow (by decide) (by decide +kernel)) (Op2.mod (by decide))) rfl .nil) W.cls W.m239.1 W.m239.2.1 W.m239.2.2 (k24 true) (fun z => by cases z) ((Rm.deeper rm).less (by decide)) (fun _ _ _ _ _ _ _ _ _ => rfl) rfl (by decide) rfl) (Ev.slice .none .none (.int (Ev.un Ev.intC Op1.neg))) (Sub2.brev (ops := fun o i => [o, i]) (by simp [sgOf, dig12, dig24, digL]))) (Op2.neB (by simp [sgOf_rev]))) Nx.nil) ?_
    refine Rt.cons (Nx1.if_f (Tr.cmp (Ev.meth nLit (.cons (Ev.bin nNum (nPow (by decide) (by decide +kernel)) (Op2.mod (by decide))) rfl .nil) W.cls W.m246.1 W.m246.2.1 W.m246.2.2 (k30 false) (fun z => by cases z) ((Rm.deeper rm).less (by decide)) (fun _ _ _ _ _ _ _ _ _ => rfl) rfl (by decide) rfl) (Ev.sub (Ev.meth nGrt (.cons (Ev.bin nNum (nPow (by decide) (by decide +kernel)) (Op2.mod (by decide))) rfl .nil) W.cls W.m246.1 W.m246.2.1 W.m246.2.2 (k30 true) (fun z => by cases z) ((Rm.deeper rm).less (by decide)) (fun _ _ _ _ _ _ _ _ _ => rfl) rfl (by decide) rfl) (Ev.slice .none .none (.int (Ev.un Ev.intC Op1.neg))) (Sub2.brev (ops := fun o i => [o, i]) (by simp [sgOf, dig12, dig24, digL]))) (Op2.neB (by simp [sgOf_rev]))) Nx.nil) ?_
    refine Rt.cons (Nx1.assignS (x := "number") (P := aInt (v.fmod (2 ^ (62 : Int).toNat))) (Ev.bin nNum (nPow (by decide) (by decide +kernel)) (Op2.mod (by decide))) (Sto.loc rfl (by rfl)) rfl) ?_
    have q0 : (0 : Int) ≤ 4 * v.fmod (2 ^ (62 : Int).toNat) := by omega
    have kl := c64 W.toWt.toWi hs q0 (show 4 * v.fmod (2 ^ (62 : Int).toNat) ≤ 18446744073709551615 by omega) false
    have kg := c64 W.toWt.toWi hs r62.1 (show v.fmod (2 ^ (62 : Int).toNat) ≤ 18446744073709551615 by omega) true
    refine Rt.here (Rt1.ret (Ev.cmp (Ev.meth (Ev.loc (x := "little") (.head _) (by rfl) rfl (by decide)) (.cons (Ev.bin Ev.intC (Ev.loc (x := "number") (.tail _ (.tail _ (.tail _ (.head _)))) (by rfl) rfl (by decide)) (Op2.mul (.of_right (bits_small (by omega))))) rfl .nil) W.cls W.m253.1 W.m253.2.1 W.m253.2.2 kl (fun z => by cases z) ((Rm.deeper rm).less (by decide)) (fun _ _ _ _ _ _ _ _ _ => rfl) rfl (by decide) rfl) (Ev.sub (Ev.meth (Ev.loc (x := "great") (.tail _ (.head _)) (by rfl) rfl (by decide)) (.cons (Ev.loc (x := "number") (.tail _ (.tail _ (.tail _ (.head _)))) (by rfl) rfl (by decide)) rfl .nil) W.cls W.m253.1 W.m253.2.1 W.m253.2.2 kg (fun z => by cases z) ((Rm.deeper rm).less (by decide)) (fun _ _ _ _ _ _ _ _ _ => rfl) rfl (by decide) rfl) (Ev.slice .none .none (.int (Ev.un Ev.intC Op1.neg))) (Sub2.brev (ops := fun o i => [o, i]) (by simp [sgOf, digB]))) (Op2.eqB ?_)))
    simp only [Bool.false_eq_true, if_false, if_true]
    rw [dig64_turn, sgOf_rev]
    simp
end
end
section
section
variable {G : Gl} {C : Addr} {sg : List Int} {big : Bool}
/-- the signs of octets -/
def sE (sg : List Int) (big : Bool) (l : List Int) : List Int := sgOf sg (outE big l)
theorem eB (W : Ww G C) (hs : Signs sg) {l : List Int} (hl : Octs l) (hz : l.length ≤ 100) : FnV G true 13 91 [aEng C sg big, aByt l] (aByt (sE sg big l)) :=
  f91 W.toWt.toWi.toWd hs (by omega) hl (outE_range big l hl) (by have := outE_len big l; omega)
theorem dB (W : Ww G C) (hs : Signs sg) {l : List Int} (hl : Octs l) (hz : l.length ≤ 100) : FnV G true 13 112 [aEng C sg big, aByt (sE sg big l)] (aByt l) := by
  have e := dec_enc big l hl
  have z := f112 (big := big) W.toWt.toWi.toWd hs (ds := outE big l) (by have := outE_len big l; omega) (outE_range big l hl) (outE_mod big l) (by rw [e]; exact hl) (by rw [e]; omega)
  rw [e] at z; exact z
theorem tRevE (W : Ww G C) (hs : Signs sg) {l : List Int} (hl : Octs l) (hz : l.length ≤ 100) : FnV G true 15 168 [aEng C sg big, aByt l, aInts (pRev l.length)] (aByt (sE sg big l.reverse)) :=
  f168 W.toWt hl (by omega) (by rw [pRev_len]; omega) (pRev_bnd _) (by rw [at_pRev]; exact eB W hs (fun x m => hl x (List.mem_reverse.mp m)) (by simpa using hz))
theorem octs_rot {l : List Int} (hl : Octs l) : Octs (l.drop 1 ++ l.take 1) := fun x m => by
  rcases List.mem_append.mp m with h | h
  · exact hl x (List.mem_of_mem_drop h)
  · exact hl x (List.mem_of_mem_take h)
theorem octs_turn {l : List Int} (hl : Octs l) : Octs (turn1 l) := fun x m => by
  rcases List.mem_append.mp m with h | h
  · exact hl x (List.mem_of_mem_drop h)
  · exact hl x (List.mem_of_mem_take h)
theorem tRotE (W : Ww G C) (hs : Signs sg) {l : List Int} (hl : Octs l) (hz : l.length ≤ 100) : FnV G true 15 168 [aEng C sg big, aByt l, aInts (pRot l.length)] (aByt (sE sg big (l.drop 1 ++ l.take 1))) :=
  f168 W.toWt hl (by omega) (by rw [pRot_len]; omega) (pRot_bnd _) (by rw [at_pRot]; exact eB W hs (octs_rot hl) (by simp; omega))
theorem tRevD (W : Ww G C) (hs : Signs sg) {l : List Int} (hl : Octs l) (hz : l.length ≤ 100) : FnV G true 16 175 [aEng C sg big, aByt (sE sg big l), aInts (pRev l.length)] (aByt l.reverse) :=
  f175 W.toWt (tmp := l) (pRev_len _) (by rw [pRev_len]; omega) (by rw [pRev_len]; exact pRev_bnd _) (by rw [pRev_len]; exact fill_pRev l) (fun x m => hl x (List.mem_reverse.mp m)) (dB W hs hl hz)
theorem tRotD (W : Ww G C) (hs : Signs sg) {l : List Int} (hl : Octs l) (hz : l.length ≤ 100) : FnV G true 16 175 [aEng C sg big, aByt (sE sg big l), aInts (pRot l.length)] (aByt (turn1 l)) :=
  f175 W.toWt (tmp := l) (pRot_len _) (by rw [pRot_len]; omega) (by rw [pRot_len]; exact pRot_bnd _) (by rw [pRot_len]; exact fill_pRot l) (octs_turn hl) (dB W hs hl hz)
end
end
section
section
variable {G : Gl} {C : Addr} {sg so mo ei : List Int} {big : Bool}
abbrev cR (G : Gl) (A : Around) (L : Addr) : Fx := fxOf G A true fd277 277 L
abbrev σR0 (C : Addr) (sg so mo ei : List Int) (big : Bool) : St := ⟨[("engine", aEng C sg big), ("big", aBool big), ("some", aByt so), ("more", aByt mo), ("eight", aByt ei)], []⟩
abbrev σR (C : Addr) (sg so mo ei : List Int) (big : Bool) : St := ⟨[("engine", aEng C sg big), ("big", aBool big), ("some", aByt so), ("more", aByt mo), ("eight", aByt ei), ("both", aByt (sE sg big so ++ sE sg big mo))], []⟩
section
variable {A : Around} {L : Addr}
theorem rEng {p : Pos} : Ev (cR G A L) (σR C sg so mo ei big) (.Name "engine" p) (aEng C sg big) := Ev.loc (x := "engine") (.head _) (by rfl) rfl (by decide)
theorem rBig {p : Pos} : Ev (cR G A L) (σR C sg so mo ei big) (.Name "big" p) (aBool big) := Ev.loc (x := "big") (.tail _ (.head _)) (by rfl) rfl (by decide)
theorem rSome {p : Pos} : Ev (cR G A L) (σR C sg so mo ei big) (.Name "some" p) (aByt so) := Ev.loc (x := "some") (.tail _ (.tail _ (.head _))) (by rfl) rfl (by decide)
theorem rMore {p : Pos} : Ev (cR G A L) (σR C sg so mo ei big) (.Name "more" p) (aByt mo) := Ev.loc (x := "more") (.tail _ (.tail _ (.tail _ (.head _)))) (by rfl) rfl (by decide)
theorem rEight {p : Pos} : Ev (cR G A L) (σR C sg so mo ei big) (.Name "eight" p) (aByt ei) := Ev.loc (x := "eight") (.tail _ (.tail _ (.tail _ (.tail _ (.head _))))) (by rfl) rfl (by decide)
theorem rBoth {p : Pos} : Ev (cR G A L) (σR C sg so mo ei big) (.Name "both" p) (aByt (sE sg big so ++ sE sg big mo)) := Ev.loc (x := "both") (.tail _ (.tail _ (.tail _ (.tail _ (.tail _ (.head _)))))) (by rfl) rfl (by decide)
end
theorem sE_len (l : List Int) : (sE sg big l).length ≤ 2 * l.length := by unfold sE sgOf; rw [List.length_map]; exact outE_len big l
theorem sE_app {l m : List Int} (h : l.length % 3 = 0) : sE sg big (l ++ m) = sE sg big l ++ sE sg big m := by unfold sE; rw [outE_app big l m h, sgOf_app]
theorem octs_app {l m : List Int} (a : Octs l) (b : Octs m) : Octs (l ++ m) := fun x h => (List.mem_append.mp h).elim (a x) (b x)
variable {A : Around} {L : Addr}
set_option maxHeartbeats 1000000 in
theorem r0 (W : Ww G C) (hs : Signs sg) (hso : Octs so) (hmo : Octs mo) (zs : so.length ≤ 40) (zm : mo.length ≤ 40) (rm : Rm A 17) :
    Nx1 (cR G A L) (σR0 C sg so mo ei big) (nth (bd (nth topBody 9)) 0) (σR C sg so mo ei big) :=
  Nx1.assignS (x := "both") (P := aByt (sE sg big so ++ sE sg big mo)) (Ev.bin (Ev.meth (Ev.loc (x := "engine") (.head _) (by rfl) rfl (by decide)) (.cons (Ev.loc (x := "some") (.tail _ (.tail _ (.head _))) (by rfl) rfl (by decide)) rfl .nil) W.cls W.m91.1 W.m91.2.1 W.m91.2.2 (eB W hs hso (by omega)) (fun _ => rfl) ((Rm.deeper rm).less (by decide)) (fun _ _ _ _ _ _ _ _ _ => rfl) rfl (by decide) rfl) (Ev.meth (Ev.loc (x := "engine") (.head _) (by rfl) rfl (by decide)) (.cons (Ev.loc (x := "more") (.tail _ (.tail _ (.tail _ (.head _)))) (by rfl) rfl (by decide)) rfl .nil) W.cls W.m91.1 W.m91.2.1 W.m91.2.2 (eB W hs hmo (by omega)) (fun _ => rfl) ((Rm.deeper rm).less (by decide)) (fun _ _ _ _ _ _ _ _ _ => rfl) rfl (by decide) rfl) (Op2.addB (by have := sE_len (sg := sg) (big := big) so; have := sE_len (sg := sg) (big := big) mo; omega))) (Sto.loc rfl (by rfl)) rfl
set_option maxHeartbeats 1000000 in
theorem r1 (W : Ww G C) (hs : Signs sg) (hso : Octs so) (hmo : Octs mo) (zs : so.length ≤ 40) (zm : mo.length ≤ 40) (h3 : so.length % 3 = 0) (rm : Rm A 17) :
    Nx1 (cR G A L) (σR C sg so mo ei big) (nth (bd (nth topBody 9)) 1) (σR C sg so mo ei big) := by
  have d := dB (big := big) W hs (octs_app hso hmo) (by simp; omega)
  rw [sE_app h3] at d
  exact Nx1.if_f (Tr.or_f (Tr.cmp (Ev.meth rEng (.cons (Ev.bin rSome rMore (Op2.addB (by omega))) rfl .nil) W.cls W.m91.1 W.m91.2.1 W.m91.2.2 (eB W hs (octs_app hso hmo) (by simp; omega)) (fun _ => rfl) ((Rm.deeper rm).less (by decide)) (fun _ _ _ _ _ _ _ _ _ => rfl) rfl (by decide) rfl) rBoth (Op2.neB (by simp [sE_app h3]))) (Tr.cmp (Ev.meth rEng (.cons rBoth rfl .nil) W.cls W.m112.1 W.m112.2.1 W.m112.2.2 d (fun _ => rfl) ((Rm.deeper rm).less (by decide)) (fun _ _ _ _ _ _ _ _ _ => rfl) rfl (by decide) rfl) (Ev.bin rSome rMore (Op2.addB (by omega))) (Op2.neB (by simp)))) Nx.nil
end
end
section
section
variable {G : Gl} {C : Addr} {sg so mo : List Int} {big : Bool}
variable {A : Around} {L : Addr} {a b c d e f g h : Int}
abbrev nOf (big : Bool) (l : List Int) : Int := numOf (if big then l else l.reverse)
theorem nOf_le {l : List Int} {m k : Int} (r : 0 ≤ nOf big l ∧ nOf big l < 256 ^ l.length) (p : (256 : Int) ^ l.length = m) (h : m - 1 ≤ k) : nOf big l ≤ k := by have := r.2; rw [p] at this; omega
theorem nOf_rng {l : List Int} (hl : Octs l) : 0 ≤ nOf big l ∧ nOf big l < 256 ^ l.length := by
  unfold nOf
  cases big
  · have := numOf_range (l := l.reverse) (fun x m => hl x (List.mem_reverse.mp m)); simpa using this
  · simpa using numOf_range hl
set_option maxHeartbeats 1000000 in
theorem r2 (W : Ww G C) (hs : Signs sg) (he : Octs [a, b, c, d, e, f, g, h]) (rm : Rm A 17) :
    Nx1 (cR G A L) (σR C sg so mo [a, b, c, d, e, f, g, h] big) (nth (bd (nth topBody 9)) 2) (σR C sg so mo [a, b, c, d, e, f, g, h] big) := by
  have r := nOf_rng (big := big) he
  have le : nOf big [a, b, c, d, e, f, g, h] ≤ 18446744073709551615 := nOf_le r (by decide : (256 : Int) ^ 8 = 18446744073709551616) (by decide)
  have eq : sE sg big [a, b, c, d, e, f, g, h] = sgOf sg (if big then digB (nOf big [a, b, c, d, e, f, g, h]) 64 2 11 else digL (nOf big [a, b, c, d, e, f, g, h]) 11) := by
    have q : ∀ x ∈ [a, b, c, d, e, f, g, h], Oct x := he
    simp only [List.mem_cons, List.not_mem_nil, or_false, forall_eq_or_imp, forall_eq] at q
    obtain ⟨h1, h2, h3, h4, h5, h6, h7, h8⟩ := q
    unfold sE
    cases big
    · rw [eight_little h1 h2 h3 h4 h5 h6 h7 h8]; simp only [nOf, Bool.false_eq_true, if_false, List.reverse_cons, List.reverse_nil, List.nil_append, List.cons_append]
    · rw [eight_big h1 h2 h3 h4 h5 h6 h7 h8]; simp only [nOf, if_true]
  exact Nx1.if_f (Tr.cmp (Ev.meth rEng (.cons rEight rfl .nil) W.cls W.m91.1 W.m91.2.1 W.m91.2.2 (eB W hs he (by simp)) (fun _ => rfl) ((Rm.deeper rm).less (by decide)) (fun _ _ _ _ _ _ _ _ _ => rfl) rfl (by decide) rfl) (Ev.meth rEng (.cons (Ev.call (Ev.glob W.g272 (by rfl) rfl rfl (by decide)) (.cons rEight rfl (.cons rBig rfl .nil)) (KeepsIt.fn W.F272) (CallV.fn (f272 W (by simp)) (fun z => by cases z) ((Rm.deeper rm).less (by decide)))) rfl .nil) W.cls W.m253.1 W.m253.2.1 W.m253.2.2 (c64 W.toWt.toWi hs r.1 le big) (fun z => by cases z) ((Rm.deeper rm).less (by decide)) (fun _ _ _ _ _ _ _ _ _ => rfl) rfl (by decide) rfl) (Op2.neB (by rw [decide_eq_true eq]; rfl))) Nx.nil
set_option maxHeartbeats 1000000 in
theorem r3 (W : Ww G C) (hs : Signs sg) (he : Octs [a, b, c, d, e, f, g, h]) (rm : Rm A 17) :
    Nx1 (cR G A L) (σR C sg so mo [a, b, c, d, e, f, g, h] big) (nth (bd (nth topBody 9)) 3) (σR C sg so mo [a, b, c, d, e, f, g, h] big) := by
  have q : ∀ x ∈ [a, b, c, d, e, f, g, h], Oct x := he
  simp only [List.mem_cons, List.not_mem_nil, or_false, forall_eq_or_imp, forall_eq] at q
  obtain ⟨h1, h2, h3, h4, h5, h6, h7, h8⟩ := q
  have hc : cut none (some 3) [a, b, c, d, e, f, g, h] = [a, b, c] := rfl
  have ho : Octs [a, b, c] := fun x m => by
    simp only [List.mem_cons, List.not_mem_nil, or_false] at m
    rcases m with rfl | rfl | rfl <;> assumption
  have r := nOf_rng (big := big) ho
  have le : nOf big [a, b, c] ≤ 16777215 := nOf_le r (by decide : (256 : Int) ^ 3 = 16777216) (by decide)
  have eq : sE sg big [a, b, c] = sgOf sg (if big then (dig24 (nOf big [a, b, c])).reverse else dig24 (nOf big [a, b, c])) := by
    unfold sE
    cases big
    · rw [three_little h1 h2 h3]; simp only [nOf, Bool.false_eq_true, if_false, List.reverse_cons, List.reverse_nil, List.nil_append, List.cons_append]
    · rw [three_big h1 h2 h3]; simp only [nOf, if_true]
  have sl : ∀ {p q : Pos} {k : Nat} {p1 p2 : Pos}, Ev (cR G A L) (σR C sg so mo [a, b, c, d, e, f, g, h] big) (.Subscript (.Name "eight" p) (.Slice none (some (.Constant (.int 3) k q)) none p1) p2) (aByt [a, b, c]) := fun {p q k p1 p2} => by
    have z := Ev.sub (pos := p2) (rEight (G := G) (A := A) (L := L) (C := C) (sg := sg) (so := so) (mo := mo) (big := big) (ei := [a, b, c, d, e, f, g, h]) (p := p)) (Ev.slice (p := p1) (st := none) .none (.int (Ev.intC (i := 3) (k := k) (pos := q))) .none) (Sub2.bslice (by simp))
    rw [hc] at z; exact z
  exact Nx1.if_f (Tr.cmp (Ev.meth rEng (.cons sl rfl .nil) W.cls W.m91.1 W.m91.2.1 W.m91.2.2 (eB W hs ho (by simp)) (fun _ => rfl) ((Rm.deeper rm).less (by decide)) (fun _ _ _ _ _ _ _ _ _ => rfl) rfl (by decide) rfl) (Ev.meth rEng (.cons (Ev.call (Ev.glob W.g272 (by rfl) rfl rfl (by decide)) (.cons sl rfl (.cons rBig rfl .nil)) (KeepsIt.fn W.F272) (CallV.fn (f272 W (by simp)) (fun z => by cases z) ((Rm.deeper rm).less (by decide)))) rfl .nil) W.cls W.m239.1 W.m239.2.1 W.m239.2.2 (c24 W.toWt.toWi hs r.1 le big) (fun z => by cases z) ((Rm.deeper rm).less (by decide)) (fun _ _ _ _ _ _ _ _ _ => rfl) rfl (by decide) rfl) (Op2.neB (by rw [decide_eq_true eq]; rfl))) Nx.nil
end
end
section
section
variable {G : Gl} {C : Addr} {sg so mo : List Int} {big : Bool}
variable {A : Around} {L : Addr} {a b c d e f g h : Int}
set_option maxHeartbeats 1000000 in
theorem r4 (W : Ww G C) (hs : Signs sg) (he : Octs [a, b, c, d, e, f, g, h]) (rm : Rm A 17) :
    Nx1 (cR G A L) (σR C sg so mo [a, b, c, d, e, f, g, h] big) (nth (bd (nth topBody 9)) 4) (σR C sg so mo [a, b, c, d, e, f, g, h] big) := by
  have hd : Oct d := he d (.tail _ (.tail _ (.tail _ (.head _))))
  have hc : cut (some 3) (some 4) [a, b, c, d, e, f, g, h] = [d] := rfl
  have ho : Octs [d] := fun x m => by rw [List.mem_singleton.mp m]; exact hd
  have sl : ∀ {p q q' : Pos} {k k' : Nat} {p1 p2 : Pos}, Ev (cR G A L) (σR C sg so mo [a, b, c, d, e, f, g, h] big) (.Subscript (.Name "eight" p) (.Slice (some (.Constant (.int 3) k' q')) (some (.Constant (.int 4) k q)) none p1) p2) (aByt [d]) := fun {p q q' k k' p1 p2} => by
    have z := Ev.sub (pos := p2) (rEight (G := G) (A := A) (L := L) (C := C) (sg := sg) (so := so) (mo := mo) (big := big) (ei := [a, b, c, d, e, f, g, h]) (p := p)) (Ev.slice (p := p1) (st := none) (.int (Ev.intC (i := 3) (k := k') (pos := q'))) (.int (Ev.intC (i := 4) (k := k) (pos := q))) .none) (Sub2.bslice (by simp))
    rw [hc] at z; exact z
  have at3 : ∀ {p q : Pos} {k : Nat} {p2 : Pos}, Ev (cR G A L) (σR C sg so mo [a, b, c, d, e, f, g, h] big) (.Subscript (.Name "eight" p) (.Constant (.int 3) k q) p2) (aInt d) := fun {p q k p2} =>
    Ev.sub (rEight (G := G) (A := A) (L := L) (C := C) (sg := sg) (so := so) (mo := mo) (big := big) (ei := [a, b, c, d, e, f, g, h]) (p := p)) Ev.intC (Sub2.bytes (by simp) (by decide) (by simp) rfl)
  cases big
  · have eq : sE sg false [d] = sgOf sg (dig12 (d * 1)) := by rw [Int.mul_one]; unfold sE; rw [one_little hd]
    exact Nx1.if_f (Tr.cmp (Ev.meth rEng (.cons sl rfl .nil) W.cls W.m91.1 W.m91.2.1 W.m91.2.2 (eB W hs ho (by simp)) (fun _ => rfl) ((Rm.deeper rm).less (by decide)) (fun _ _ _ _ _ _ _ _ _ => rfl) rfl (by decide) rfl) (Ev.meth rEng (.cons (Ev.bin at3 (Ev.ife_f (Tr.val rBig TrV.bool (by rfl)) Ev.intC) (Op2.mul (.of_right (by decide)))) rfl .nil) W.cls W.m234.1 W.m234.2.1 W.m234.2.2 (c12 W.toWt.toWi hs (by have := hd.1; omega) (by have := hd.2; omega) false) (fun z => by cases z) ((Rm.deeper rm).less (by decide)) (fun _ _ _ _ _ _ _ _ _ => rfl) rfl (by decide) rfl) (Op2.neB (by first | rw [if_pos rfl, decide_eq_true eq]; rfl | rw [if_neg Bool.false_ne_true, decide_eq_true eq]; rfl))) Nx.nil
  · have eq : sE sg true [d] = sgOf sg (dig12 (d * 16)).reverse := by unfold sE; rw [one_big hd]
    exact Nx1.if_f (Tr.cmp (Ev.meth rEng (.cons sl rfl .nil) W.cls W.m91.1 W.m91.2.1 W.m91.2.2 (eB W hs ho (by simp)) (fun _ => rfl) ((Rm.deeper rm).less (by decide)) (fun _ _ _ _ _ _ _ _ _ => rfl) rfl (by decide) rfl) (Ev.meth rEng (.cons (Ev.bin at3 (Ev.ife_t (Tr.val rBig TrV.bool (by rfl)) Ev.intC) (Op2.mul (.of_right (by decide)))) rfl .nil) W.cls W.m234.1 W.m234.2.1 W.m234.2.2 (c12 W.toWt.toWi hs (by have := hd.1; omega) (by have := hd.2; omega) true) (fun z => by cases z) ((Rm.deeper rm).less (by decide)) (fun _ _ _ _ _ _ _ _ _ => rfl) rfl (by decide) rfl) (Op2.neB (by first | rw [if_pos rfl, decide_eq_true eq]; rfl | rw [if_neg Bool.false_ne_true, decide_eq_true eq]; rfl))) Nx.nil
end
end
section
def forB (s : Stmt) : List Stmt := match s with | .For _ _ b .. => b | _ => []
abbrev lpB : List Stmt := forB (nth (bd (nth topBody 9)) 5)
theorem clip_in {n : Nat} {i : Int} (h0 : 0 ≤ i) : clipAt n i = min i.toNat n := by
  have := clipAt_cast n i
  rw [if_neg (by omega)] at this
  omega
theorem clip_neg {n : Nat} {i : Int} (h0 : i < 0) : (clipAt n i : Int) = max 0 (i + n) := by
  have := clipAt_cast n i
  rw [if_pos h0] at this
  omega
theorem cut_1n (l : List Int) : cut (some 1) none l = l.drop 1 := by
  unfold cut
  cases l with
  | nil => rfl
  | cons a r =>
    show List.take (_ - clipAt (r.length + 1) 1) (List.drop (clipAt (r.length + 1) 1) _) = _
    rw [clip_in (by decide), show min (Int.toNat 1) (r.length + 1) = 1 by simp]
    simp
theorem cut_n1 (l : List Int) : cut none (some 1) l = l.take 1 := by
  unfold cut
  cases l with
  | nil => rfl
  | cons a r =>
    show List.take (clipAt (r.length + 1) 1 - 0) (List.drop 0 _) = _
    rw [clip_in (by decide), show min (Int.toNat 1) (r.length + 1) = 1 by simp]
    simp
theorem cut_m1n (l : List Int) : cut (some (-1)) none l = l.drop (l.length - 1) := by
  unfold cut
  cases l with
  | nil => rfl
  | cons a r =>
    show List.take (_ - clipAt (r.length + 1) (-1)) (List.drop (clipAt (r.length + 1) (-1)) _) = _
    have : clipAt (r.length + 1) (-1) = r.length := by have := clip_neg (n := r.length + 1) (i := -1) (by decide); omega
    rw [this, List.take_of_length_le]
    · simp
    · simp
theorem cut_nm1 (l : List Int) : cut none (some (-1)) l = l.take (l.length - 1) := by
  unfold cut
  cases l with
  | nil => rfl
  | cons a r =>
    show List.take (clipAt (r.length + 1) (-1) - 0) (List.drop 0 _) = _
    have : clipAt (r.length + 1) (-1) = r.length := by have := clip_neg (n := r.length + 1) (i := -1) (by decide); omega
    rw [this]
    simp
theorem range_rev (n : Nat) : ((List.range n).map fun (i : Nat) => (0 : Int) + i * 1).reverse = pRev n := by
  unfold pRev
  apply List.ext_getElem
  · simp
  · intro i h1 h2
    simp at h1 h2
    simp
theorem range_rot (n : Nat) : ((List.range n).map fun (i : Nat) => ((0 : Int) + i * 1 + 1).fmod n) = pRot n := by
  unfold pRot
  apply List.map_congr_left
  intro i h
  rw [Int.fmod_eq_emod_of_nonneg _ (by omega), Int.zero_add, Int.mul_one]
  rfl
section
variable {G : Gl} {C : Addr} {sg so mo ei l : List Int} {big : Bool}
abbrev σL (C : Addr) (sg so mo ei l : List Int) (big : Bool) : St := ⟨(σR C sg so mo ei big).loc, [("octets", aByt l)]⟩
abbrev σP (C : Addr) (sg so mo ei l ps : List Int) (big : Bool) : St := ⟨[("engine", aEng C sg big), ("big", aBool big), ("some", aByt so), ("more", aByt mo), ("eight", aByt ei), ("both", aByt (sE sg big so ++ sE sg big mo)), ("places", aInts ps)], [("octets", aByt l)]⟩
variable {A : Around} {L : Addr} {ps : List Int}
theorem lEng {p : Pos} : Ev (cR G A L) (σP C sg so mo ei l ps big) (.Name "engine" p) (aEng C sg big) := Ev.loc (x := "engine") (.head _) (by rfl) rfl (by decide)
theorem lPl {p : Pos} : Ev (cR G A L) (σP C sg so mo ei l ps big) (.Name "places" p) (aInts ps) := Ev.loc (x := "places") (.tail _ (.tail _ (.tail _ (.tail _ (.tail _ (.tail _ (.head _))))))) (by rfl) rfl (by decide)
theorem lOct {p : Pos} : Ev (cR G A L) (σP C sg so mo ei l ps big) (.Name "octets" p) (aByt l) := Ev.cell (x := "octets") (.head _) (by rfl) rfl (by decide)
theorem rs1 {n : Nat} (h : n ≤ 1000) : Builtin.Range.rangeSize 0 (n : Int) 1 = (n : Int) := by
  rw [rangeSize_one]
  split
  · omega
  · omega
theorem rsm {n : Nat} (h : n ≤ 1000) : Builtin.Range.small 0 (n : Int) 1 = true := small_one (by decide) (by decide) (by omega) (by omega)
set_option maxHeartbeats 1000000 in
theorem l0 (W : Ww G C) (hl : l.length ≤ 40) (rm : Rm A 17) : Nx1 (cR G A L) (σL C sg so mo ei l big) (nth lpB 0) (σP C sg so mo ei l (pRev l.length) big) := by
  rw [← range_rev]
  exact Nx1.assignS (x := "places") (Ev.sub (Ev.call (Ev.bi W.list (by rfl) rfl rfl rfl (by decide)) (.cons (Ev.call (Ev.bi W.range (by rfl) rfl rfl rfl (by decide)) (.cons (Ev.call (Ev.bi W.len (by rfl) rfl rfl rfl (by decide)) (.cons (Ev.cell (x := "octets") (.head _) (by rfl) rfl (by decide)) rfl .nil) KeepsIt.builtin (CallV.lenB (by omega))) rfl .nil) KeepsIt.type CallV.range1) rfl .nil) KeepsIt.type (CallV.listRange rm.h (rsm (by omega)) (rs1 (by omega)) (by omega))) (Ev.slice .none .none (.int (Ev.un Ev.intC Op1.neg))) (Sub2.lrev (ops := fun o i => [o, i]) (by simp; omega))) (Sto.loc rfl (by rfl)) rfl
set_option maxHeartbeats 1000000 in
theorem l1 (W : Ww G C) (hs : Signs sg) (ho : Octs l) (hl : l.length ≤ 40) (rm : Rm A 17) : Nx1 (cR G A L) (σP C sg so mo ei l (pRev l.length) big) (nth lpB 1) (σP C sg so mo ei l (pRev l.length) big) :=
  Nx1.if_f (Tr.cmp (Ev.meth lEng (.cons lOct rfl (.cons lPl rfl .nil)) W.cls W.m168.1 W.m168.2.1 W.m168.2.2 (tRevE W hs ho (by omega)) (fun _ => rfl) ((Rm.deeper rm).less (by decide)) (fun _ _ _ _ _ _ _ _ _ => rfl) rfl (by decide) rfl) (Ev.meth lEng (.cons (Ev.sub lOct (Ev.slice .none .none (.int (Ev.un Ev.intC Op1.neg))) (Sub2.brev (ops := fun o i => [o, i]) (by omega))) rfl .nil) W.cls W.m91.1 W.m91.2.1 W.m91.2.2 (eB W hs (fun x m => ho x (List.mem_reverse.mp m)) (by simp; omega)) (fun _ => rfl) ((Rm.deeper rm).less (by decide)) (fun _ _ _ _ _ _ _ _ _ => rfl) rfl (by decide) rfl) (Op2.neB (by rw [decide_eq_true rfl]; rfl))) Nx.nil
set_option maxHeartbeats 1000000 in
theorem l2 (W : Ww G C) (hs : Signs sg) (ho : Octs l) (hl : l.length ≤ 40) (rm : Rm A 17) : Nx1 (cR G A L) (σP C sg so mo ei l (pRev l.length) big) (nth lpB 2) (σP C sg so mo ei l (pRev l.length) big) :=
  Nx1.if_f (Tr.cmp (Ev.meth lEng (.cons (Ev.meth lEng (.cons lOct rfl .nil) W.cls W.m91.1 W.m91.2.1 W.m91.2.2 (eB W hs ho (by omega)) (fun _ => rfl) ((Rm.deeper rm).less (by decide)) (fun _ _ _ _ _ _ _ _ _ => rfl) rfl (by decide) rfl) rfl (.cons lPl rfl .nil)) W.cls W.m175.1 W.m175.2.1 W.m175.2.2 (tRevD W hs ho (by omega)) (fun _ => rfl) ((Rm.deeper rm).less (by decide)) (fun _ _ _ _ _ _ _ _ _ => rfl) rfl (by decide) rfl) (Ev.sub lOct (Ev.slice .none .none (.int (Ev.un Ev.intC Op1.neg))) (Sub2.brev (ops := fun o i => [o, i]) (by omega))) (Op2.neB (by rw [decide_eq_true rfl]; rfl))) Nx.nil
set_option maxHeartbeats 1000000 in
theorem l3 (W : Ww G C) (hl : l.length ≤ 40) (rm : Rm A 17) : Nx1 (cR G A L) (σP C sg so mo ei l ps big) (nth lpB 3) (σP C sg so mo ei l (pRot l.length) big) := by
  rw [← range_rot]
  refine Nx1.listcomp (y := "places") (n := l.length) (Pi := fun i => aInt (0 + (i : Int) * 1)) (r := fun i => ((0 : Int) + i * 1 + 1).fmod l.length) (cl := [("octets", L + 1)]) (cs := [("octets", aByt l)]) rfl (Sto.loc rfl (by rfl)) (Ev.call (Ev.bi W.range (by rfl) rfl rfl rfl (by decide)) (.cons (Ev.call (Ev.bi W.len (by rfl) rfl rfl rfl (by decide)) (.cons lOct rfl .nil) KeepsIt.builtin (CallV.lenB (by omega))) rfl .nil) KeepsIt.type CallV.range1) (iter_range rm.h (rsm (by omega)) (rs1 (by omega))) (by rw [sizeLine_eq]; omega) rfl (by decide +kernel) rfl (by decide +kernel) (by rfl) (lookup_one rfl) (fun p hp => by rw [List.mem_singleton.mp hp]; exact ⟨.head _, by rfl⟩) (fun i C' hi => ?_) (fun _ => rfl)
  exact Ev.bin (Ev.bin (Ev.loc (x := "k") (.head _) (by rfl) rfl (by decide)) Ev.intC Op2.add) (Ev.call (Ev.bi W.len (by rfl) rfl rfl rfl (by decide)) (.cons (Ev.cell (x := "octets") (.head _) (by rfl) rfl (by decide)) rfl .nil) KeepsIt.builtin (CallV.lenB (by omega))) (Op2.mod (by omega))
set_option maxHeartbeats 1000000 in
theorem l4 (W : Ww G C) (hs : Signs sg) (ho : Octs l) (hl : l.length ≤ 40) (rm : Rm A 17) : Nx1 (cR G A L) (σP C sg so mo ei l (pRot l.length) big) (nth lpB 4) (σP C sg so mo ei l (pRot l.length) big) := by
  have s1 : ∀ {p q : Pos} {k : Nat} {p1 p2 : Pos}, Ev (cR G A L) (σP C sg so mo ei l (pRot l.length) big) (.Subscript (.Name "octets" p) (.Slice (some (.Constant (.int 1) k q)) none none p1) p2) (aByt (l.drop 1)) := fun {p q k p1 p2} => by
    rw [← cut_1n]; exact Ev.sub lOct (Ev.slice (.int Ev.intC) .none .none) (Sub2.bslice (by omega))
  have s2 : ∀ {p q : Pos} {k : Nat} {p1 p2 : Pos}, Ev (cR G A L) (σP C sg so mo ei l (pRot l.length) big) (.Subscript (.Name "octets" p) (.Slice none (some (.Constant (.int 1) k q)) none p1) p2) (aByt (l.take 1)) := fun {p q k p1 p2} => by
    rw [← cut_n1]; exact Ev.sub lOct (Ev.slice .none (.int Ev.intC) .none) (Sub2.bslice (by omega))
  exact Nx1.if_f (Tr.cmp (Ev.meth lEng (.cons lOct rfl (.cons lPl rfl .nil)) W.cls W.m168.1 W.m168.2.1 W.m168.2.2 (tRotE W hs ho (by omega)) (fun _ => rfl) ((Rm.deeper rm).less (by decide)) (fun _ _ _ _ _ _ _ _ _ => rfl) rfl (by decide) rfl) (Ev.meth lEng (.cons (Ev.bin s1 s2 (Op2.addB (by simp; omega))) rfl .nil) W.cls W.m91.1 W.m91.2.1 W.m91.2.2 (eB W hs (octs_rot ho) (by simp; omega)) (fun _ => rfl) ((Rm.deeper rm).less (by decide)) (fun _ _ _ _ _ _ _ _ _ => rfl) rfl (by decide) rfl) (Op2.neB (by rw [decide_eq_true rfl]; rfl))) Nx.nil
set_option maxHeartbeats 1000000 in
theorem l5 (W : Ww G C) (hs : Signs sg) (ho : Octs l) (hl : l.length ≤ 40) (rm : Rm A 17) : Nx1 (cR G A L) (σP C sg so mo ei l (pRot l.length) big) (nth lpB 5) (σP C sg so mo ei l (pRot l.length) big) := by
  have s1 : ∀ {p q q' : Pos} {k : Nat} {p1 p2 : Pos}, Ev (cR G A L) (σP C sg so mo ei l (pRot l.length) big) (.Subscript (.Name "octets" p) (.Slice (some (.UnaryOp .USub (.Constant (.int 1) k q) q')) none none p1) p2) (aByt (l.drop (l.length - 1))) := fun {p q q' k p1 p2} => by
    rw [← cut_m1n]; exact Ev.sub lOct (Ev.slice (.int (Ev.un Ev.intC Op1.neg)) .none .none) (Sub2.bslice (by omega))
  have s2 : ∀ {p q q' : Pos} {k : Nat} {p1 p2 : Pos}, Ev (cR G A L) (σP C sg so mo ei l (pRot l.length) big) (.Subscript (.Name "octets" p) (.Slice none (some (.UnaryOp .USub (.Constant (.int 1) k q) q')) none p1) p2) (aByt (l.take (l.length - 1))) := fun {p q q' k p1 p2} => by
    rw [← cut_nm1]; exact Ev.sub lOct (Ev.slice .none (.int (Ev.un Ev.intC Op1.neg)) .none) (Sub2.bslice (by omega))
  exact Nx1.if_f (Tr.cmp (Ev.meth lEng (.cons (Ev.meth lEng (.cons lOct rfl .nil) W.cls W.m91.1 W.m91.2.1 W.m91.2.2 (eB W hs ho (by omega)) (fun _ => rfl) ((Rm.deeper rm).less (by decide)) (fun _ _ _ _ _ _ _ _ _ => rfl) rfl (by decide) rfl) rfl (.cons lPl rfl .nil)) W.cls W.m175.1 W.m175.2.1 W.m175.2.2 (tRotD W hs ho (by omega)) (fun _ => rfl) ((Rm.deeper rm).less (by decide)) (fun _ _ _ _ _ _ _ _ _ => rfl) rfl (by decide) rfl) (Ev.bin s1 s2 (Op2.addB (by simp; omega))) (Op2.neB (by show (!decide (turn1 l = turn1 l)) = false; rw [decide_eq_true rfl]; rfl))) Nx.nil
end
end
section
section
variable {G : Gl} {C : Addr} {sg so mo ei l : List Int} {big : Bool}
variable {A : Around} {L : Addr}
set_option maxHeartbeats 1000000 in
theorem lAll (W : Ww G C) (hs : Signs sg) (ho : Octs l) (hl : l.length ≤ 40) (rm : Rm A 17) : Nx (cR G A L) (σL C sg so mo ei l big) lpB (σR C sg so mo ei big) :=
  Nx.weaken (Nx.cons (l0 W hl rm) (Nx.cons (l1 W hs ho hl rm) (Nx.cons (l2 W hs ho hl rm) (Nx.cons (l3 W hl rm) (Nx.cons (l4 W hs ho hl rm) (Nx.cons (l5 W hs ho hl rm) Nx.nil)))))) (fun p hp => by
    match p, hp with
    | _, .head _ => exact .head _
    | _, .tail _ (.head _) => exact .tail _ (.head _)
    | _, .tail _ (.tail _ (.head _)) => exact .tail _ (.tail _ (.head _))
    | _, .tail _ (.tail _ (.tail _ (.head _))) => exact .tail _ (.tail _ (.tail _ (.head _)))
    | _, .tail _ (.tail _ (.tail _ (.tail _ (.head _)))) => exact .tail _ (.tail _ (.tail _ (.tail _ (.head _))))
    | _, .tail _ (.tail _ (.tail _ (.tail _ (.tail _ (.head _))))) => exact .tail _ (.tail _ (.tail _ (.tail _ (.tail _ (.head _)))))) fun p hp => nomatch hp
set_option maxHeartbeats 1000000 in
theorem r5 (W : Ww G C) (hs : Signs sg) (hso : Octs so) (hmo : Octs mo) (zs : so.length ≤ 40) (zm : mo.length ≤ 40) (rm : Rm A 17) :
    Nx1 (cR G A L) (σR C sg so mo ei big) (nth (bd (nth topBody 9)) 5) (σR C sg so mo ei big) :=
  Nx1.for (c := cR G A L) (n := 2) (x := "octets") (PI := aList [aByt so, aByt mo]) (Pi := fun i => [aByt so, aByt mo].getD i aNone) (σ := fun _ => σR C sg so mo ei big) (τ := fun i => σL C sg so mo ei (if i = 0 then so else mo) big) (body := lpB)
    (Ev.list (.cons rSome rfl (.cons rMore rfl .nil)) (by rw [sizeLine_eq]; show 2 ≤ _; decide)) (iter_list rm.h) (fun i hi => match i, hi with
      | 0, _ => Sto.cel rfl (by rfl) (.head _)
      | 1, _ => Sto.cel rfl (by rfl) (.head _)) (fun i hi => match i, hi with
      | 0, _ => lAll W hs hso zs rm
      | 1, _ => lAll W hs hmo zm rm) (fun _ => rfl)
set_option maxHeartbeats 1000000 in
theorem f277 (W : Ww G C) (hs : Signs sg) (hso : Octs so) (hmo : Octs mo) (hei : Octs ei) (h8 : ei.length = 8) (zs : so.length ≤ 40) (zm : mo.length ≤ 40) (h3 : so.length % 3 = 0) : FnV G true 18 277 [aEng C sg big, aBool big, aByt so, aByt mo, aByt ei] (aBool true) := by
  refine FnV.mk (xs := ["engine", "big", "some", "more", "eight"]) (σ := σR0 C sg so mo ei big) W.F277 rfl rfl ?_ rfl (by decide) (by rfl) (by rfl) (fun L p hp => nomatch hp) rfl rfl rfl ?_
  · intro vs hv
    match vs, hv with
    | [a, b, c, d, e], _ => rfl
  · intro A L rm
    match ei, h8 with
    | [a, b, c, d, e, f, g, h], _ =>
      exact Rt.cons (r0 W hs hso hmo zs zm rm) (Rt.cons (r1 W hs hso hmo zs zm h3 rm) (Rt.cons (r2 W hs hei rm) (Rt.cons (r3 W hs hei rm) (Rt.cons (r4 W hs hei rm) (Rt.cons (r5 W hs hso hmo zs zm rm) (Rt.here (Rt1.ret Ev.boolC)))))))
end
end
section
theorem sub_bytes_set : isSubtype (.type "bytes") (.type "set") = pure false := by rw [isSubtype_type]; kernel_rfl
theorem sub_bytes_frozenset : isSubtype (.type "bytes") (.type "frozenset") = pure false := by rw [isSubtype_type]; kernel_rfl
abbrev SetIs (ks : List Int) (n : Nat) (k : Int) : Bool := (firstMet (fun i => ks.getD i 0) n).any (· == k)
/-- what set(bytes) holds -/
def SetAt (prog : Program) (w : World) (ks : List Int) (h : Heap) (a : Addr) : Prop := h.SetOf (intKind prog w) a (SetIs ks ks.length) (firstMet (fun i => ks.getD i 0) ks.length).length
section
variable {G : Gl} {A : Around} {ks : List Int} {s : Shared} {E : Value → Shared → Prop}
theorem bytes_at {b : Array UInt8} (eb : KBw.bInts b = ks) (i : Nat) (v : Value) (h : ∃ c u, b[i]? = some c ∧ v = .int (c.toNat : Int) u) : ∃ t, v = .int (ks.getD i 0) t := by
  obtain ⟨c, u, hc, rfl⟩ := h
  have := KBw.ints_get hc
  rw [eb] at this
  exact ⟨u, by rw [List.getD_eq_getElem?_getD, this]; rfl⟩
set_option maxHeartbeats 3200000 in
theorem set_bytes {b : Array UInt8} {t : Tok} {Q : Value → Shared → Prop} (hh : A.handled = none) (hb : ks.length + 1 < scanBound) (eb : KBw.bInts b = ks) (ok : G.Ok s)
    (q : ∀ s', Step G false [] s s' → SetAt G.prog G.w ks s'.heap s.heap.objs.size → Q (.ref s.heap.objs.size) s') : wpAny (model G.prog G.w) A (call (.type "set") [.bytes b t]) Q E s := by
  obtain ⟨c, tl, hmro⟩ := PySem.F.called_set.mro
  have hmade := PySem.F.called_set.made
  have hsub := PySem.F.called_set.sub
  refine wpAny_call (codeAny_of_tree ?_)
  show wpAny _ _ (callAny (.type "set") _) _ _ _
  refine wpAny_pure ⟨Code.quiet_builtin _ (by decide +kernel), codeAny_builtin F.entry_type_call ?_⟩
  rw [Around.under_plain (weight_type_call_type "set" [.bytes b t] []) rfl]
  have h1 := PySem.F.called_set.notType
  have h2 := PySem.F.called_set.canCreate
  have hct := PySem.F.typeCall_set_1 (.bytes b t)
  repeat (any_goals (first | assumption | wp_step))
  let Post : Value → Shared → Prop := fun r s₂ => r = .none ∧ ∃ h' tk, s₂ = { s with heap := h', toks := tk } ∧ SetAt G.prog G.w ks h' s.heap.objs.size ∧ (∀ b o, s.heap.get? b = some o → h'.get? b = some o)
  refine codeAny_mono (code_set_new_1 (.bytes b t) (E := E) (Q₁ := fun obj s₁ => ∃ led : Bool, obj = .ref s.heap.objs.size ∧ s₁ = { s with heap := s.heap.push { cls := .type "set", dict := none, data := .set #[] 0 (.fresh 0 0 led) } }) fun led => ⟨led, rfl, rfl⟩) fun r s₁ hr => ?_
  cases r with
  | error e => exact hr
  | ok fl =>
    cases fl with
    | ret obj =>
      obtain ⟨led, rfl, rfl⟩ := hr
      generalize hH : s.heap.push { cls := .type "set", dict := none, data := .set #[] 0 (.fresh 0 0 led) } = H
      have hS : H.get? s.heap.objs.size = some { cls := .type "set", dict := none, data := .set #[] 0 (.fresh 0 0 led) } := hH ▸ Heap.get?_push_size _ rfl
      have hkH : ∀ b o, s.heap.get? b = some o → H.get? b = some o := fun b o e => hH ▸ Heap.get?_push_of_some _ e
      have hzH : H.objs.size = s.heap.objs.size + 1 := by rw [← hH, Heap.size_push]
      have hT : Shared.TypeIs { s with heap := H } (.ref s.heap.objs.size) "set" := ⟨_, hS, rfl⟩
      have hli := PySem.F.called_set.init.lookup
      have hbi := PySem.F.called_set.init.bind (.ref s.heap.objs.size)
      repeat (any_goals (first | assumption | wp_step))
      refine codeAny_mono (codeAny_call_builtin (R := wants Post E) PySem.F.called_set.init.plain PySem.F.entry_set_init (check_set_init_1 hT ?_)) fun r₂ s₂ hr₂ => ?_
      · have hsls := sub_bytes_set
        have hslf := sub_bytes_frozenset
        have hne : (Value.type "bytes" == Value.type "dict") = false := by decide
        have hTb := typeIs_bytes { s with heap := H } b t
        unfold Builtin.«set.__init__» noKeywords Builtin.Frozenset.updateFrom
        generalize hPI : pyIter = PI
        wp_walk
        subst hPI
        refine KBw.pyIter_bytes ?_
        refine wpAny_bind (wpAny_runValue ?_)
        have hSf : s.heap.objs.size ∉ [H.objs.size] := by
          rw [hzH]; simp
        have hbs : b.size = ks.length := by rw [← eb, KBw.ints_length]
        refine codeAny_set_update_loopS (KBw.walks (by simp [hh]) _ b t).toS s.heap.objs.size
          hSf (fun i => ks.getD i 0) (fun i v h => bytes_at eb i v h) (by rw [hbs]; exact hb) (b.size - 0) 0 _ (by omega) (Nat.zero_le _)
          ⟨_, Heap.get?_push_size _ rfl, rfl, rfl⟩ ?hS0 ?hR
        case hS0 =>
          exact SetOf_congr ((setObjOf_fresh (knd := intKind G.prog G.w) led).setOf (Heap.get?_push_of_some _ hS) (by unfold scanBound; omega)) (fun _ => rfl) rfl
        case hR =>
          intro s' hm hS'
          obtain ⟨h', g', d', tk', os'⟩ := s'
          have eg : g' = s.gens := hm.gens
          have ed : d' = s.drawn := hm.drawn
          have eo : os' = s.os := hm.os
          subst eg; subst ed; subst eo
          show wpAny _ _ _ _ _ _
          refine wpAny_pure ?_
          show wpAny _ _ (ret Value.none) _ _ _
          rw [hbs] at hS'
          refine wpAny_pure ⟨rfl, h', tk', rfl, hS', fun b o e => ?_⟩
          have hb0 := Heap.lt_size e
          have hb1 : b ≠ s.heap.objs.size := Nat.ne_of_lt hb0
          have hb2 : b ≠ H.objs.size := by rw [hzH]; exact Nat.ne_of_lt (Nat.lt_succ_of_lt hb0)
          exact hm.heap b o (by simp only [List.mem_cons, List.mem_singleton, List.not_mem_nil, or_false, not_or]; exact ⟨hb1, hb2⟩) (Heap.get?_push_of_some _ (hkH _ _ e))
      · cases r₂ with
        | error e => exact hr₂
        | ok fl₂ =>
          cases fl₂ with
          | ret r =>
            obtain ⟨rfl, h', tk, rfl, hS', hk'⟩ := hr₂
            repeat (any_goals (first | assumption | wp_step))
            exact q _ (Step.heap hk') hS'
          | _ => exact hr₂.elim
    | _ => exact hr.elim
theorem len_set {a : Addr} {Q : Value → Shared → Prop} (hs : SetAt G.prog G.w ks s.heap a) (q : ∀ t k, Q (.int (firstMet (fun i => ks.getD i 0) ks.length).length t) { s with toks := k }) : wpAny (model G.prog G.w) A (call (.builtin "len") [.ref a]) Q E s := by
  obtain ⟨o, es, ep, t, ho, hex, hd, hel, hmem, hb, hf, hn⟩ := hs
  rw [← hn] at q
  exact call_len_set ho hex hd hf (by unfold scanBound at hb; omega) (q _ _)
end
/-- all different: none is met twice -/
theorem firstMet_nodup : ∀ (ks : List Int), ks.Nodup → (firstMet (fun i => ks.getD i 0) ks.length).length = ks.length := by
  intro ks nd
  have key : ∀ i, i ≤ ks.length → firstMet (fun i => ks.getD i 0) i = ks.take i := by
    intro i
    induction i with
    | zero => intro _; rfl
    | succ i ih =>
      intro h
      have hi : i < ks.length := by omega
      rw [firstMet_succ, ih (by omega)]
      unfold step_dedup
      have e : ks.getD i 0 = ks[i] := by simp [hi]
      rw [if_neg, List.take_succ, e, List.getElem?_eq_getElem hi]
      · rfl
      · rw [List.any_eq_true]
        rintro ⟨x, hx, hxe⟩
        have hxe : x = ks[i] := by rw [e] at hxe; exact beq_iff_eq.mp hxe
        obtain ⟨j, hj, ej⟩ := List.getElem_of_mem hx
        rw [List.getElem_take] at ej
        simp at hj
        have := (List.getElem_inj (h₀ := by omega) (h₁ := hi) nd).mp (ej.trans hxe)
        omega
  rw [key _ (Nat.le_refl _), List.take_length]
theorem Signs.nodup {sg : List Int} (h : Signs sg) : sg.Nodup := by
  rw [List.nodup_iff_pairwise_ne, List.pairwise_iff_getElem]
  intro i j hi hj hij e
  exact Nat.ne_of_lt hij (h.inj i j sg[i] (List.getElem?_eq_getElem hi) (by rw [e]; exact List.getElem?_eq_getElem hj))
end
section
set_option maxHeartbeats 1000000 in
theorem meets_enumerate_newB (b : Array UInt8) (t : Tok) :
    Meets (Builtin.«enumerate.__new__» ⟨[.type "enumerate", .bytes b t], []⟩) (fun _ R s =>
      R (.ok (.ret (.ref (s.heap.push { cls := .type "bytes_iterator", data := .fields #[.bytes b t, .int 0 0] }).objs.size)))
        { s with heap := (s.heap.push { cls := .type "bytes_iterator", data := .fields #[.bytes b t, .int 0 0] }).push { cls := .type "enumerate", data := .fields #[.none, .bool false, .ref s.heap.objs.size, rawInt 0, .none, .none] } }) :=
  .of_wp fun prog w A R s h => by
    obtain ⟨hp, g, d, tk, os⟩ := s
    have hsub := sub_enumerate
    wp_walk
    refine wpAny_stack_any fun st => wpAny_pure ?_
    split
    · rename_i c _ _ _ _ _
      cases (c == Value.type "enumerate")
      · wp_walk using KBw.pyIter_bytes
        exact ⟨_, rfl, h⟩
      · wp_walk using KBw.pyIter_bytes
        exact ⟨_, rfl, h⟩
    · wp_walk using KBw.pyIter_bytes
      exact ⟨_, rfl, h⟩
theorem call_enum_bytes {prog : Program} {w : World} {A : Around} {E : Value → Shared → Prop} {s : Shared} {b : Array UInt8} {t : Tok} {Q : Value → Shared → Prop}
    (h : ∀ h', IsEnum h' (s.heap.objs.size + 1) s.heap.objs.size 0 .none → KBw.IsBytesIter h' s.heap.objs.size b t 0 → h'.objs.size = s.heap.objs.size + 2 →
      (∀ b o, s.heap.get? b = some o → h'.get? b = some o) → Q (.ref (s.heap.objs.size + 1)) { s with heap := h' }) :
    wpAny (model prog w) A (call (.type "enumerate") [.bytes b t]) Q E s := by
  refine callType_new F.called_enumerate (by decide) (F.typeCall_enumerate_1 _) (F.newCall_enumerate_1 _) (fun obj => F.args_object_init_2 obj _) F.entry_enumerate_new
    (meets_enumerate_newB b t) ?_
  have hz : (s.heap.push { cls := .type "bytes_iterator", data := .fields #[.bytes b t, .int 0 0] }).objs.size = s.heap.objs.size + 1 := Heap.size_push ..
  show _ ∧ _
  rw [hz]
  have he : IsEnum ((s.heap.push { cls := .type "bytes_iterator", data := .fields #[.bytes b t, .int 0 0] }).push
      { cls := .type "enumerate", data := .fields #[.none, .bool false, .ref s.heap.objs.size, rawInt 0, .none, .none] }) (s.heap.objs.size + 1) s.heap.objs.size 0 .none := by
    have := Heap.get?_push_size (s.heap.push { cls := .type "bytes_iterator", data := .fields #[.bytes b t, .int 0 0] })
      (o := { cls := .type "enumerate", data := .fields #[.none, .bool false, .ref s.heap.objs.size, rawInt 0, .none, .none] }) rfl
    rw [hz] at this; exact this
  refine ⟨⟨_, he, rfl⟩, h _ he ⟨_, Heap.get?_push_of_some _ (Heap.get?_push_size _ rfl), rfl, rfl⟩ (by rw [Heap.size_push, hz]) fun b o x => Heap.get?_push_of_some _ (Heap.get?_push_of_some _ x)⟩
end
section
/-- no code object stands there -/
def NoCode (as : List Addr) (h : Heap) : Prop := ∀ a ∈ as, ∃ o, h.get? a = some o ∧ (o.cls = .type "code" → ∀ vs, o.data ≠ .fields vs)
/-- what each yield of the generator of pairs tells -/
def pairY (C : Addr) (fp wr : List Addr) (ks : List Int) : Protocol := fun m s₀ v s kap =>
  (∃ T t u, v = .ref T ∧ s.heap.IsTuple T #[.int (ks.getD (ks.length - 1 - m) 0) t, .int ((ks.length - 1 - m : Nat) : Int) u]) ∧ GenSince C wr s₀ s ∧ NoCode (C :: wr) s.heap ∧
    ∀ s'' : Shared, (∀ b ∈ C :: fp, ∀ o, s.heap.get? b = some o → s''.heap.get? b = some o) → kap (.send .none) s''
section
variable {prog : Program} {w : World} {A : Around}
theorem seg_pairs {iter : Expr} {pa pb pt p1 p2 pe : Pos} {kt ke : Nat} {scope : Scope} {pos : Pos} {I : Addr} {fp wr : List Addr} {ks : List Int} {Pt : Nat → Array Value → Prop} {St₀ : Nat → Heap → Prop} {Mid : Nat → Addr → Heap → Prop} {cenv : Env}
    (hh : A.handled = none) (W₀ : ∀ A' : Around, A'.handled = none → WalksU prog w A' I fp wr ks.length Pt St₀ Mid) (hPt : ∀ i vals, Pt i vals → ∃ t u, vals = #[.int (i : Int) t, .int (ks.getD i 0) u]) (hnc : ∀ i h, St₀ i h → NoCode wr h)
    (hxa : cenv.kindOf "idx" = some .local) (hxb : cenv.kindOf "value" = some .local) (hk0 : cenv.scope.kind = .function)
    (hco : cenv.scope.isCoroutine = false) (hCf : cenv.locals ∉ fp) :
    ∀ (k i : Nat) (s₀ s : Shared) (m : Str → Option Value), ks.length - i = k → i ≤ ks.length → St₀ i s.heap → s.heap.Ns cenv.locals m → GenSince cenv.locals wr s₀ s →
      Seg (model prog w) A (fun n s₀ r s₁ => r = .ok .next ∧ (n = 0 ∧ GenSince cenv.locals wr s₀ s₁)) (pairY cenv.locals fp wr ks) (ks.length - i) s₀
        (.compLoop (.GeneratorExp (.Tuple [.Name "value" p1, .Name "idx" p2] ke pe) [⟨.Tuple [.Name "idx" pa, .Name "value" pb] kt pt, iter, [], 0⟩] scope pos) 0 (.ref I) .none cenv)
        ((model prog w).den (.compLoop (.GeneratorExp (.Tuple [.Name "value" p1, .Name "idx" p2] ke pe) [⟨.Tuple [.Name "idx" pa, .Name "value" pb] kt pt, iter, [], 0⟩] scope pos) 0 (.ref I) .none cenv)) [] s := by
  generalize hge : Expr.GeneratorExp (.Tuple [.Name "value" p1, .Name "idx" p2] ke pe) [⟨.Tuple [.Name "idx" pa, .Name "value" pb] kt pt, iter, [], 0⟩] scope pos = ge
  have hp : (cenv.scope.kind == .class || (cenv.scope.kind == .module && cenv.locals != cenv.globals)) = false := by rw [hk0]; rfl
  have hh' : (A.over (.compLoop ge 0 (.ref I) .none cenv) []).handled = none := hh
  have hCw : cenv.locals ∉ wr := fun h => hCf ((W₀ A hh).sub _ h)
  intro k
  induction k with
  | zero =>
    intro i s₀ s m hk hi hst hn hsince
    have hin : i = ks.length := by omega
    subst hin
    subst hge
    show Seg _ A _ _ _ s₀ _ ((compTurn (.GeneratorExp (.Tuple [.Name "value" p1, .Name "idx" p2] ke pe) [⟨.Tuple [.Name "idx" pa, .Name "value" pb] kt pt, iter, [], 0⟩] scope pos) 0 (.ref I) .none cenv).onRaise (leaving cenv)) [] s
    rw [compTurn_gen, Sem.onRaise_eq_wrap]
    refine seg_bind_wrap (wpAny_standAt ?_)
    refine seg_bind_wrap ((W₀ _ hh').done s _ _ hst fun h' tk hk' => ?_)
    exact seg_end (.ok .next) ⟨rfl, by omega, hsince.step fun b o _ hw e => hk' b o hw e⟩
  | succ k ih =>
    intro i s₀ s m hk hi hst hn hsince
    have hlt : i < ks.length := by omega
    subst hge
    show Seg _ A _ _ _ s₀ _ ((compTurn (.GeneratorExp (.Tuple [.Name "value" p1, .Name "idx" p2] ke pe) [⟨.Tuple [.Name "idx" pa, .Name "value" pb] kt pt, iter, [], 0⟩] scope pos) 0 (.ref I) .none cenv).onRaise (leaving cenv)) [] s
    rw [compTurn_gen, Sem.onRaise_eq_wrap]
    refine seg_bind_wrap (wpAny_standAt ?_)
    refine seg_bind_wrap ((W₀ _ hh').item i s _ _ hlt hst fun T vals h₁ tk₁ hPv hT₁ hmid hk₁ => ?_)
    obtain ⟨ta, ub, rfl⟩ := hPt i vals hPv
    refine seg_bind_wrap ((W₀ _ hh').go _ _ _ i T _ _ _ hmid fun h₁' hst₁ hk₁' => ?_)
    have hT₁' : h₁'.IsTuple T #[.int (i : Int) ta, .int (ks.getD i 0) ub] := let ⟨o, e, r⟩ := hT₁; ⟨o, hk₁' _ o ((W₀ _ hh').apart i T _ hmid) e, r⟩
    refine seg_bind_wrap (wpAny_assign_Tuple hh' hT₁' rfl rfl fun h₁'' hx₁ => ?_)
    replace hx₁ : Heap.ExtBut h₁'.objs.size h₁' h₁'' := hx₁
    have old₁ : ∀ b o, h₁'.get? b = some o → h₁''.get? b = some o := fun b o e => hx₁ b o (Nat.ne_of_lt (Heap.lt_size e)) e
    show wpAny _ _ (do holding [Value.int (ks.getD i 0) ub] (assign (.Name "idx" pa) cenv (.int (i : Int) ta)); do holding [] (assign (.Name "value" pb) cenv (.int (ks.getD i 0) ub)); pure ()) _ _ _
    refine wpAny_bind (wpAny_holding (wpAny_assign_Name (wpAny_storeName_local hxa (hn.at' fun o e => old₁ _ o (hk₁' _ o hCw (hk₁ _ o hCw e))) (fun h₂a hn₂a hs₂a => ?_) hp)))
    replace hs₂a : Heap.SameBut cenv.locals h₁'' h₂a := hs₂a
    refine wpAny_bind (wpAny_holding (wpAny_assign_Name (wpAny_storeName_local hxb hn₂a (fun h₂ hn₂ hs₂ => wpAny_pure ?_) hp)))
    replace hs₂ : Heap.SameBut cenv.locals h₂a h₂ := hs₂
    have up₂ : ∀ b o, b ≠ cenv.locals → b ∉ wr → s.heap.get? b = some o → h₂.get? b = some o := fun b o hbC hbw e => hs₂.extBut b o hbC (hs₂a.extBut b o hbC (old₁ b o (hk₁' b o hbw (hk₁ b o hbw e))))
    have hst₂ : St₀ (i + 1) h₂ := (W₀ A hh).frame _ _ _ hst₁ fun b hb o e => hs₂.extBut b o (fun h => hCf (h ▸ hb)) (hs₂a.extBut b o (fun h => hCf (h ▸ hb)) (old₁ b o e))
    refine seg_bind_wrap (wpAny_pure ?_)
    simp only [if_true]
    have hy : ∀ v, yieldOut cenv v = yieldValue v := fun v => by simp only [yieldOut, hco, Bool.false_eq_true, if_false]
    simp only [hy]
    have hln : ks.length - i = (ks.length - (i + 1)) + 1 := by omega
    rw [hln, Sem.bind_eq_wrap', Sem.bind_eq_wrap', Sem.wrap_wrap, Sem.wrap_wrap]
    refine seg_wrap (wpAny_Tuple ?_)
    have hse : starEach [Expr.Name "value" p1, Expr.Name "idx" p2] cenv = [(false, eval (.Name "value" p1) cenv), (false, eval (.Name "idx" p2) cenv)] := rfl
    rw [hse]
    refine spliced_cons (wpAny_Name (wpAny_loadName_local hk0 hxb hn₂ (v := .int (ks.getD i 0) ub) (by simp) ?_) (by decide))
    refine spliced_cons (wpAny_Name (wpAny_loadName_local hk0 hxa hn₂ (v := .int (i : Int) ta) (by rw [if_neg (by decide), if_pos rfl]) ?_) (by decide))
    refine spliced_nil ⟨by rw [sizeLine_eq]; show 2 ≤ _; decide, ?_⟩
    have hT2 : (h₂.push { cls := .type "tuple", data := .seq [Value.int (ks.getD i 0) ub, .int (i : Int) ta].toArray }).IsTuple h₂.objs.size #[.int (ks.getD i 0) ub, .int (i : Int) ta] := ⟨_, Heap.get?_push_size _ rfl, rfl, _, rfl⟩
    have hst₄ := (W₀ A hh).frame _ _ _ hst₂ fun b _ o e => Heap.get?_push_of_some { cls := .type "tuple", data := .seq [Value.int (ks.getD i 0) ub, .int (i : Int) ta].toArray } e
    have hn₄ := hn₂.push { cls := .type "tuple", data := .seq [Value.int (ks.getD i 0) ub, .int (i : Int) ta].toArray }
    have e1 : ks.length - 1 - (ks.length - (i + 1)) = i := by omega
    refine seg_at (seg_yield rfl rfl rfl ⟨⟨h₂.objs.size, ub, ta, rfl, by rw [e1]; exact hT2⟩, hsince.step fun b o hbC hbw e => Heap.get?_push_of_some _ (up₂ b o hbC hbw e), fun a ha => ?_, fun s'' hal => ?_⟩)
    · rcases List.mem_cons.mp ha with ha | ha
      · obtain ⟨o, es, ep, e, d, c, _⟩ := id hn₄
        exact ⟨o, ha ▸ e, fun _ vs z => by rw [d] at z; cases z⟩
      · exact hnc _ _ hst₄ a ha
    · exact seg_again rfl (ih (i + 1) s'' s'' _ (by omega) hlt ((W₀ A hh).frame _ _ _ hst₄ fun b hb o e => hal b (List.mem_cons_of_mem _ hb) o e)
        (hn₄.at' fun o e => hal _ (List.mem_cons_self ..) o e) (GenSince.refl _ _ _))
end
end
section
/-- the generator of pairs, j of them given -/
structure PairSt (prog : Program) (w : World) (A : Around) (a : Addr) (g : Nat) (C : Addr) (fp wr : List Addr) (ks : List Int) (j : Nat) (s : Shared) : Prop where
  gen : s.heap.IsGen a g
  lim : s.heap.NoLimit
  nc : NoCode (C :: wr) s.heap
  goes : ∃ gs, s.gens[g]? = some gs ∧ ∀ s'' : Shared, (∀ b ∈ C :: fp, ∀ o, s.heap.get? b = some o → s''.heap.get? b = some o) →
    gs.Goes (model prog w) A.in1 (fun n s₀ r s₁ => r = .ok .next ∧ (n = 0 ∧ GenSince C wr s₀ s₁)) (pairY C fp wr ks) (ks.length - j) (.send .none) s''
section
variable {prog : Program} {w : World} {A : Around}
theorem pairs_fresh {iter : Expr} {pa pb pt p1 p2 pe : Pos} {kt ke : Nat} {scope : Scope} {pos : Pos} {I a : Addr} {g : Nat} {fp wr : List Addr} {ks : List Int} {Pt : Nat → Array Value → Prop} {St₀ : Nat → Heap → Prop} {Mid : Nat → Addr → Heap → Prop} {cenv : Env}
    (hh : A.handled = none) (W₀ : ∀ A' : Around, A'.handled = none → WalksU prog w A' I fp wr ks.length Pt St₀ Mid) (hPt : ∀ i vals, Pt i vals → ∃ t u, vals = #[.int (i : Int) t, .int (ks.getD i 0) u]) (hnc : ∀ i h, St₀ i h → NoCode wr h)
    (hxa : cenv.kindOf "idx" = some .local) (hxb : cenv.kindOf "value" = some .local) (hk0 : cenv.scope.kind = .function)
    (hco : cenv.scope.isCoroutine = false) (hCf : cenv.locals ∉ fp) {s : Shared} {m : Str → Option Value}
    (hg : s.heap.IsGen a g) (hgs : s.gens[g]? = some (.fresh (.compStart (.GeneratorExp (.Tuple [.Name "value" p1, .Name "idx" p2] ke pe) [⟨.Tuple [.Name "idx" pa, .Name "value" pb] kt pt, iter, [], 0⟩] scope pos) 0 (.ref I) .none cenv)))
    (hst : St₀ 0 s.heap) (hn : s.heap.Ns cenv.locals m) (hl : s.heap.NoLimit) : PairSt prog w A a g cenv.locals fp wr ks 0 s := by
  refine ⟨hg, hl, fun b hb => ?_, _, hgs, fun s'' hal => ⟨rfl, ?_⟩⟩
  · rcases List.mem_cons.mp hb with hb | hb
    · obtain ⟨o, es, ep, e, d, _⟩ := hn
      exact ⟨o, hb ▸ e, fun _ vs z => by rw [d] at z; cases z⟩
    · exact hnc _ _ hst b hb
  · have hh' : (A.in1.over (.compStart (.GeneratorExp (.Tuple [.Name "value" p1, .Name "idx" p2] ke pe) [⟨.Tuple [.Name "idx" pa, .Name "value" pb] kt pt, iter, [], 0⟩] scope pos) 0 (.ref I) .none cenv) []).handled = none := hh
    have hst' := (W₀ A hh).frame _ _ s''.heap hst fun b hb o e => hal b (List.mem_cons_of_mem _ hb) o e
    have hn' : s''.heap.Ns cenv.locals m := hn.at' fun o e => hal _ (List.mem_cons_self ..) o e
    have loop := seg_pairs (A := A.in1) (iter := iter) (pa := pa) (pb := pb) (pt := pt) (p1 := p1) (p2 := p2) (pe := pe) (kt := kt) (ke := ke) (scope := scope) (pos := pos) hh W₀ hPt hnc hxa hxb hk0 hco hCf ks.length 0 s'' s'' m (Nat.sub_zero _) (Nat.zero_le _) hst' hn' (GenSince.refl _ _ _)
    show Seg _ A.in1 _ _ _ s'' _ ((compStart (.GeneratorExp (.Tuple [.Name "value" p1, .Name "idx" p2] ke pe) [⟨.Tuple [.Name "idx" pa, .Name "value" pb] kt pt, iter, [], 0⟩] scope pos) 0 (.ref I) .none cenv).onRaise (leaving cenv)) [] s''
    unfold compStart
    rw [Sem.onRaise_eq_wrap]
    show Seg _ A.in1 _ _ _ s'' _ ((ask >>= _).wrap _ _ _ _) [] s''
    refine seg_bind_wrap (wpAny_askSetting ?_)
    split
    · exact seg_again rfl loop
    · refine seg_bind_wrap (wpAny_rule ?_)
      show Seg _ A.in1 _ _ _ s'' _ ((standAt iter.pos >>= _).wrap _ _ _ _) [] s''
      exact seg_bind_wrap (wpAny_standAt (seg_bind_wrap ((W₀ _ hh').self 0 s'' _ _ hst' (seg_again rfl loop))))
variable {a : Addr} {g : Nat} {C : Addr} {fp wr : List Addr} {ks : List Int} {s : Shared} {j : Nat}
theorem PairSt.frame (st : PairSt prog w A a g C fp wr ks j s) (hsub : ∀ b ∈ wr, b ∈ fp) (hcs : cStatics ∈ fp) {h' : Heap} {tk : Nat} (hk : ∀ b ∈ a :: C :: fp, ∀ o, s.heap.get? b = some o → h'.get? b = some o) : PairSt prog w A a g C fp wr ks j { s with heap := h', toks := tk } := by
  obtain ⟨hg, ⟨mc, hns, hnn⟩, nc, gs, hgs, hgo⟩ := st
  refine ⟨isGen_keeps hg fun o e => hk _ (.head _) o e, ⟨mc, hns.at' fun o e => hk cStatics (List.mem_cons_of_mem _ (List.mem_cons_of_mem _ hcs)) o e, hnn⟩, fun b hb => ?_, gs, hgs, fun s'' hal => hgo s'' fun b hb o e => hal b hb o (hk b (List.mem_cons_of_mem _ hb) o e)⟩
  obtain ⟨o, e, d⟩ := nc b hb
  refine ⟨o, hk b ?_ o e, d⟩
  rcases List.mem_cons.mp hb with hb | hb
  · rw [hb]; exact .tail _ (.head _)
  · exact .tail _ (.tail _ (hsub b hb))
theorem pairs_item {Q : Option Value → Shared → Prop} {E : Value → Shared → Prop} (hh : A.handled = none) (hroom : A.depth < recursionLimit) (haC : a ≠ C) (haw : a ∉ wr) (hcC : cStatics ≠ C) (hcw : cStatics ∉ wr) (st : PairSt prog w A a g C fp wr ks j s) (hj : j < ks.length)
    (hQ : ∀ T t u s', s'.heap.IsTuple T #[.int (ks.getD j 0) t, .int (j : Int) u] → PairSt prog w A a g C fp wr ks (j + 1) s' → (∀ b o, b ∉ C :: wr → s.heap.get? b = some o → s'.heap.get? b = some o) → GenOnlyQ g s.gens s'.gens → s'.drawn = s.drawn → s'.os = s.os → Q (some (.ref T)) s') :
    wpAny (model prog w) A (pyNext (.ref a)) Q E s := by
  obtain ⟨hg, hl, nc, gs, hgs, hgo⟩ := st
  obtain ⟨m, hm⟩ : ∃ m, ks.length - j = m + 1 := ⟨ks.length - j - 1, by omega⟩
  rw [hm] at hgo
  refine wpAny_pyNext_genexpQ (P := fun n s₀ s₁ => n = 0 ∧ GenSince C wr s₀ s₁) hh hl hroom hg hgs (hgo _ fun _ _ _ e => e) (fun v s₁ gs' hb hv => ?_) (fun s₁ hp h' hk => ?_)
  · obtain ⟨⟨T, t, u, rfl, hT⟩, ⟨h₁, tk₁, rfl, hk₁⟩, hnc, hkap⟩ := hv
    have hidx : ks.length - 1 - (m + 1 - 1) = j := by omega
    rw [hidx] at hT
    refine hQ T t u _ hT ⟨isGen_keeps hg fun o e => hk₁ a o haC haw e, (let ⟨mc, hns, hnn⟩ := hl; ⟨mc, hns.at' fun o e => hk₁ cStatics o hcC hcw e, hnn⟩), hnc, gs', setGen_self (gs := .running) (setGen_self hgs), fun s'' hal => ?_⟩
      (fun b o hb e => hk₁ b o (fun h => hb (h ▸ List.mem_cons_self ..)) (fun h => hb (List.mem_cons_of_mem _ h)) e) (GenOnlyQ.of ((GenOnly.setGen s g .running).trans (GenOnly.setGen _ g gs')) (setGen_self (gs := .running) (setGen_self hgs)) hb) rfl rfl
    have e : ks.length - (j + 1) = m := by omega
    rw [e]
    exact hkap s'' hal
  · exact absurd hp.1 (Nat.succ_ne_zero m)
theorem pairs_done {Q : Option Value → Shared → Prop} {E : Value → Shared → Prop} (hh : A.handled = none) (hroom : A.depth < recursionLimit) (st : PairSt prog w A a g C fp wr ks ks.length s)
    (hQ : ∀ s', (∀ b o, b ∉ C :: wr → s.heap.get? b = some o → s'.heap.get? b = some o) → GenOnlyQ g s.gens s'.gens → s'.drawn = s.drawn → s'.os = s.os → Q none s') :
    wpAny (model prog w) A (pyNext (.ref a)) Q E s := by
  obtain ⟨hg, hl, nc, gs, hgs, hgo⟩ := st
  rw [Nat.sub_self] at hgo
  refine wpAny_pyNext_genexpQ (P := fun n s₀ s₁ => n = 0 ∧ GenSince C wr s₀ s₁) hh hl hroom hg hgs (hgo _ fun _ _ _ e => e) (fun v s₁ gs' hb hv => ?_) (fun s₁ hp h' hk => ?_)
  · obtain ⟨_, _, _, hkap⟩ := hv
    exact False.elim (hkap s₁ fun _ _ _ e => e)
  · obtain ⟨_, h₁, tk₁, rfl, hk₁⟩ := hp
    exact hQ _ (fun b o hb e => hk b o (hk₁ b o (fun h => hb (h ▸ List.mem_cons_self ..)) (fun h => hb (List.mem_cons_of_mem _ h)) e)) (GenOnlyQ.of ((GenOnly.setGen s g .running).trans (GenOnly.setGen _ g .finished)) (setGen_self (gs := .running) (setGen_self hgs)) rfl) rfl rfl
end
end
section
theorem slot_gen_ga : Slot "generator" "__getattribute__" "object.__getattribute__" :=
  .of (owner := "object") (n := "__getattribute__") (by rw [typeLookup_type, builtinLookup_eq_fast]; kernel_rfl) (by decide +kernel) (by decide +kernel) (by decide +kernel)
    (by first | exact .inl (by decide +kernel) | exact .inr (by decide +kernel)) (by rw [isSubtype_type]; kernel_rfl)
theorem gen_no_keys : typeLookup (.type "generator") "keys" = pure none := am_miss_of_fast (by kernel_rfl)
theorem gen_no_hook : typeLookup (.type "generator") "__getattr__" = pure none := am_miss_of_fast (by kernel_rfl)
abbrev genObj (g : Nat) (nm qn : Value) : Obj := { cls := .type "generator", data := .fields #[.int (g : Int) 0, nm, qn] }
set_option maxHeartbeats 1000000 in
theorem meets_gen_miss (a : Addr) (g : Nat) (nm qn : Value) (u : Tok) :
    Meets (Builtin.«object.__getattribute__» ⟨[.ref a, .str "keys" u], []⟩) (fun A R s => s.heap.get? a = some (genObj g nm qn) ∧ raisesAttr (.ref a) "keys" A R s) :=
  Meets.of_wp fun prog w A R s hs => by
    obtain ⟨hp, gs, d, tk, os⟩ := s
    obtain ⟨hx, hs⟩ := hs
    have hT : (⟨hp, gs, d, tk, os⟩ : Shared).TypeIs (.ref a) "generator" := ⟨_, hx, rfl⟩
    have hmiss := gen_no_keys
    have hname : (["__module__", "__name__", "__qualname__", "__doc__", "__annotations__"] : List Str).contains "keys" = false := by decide
    unfold Builtin.«object.__getattribute__»
    repeat (any_goals (first | assumption | wp_step))
    all_goals try simp only [hname, Bool.false_eq_true, if_false]
    repeat (any_goals (first | assumption | wp_step))
    exact wpAny_raiseAttrError hs.1 hs.2 (attrMsg_fits (by decide +kernel) (by decide +kernel))
set_option maxHeartbeats 1000000 in
theorem gen_keys {prog : Program} {w : World} {A : Around} {E : Value → Shared → Prop} {s : Shared} {a : Addr} {g : Nat} {nm qn : Value} {Q : Option Value → Shared → Prop} (hx : s.heap.get? a = some (genObj g nm qn)) (hA : A.handled = none)
    (h : ∀ h' tk, (∀ b o, s.heap.get? b = some o → h'.get? b = some o) → Q none { s with heap := h', toks := tk }) :
    wpAny (model prog w) A (getAttr? (.ref a) "keys") Q E s := by
  obtain ⟨hp, gs, d, tk, os⟩ := s
  have hT : ∀ tk', (⟨hp, gs, d, tk', os⟩ : Shared).TypeIs (.ref a) "generator" := fun _ => ⟨_, hx, rfl⟩
  have f1 := sub_AttributeError
  have f3 := slot_gen_ga.lookup
  have f4 := slot_gen_ga.bind (.ref a)
  have f5 := gen_no_hook
  unfold getAttr? getAttrBy? getAttrBy
  repeat (any_goals (first | assumption | exact hT _ | ((with_reducible show wpAny _ _ (call (Value.builtin "object.__getattribute__") _ _) _ _ _); refine call_meets slot_gen_ga (hT _) F.entry_object_getattribute (F.args_object_getattribute_2 _ _) (meets_gen_miss a g nm qn _) ⟨hx, hA, fun h' tk' e hx' => ?_⟩) | wp_step))
  obtain ⟨t', u', he⟩ := hx'.there
  show wpAny _ _ (getattributeRaised _ _ _ _ _ _ _) _ _ _
  unfold getattributeRaised
  repeat (any_goals (first | assumption | wp_step))
  exact h _ _ hx'.keeps
end
section
theorem entry_dict_loop : entryFor table "dict.update.loop" = some Builtin.«dict.update.loop» := entryFor_of_tree (by kernel_rfl)
theorem plain_dict_loop : plainId "dict.update.loop" = true := by decide +kernel
/-- the first i signs stand in the map -/
def Mapped (ks : List Int) (i : Nat) (f : Int → Option Value) : Prop := ∀ (j : Nat) b, j < i → ks[j]? = some b → ∃ t, f b = some (.int (j : Int) t)
theorem Mapped.step {ks : List Int} {i : Nat} {f : Int → Option Value} {u : Tok} (h : Mapped ks i f) (inj : ∀ (i j : Nat) b, ks[i]? = some b → ks[j]? = some b → i = j) (hi : i < ks.length) : Mapped ks (i + 1) fun x => if x = ks.getD i 0 then some (.int (i : Int) u) else f x := by
  intro j b hj hb
  have e : ks[i]? = some (ks.getD i 0) := by rw [List.getD_eq_getElem?_getD, List.getElem?_eq_getElem hi]; rfl
  by_cases z : j = i
  · subst z
    rw [hb] at e
    exact ⟨u, by simp only [Option.some.inj e, if_true]⟩
  · obtain ⟨t, et⟩ := h j b (by omega) hb
    refine ⟨t, ?_⟩
    have : b ≠ ks.getD i 0 := fun q => z (inj j i b hb (q ▸ e))
    simp only [this, if_false]
    exact et
section
variable {prog : Program} {w : World} {A : Around} {a : Addr} {g : Nat} {C D : Addr} {fp wr : List Addr} {ks : List Int}
set_option maxHeartbeats 1000000 in
theorem dict_loop {R : Result → Shared → Prop} (hh : A.handled = none) (hroom : A.depth < recursionLimit) (haC : a ≠ C) (haf : a ∉ fp) (hcC : cStatics ≠ C) (hcw : cStatics ∉ wr) (hsub : ∀ b ∈ wr, b ∈ fp) (hcs : cStatics ∈ fp) (hD : D ∉ a :: C :: fp)
    (inj : ∀ (i j : Nat) b, ks[i]? = some b → ks[j]? = some b → i = j) (hz : ks.length ≤ 1000) : ∀ (k i : Nat) (s : Shared) (f : Int → Option Value), ks.length - i = k → i ≤ ks.length → PairSt prog w A.in1 a g C fp wr ks i s → s.heap.IntMap D f → s.heap.DictLe D i → Mapped ks i f →
    (∀ s' f', s'.heap.IntMap D f' → Mapped ks ks.length f' → (∀ b o, b ∉ D :: C :: wr → s.heap.get? b = some o → s'.heap.get? b = some o) → GenOnlyQ g s.gens s'.gens → s'.drawn = s.drawn → s'.os = s.os → R (.ok (.ret .none)) s') →
    codeAny (model prog w) A (.builtin "dict.update.loop" ⟨[.ref D, .ref a, rawInt (i : Int), .none], []⟩) R s := by
  have haw : a ∉ wr := fun m => haf (hsub a m)
  have hDw : D ∉ C :: wr := fun m => hD (by
    rcases List.mem_cons.mp m with m | m
    · rw [m]; exact .tail _ (.head _)
    · exact .tail _ (.tail _ (hsub D m)))
  intro k
  induction k with
  | zero =>
    intro i s f hk hi st hm hle hf q
    have hin : i = ks.length := by omega
    subst hin
    refine codeAny_builtin entry_dict_loop ?_
    rw [Around.under_plainId plain_dict_loop _]
    show wpAny _ A.in1 (pyNext (.ref a) >>= _) _ _ s
    refine wpAny_bind (pairs_done hh hroom st fun s' kp gn dr os => ?_)
    show wpAny _ _ (Builtin.Dict.addKeywords D [] >>= _) _ _ _
    refine wpAny_bind (wpAny_pure (wpAny_pure (q s' f ?_ hf (fun b o n e => kp b o (fun m => n (.tail _ m)) e) gn dr os)))
    obtain ⟨o, es, ep, e, r⟩ := hm
    exact ⟨o, es, ep, kp D o hDw e, r⟩
  | succ k ih =>
    intro i s f hk hi st hm hle hf q
    have hlt : i < ks.length := by omega
    refine codeAny_builtin entry_dict_loop ?_
    rw [Around.under_plainId plain_dict_loop _]
    show wpAny _ A.in1 (pyNext (.ref a) >>= _) _ _ s
    refine wpAny_bind (pairs_item hh hroom haC haw hcC hcw st hlt fun T t u s₁ hT st₁ kp gn dr os => ?_)
    obtain ⟨oT, eT, cT, nT, dT⟩ := hT
    have hTy : s₁.TypeIs (.ref T) "tuple" := ⟨oT, eT, cT⟩
    have hm₁ : s₁.heap.IntMap D f := let ⟨o, es, ep, e, r⟩ := hm; ⟨o, es, ep, kp D o hDw e, r⟩
    have hle₁ : s₁.heap.DictLe D i := by
      obtain ⟨o, es, ep, e, _⟩ := hm
      exact hle.of_same e (kp D o hDw e)
    show wpAny _ _ (holding [Value.ref T] _ >>= _) _ _ _
    refine wpAny_bind (wpAny_holding (wpAny_bind (wpAny_tryCatch ?_)))
    unfold Builtin.Dict.pairItems
    refine wpAny_bind (wpAny_typeOf hTy ?_)
    rw [if_pos (by decide)]
    refine wpAny_bind (wpAny_seqItems eT dT (wpAny_pure ?_))
    show wpAny _ _ (holding [Value.int (ks.getD i 0) t, Value.int (i : Int) u] (dictSet D (.int (ks.getD i 0) t) (.int (i : Int) u))) _ _ _
    refine wpAny_holding (wpAny_dictSet_int_le hm₁ hle₁ (by rw [sizeLine_eq]; omega) fun h' hm' hle' sb => ?_)
    have kh : ∀ b o, b ≠ D → s₁.heap.get? b = some o → h'.get? b = some o := fun b o n e => (sb.2 b n).trans e
    refine wpAny_pure ⟨plainId_quiet plain_dict_loop _, ?_⟩
    have e1 : rawInt ((i : Int) + 1) = rawInt ((i + 1 : Nat) : Int) := rfl
    rw [e1]
    refine ih (i + 1) _ _ (by omega) hlt (st₁.frame hsub hcs fun b hb o e => kh b o (fun z => hD (z ▸ hb)) e) hm' hle' (hf.step inj hlt) fun s' f' m' mp' kp' gn' dr' os' => ?_
    exact q s' f' m' mp' (fun b o n e => kp' b o n (kh b o (fun z => n (z ▸ .head _)) (kp b o (fun m => n (.tail _ m)) e))) (gn.trans gn') (dr'.trans dr) (os'.trans os)
set_option maxHeartbeats 1000000 in
theorem dict_pairs {E : Value → Shared → Prop} {s : Shared} {nm qn : Value} {Q : Value → Shared → Prop} (hh : A.handled = none) (hroom : A.depth < recursionLimit) (haC : a ≠ C) (haf : a ∉ fp) (hcC : cStatics ≠ C) (hcw : cStatics ∉ wr) (hsub : ∀ b ∈ wr, b ∈ fp) (hcs : cStatics ∈ fp) (hlt : ∀ b ∈ a :: C :: fp, b < s.heap.objs.size)
    (inj : ∀ (i j : Nat) b, ks[i]? = some b → ks[j]? = some b → i = j) (hz : ks.length ≤ 1000) (hx : s.heap.get? a = some (genObj g nm qn)) (st : PairSt prog w A.in1.in1 a g C fp wr ks 0 s)
    (q : ∀ s' f', s'.heap.IntMap s.heap.objs.size f' → Mapped ks ks.length f' → (∀ b o, b ∉ C :: wr → s.heap.get? b = some o → s'.heap.get? b = some o) → GenOnlyQ g s.gens s'.gens → s'.drawn = s.drawn → s'.os = s.os → Q (.ref s.heap.objs.size) s') :
    wpAny (model prog w) A (call (.type "dict") [.ref a]) Q E s := by
  refine callType_codes (Q₁ := fun obj s₁ => obj = .ref s.heap.objs.size ∧ s₁ = { s with heap := s.heap.push { cls := .type "dict", data := .dict #[] } }) PySem.F.kt_called_dict (PySem.F.kt_typeCall_dict_1 _) PySem.F.entry_dict_init (kt_code_dict_new _ ⟨rfl, rfl⟩) ?_
  rintro obj s₁ ⟨rfl, rfl⟩
  have hnew : (s.heap.push { cls := .type "dict", data := .dict #[] }).IntMap s.heap.objs.size (fun _ => none) := Heap.IntMap.new s.heap
  have hle : (s.heap.push { cls := .type "dict", data := .dict #[] }).DictLe s.heap.objs.size 0 := Heap.DictLe.new s.heap
  have hx' : (s.heap.push { cls := .type "dict", data := .dict #[] }).get? a = some (genObj g nm qn) := Heap.get?_push_of_some _ hx
  have hTd : Shared.TypeIs { s with heap := s.heap.push { cls := .type "dict", data := .dict #[] } } (.ref s.heap.objs.size) "dict" := hnew.typeIs (s := { s with heap := s.heap.push { cls := .type "dict", data := .dict #[] } })
  have hTg : Shared.TypeIs { s with heap := s.heap.push { cls := .type "dict", data := .dict #[] } } (.ref a) "generator" := ⟨_, hx', rfl⟩
  refine ⟨hTd, PySem.F.args_dict_init_2 _ _, ?_⟩
  unfold Builtin.«dict.__init__»
  refine wpAny_bind ?_
  unfold Builtin.Dict.selfAndRest
  refine wpAny_bind (wpAny_notOrdered_dict hTd ?_)
  show wpAny _ _ (pure (s.heap.objs.size, [Value.ref a])) _ _ _
  refine wpAny_pure ?_
  show wpAny _ _ (Builtin.Dict.updateFrom "dict.__init__" s.heap.objs.size (.ref a) [] .none) _ _ _
  unfold Builtin.Dict.updateFrom
  refine wpAny_bind (wpAny_typeOf hTg ?_)
  rw [if_pos (by decide)]
  refine wpAny_bind (gen_keys hx' (by simp [hh]) fun h' tk kp => ?_)
  simp only [Option.isNone_none, if_true]
  refine wpAny_bind (wpAny_rule ?_)
  have hg' : Heap.IsGen h' a g := ⟨_, nm, qn, kp _ _ hx', rfl, rfl, rfl⟩
  refine wpAny_bind (wpAny_pyIter_gen (s := { s with heap := h', toks := tk }) hg' ?_)
  refine wpAny_pure ⟨plainId_quiet plain_dict_loop _, ?_⟩
  have k0 : ∀ b o, s.heap.get? b = some o → h'.get? b = some o := fun b o e => kp b o (Heap.get?_push_of_some _ e)
  have hDn : s.heap.objs.size ∉ a :: C :: fp := fun m => Nat.lt_irrefl _ (hlt _ m)
  have st' : PairSt prog w A.in1.in1 a g C fp wr ks 0 { s with heap := h', toks := tk } := st.frame hsub hcs fun b _ o e => k0 b o e
  have hm' : h'.IntMap s.heap.objs.size (fun _ => none) := let ⟨o, es, ep, e, r⟩ := hnew; ⟨o, es, ep, kp _ _ e, r⟩
  have hle' : h'.DictLe s.heap.objs.size 0 := by
    obtain ⟨o, es, ep, e, _⟩ := hnew
    exact hle.of_same e (kp _ _ e)
  refine dict_loop (A := A.in1) hh hroom haC haf hcC hcw hsub hcs hDn inj hz ks.length 0 _ _ (Nat.sub_zero _) (Nat.zero_le _) st' hm' hle' (fun j b hj => absurd hj (Nat.not_lt_zero _)) fun s' f' m' mp' kp' gn' dr' os' => ?_
  exact ⟨rfl, q s' f' m' mp' (fun b o n e => kp' b o (fun m => by
    rcases List.mem_cons.mp m with m | m
    · rw [m] at e; exact Nat.lt_irrefl _ (Heap.lt_size e)
    · exact n m) (k0 b o e)) gn' dr' os'⟩
end
end
section
section
variable {M : Model} {A : Around} {E : Value → Shared → Prop} {s : Shared} {scope : Scope} {env : Env} {Q : Value → Shared → Prop}
/-- a generator expression's code, made or found -/
theorem make_gx {G : Gl} {t : Tab} (ht : t ∈ G.tabs) (hcode : env.code = .ref t.c) (ok : G.Ok s)
    (h : ∀ c' s', Step G true G.T s s' → Q c' s') : wpAny M A (genexprCode env t.pos t.qual scope) Q E s := by
  obtain ⟨c₀, ps₀, ps, h1, h2, h3, h4⟩ := ok.tabs t ht
  rcases h4 with h4 | ⟨c', e4, _⟩
  · refine wpAny_genexprCodeX hcode h3 h2 h4 fun c' h' tk hx hge hlt hIC hrec htb htc => ?_
    obtain ⟨P', _, _, ⟨oc, vc, tc1, tc2, tc3, _⟩, _⟩ := htc
    obtain ⟨c1, o1, v1, tk1, er, er1, er2, er3⟩ := hrec
    cases er
    rw [tc1] at er1; cases er1
    rw [tc3] at er2; cases er2
    refine h _ _ ⟨fun b o n e => hx b o (fun z => n (z ▸ List.mem_map.mpr ⟨t, ht, rfl⟩)) e, fun ok => Gl.Ok.table (c' := c') ok ht h2 h4 (fun b o hb e => hx b o hb e) htb hIC ⟨_, _, tk1, tc1, tc2, tc3, er3⟩ rfl, GX.refl _ _, rfl, rfl⟩
  · exact wpAny_genexprCode_hit hcode h3 e4 (h _ _ .refl)
theorem make_bi {G : Gl} {t : Tab} {env' : Env} {Q : Addr → Shared → Prop} (ht : t ∈ G.tabs) (hge : env'.globals = mainGlobals) (ok : G.Ok s) (h : ∀ bm, Q bm s) : wpAny M A (builtinsFor env'.globals env'.builtins) Q E s := by
  obtain ⟨bm, ob, hbm, hne0, hneg, hneP, hbo, hcls, hdict, hdata⟩ := G.bmain t ht
  have hbo : s.heap.get? bm = some ob := ok.old.get_of_cls hbo (by rw [hcls]; simp)
  rw [hge]
  exact wpAny_builtinsFor ok.glob hbm hne0 hbo hcls hdict hdata (h _)
end
theorem enum_nocode {e it : Addr} {b : Array UInt8} {t : Tok} (i : Nat) (h : Heap) (st : (∃ old, IsEnum h e it i old) ∧ KBw.IsBytesIter h it b t i) : NoCode [e, it] h := by
  obtain ⟨⟨old, he⟩, o, ho, hc, _⟩ := st
  intro a ha
  rcases List.mem_cons.mp ha with ha | ha
  · exact ⟨_, ha ▸ he, fun z => by simp at z⟩
  · exact ⟨o, List.mem_singleton.mp ha ▸ ho, fun z => by rw [hc] at z; simp at z⟩
section
variable {c : Fx} {σ : St} {sg : List Int}
set_option maxHeartbeats 2000000 in
theorem Ev.dictPairs {t : Tab} {scope : Scope} {pa pb pt p1 p2 pe pd pn pc pcm pos : Pos} {kt ke : Nat} (hfl : c.fl = true) (ht : t ∈ c.G.tabs) (hcode : c.env.code = .ref t.c) (hge : c.env.globals = mainGlobals) (hbi : c.env.builtins = builtinsNs) (hk : c.env.scope.kind = .function) (hq : t.qual = c.env.qual ++ "<genexpr>")
    (hd : BltAt c.G "dict" (.type "dict")) (he : BltAt c.G "enumerate" (.type "enumerate")) (hdk : c.env.kindOf "dict" = some .globalImplicit) (hek : c.env.kindOf "enumerate" = some .globalImplicit) (hs : Signs sg) (hcm : Ev c σ (.Name "charmap" pcm) (aByt sg)) (rm : Rm c.A 1)
    (hco : scope.isCoroutine = false) (hclos : closureFor scope c.env = pure []) (hcell : ∀ y ∈ scope.names, y.2 ≠ .cell) (h0 : scope.names.lookup (".0" : Str) = some NameKind.local) (hkind : scope.kind = .function)
    (hxa : scope.names.lookup ("idx" : Str) = some .local) (hxb : scope.names.lookup ("value" : Str) = some .local) :
    Ev c σ (.Call (.Name "dict" pd) [.GeneratorExp (.Tuple [.Name "value" p1, .Name "idx" p2] ke pe) [⟨.Tuple [.Name "idx" pa, .Name "value" pb] kt pt, .Call (.Name "enumerate" pn) [.Name "charmap" pcm] [] pc, [], 0⟩] scope t.pos] [] pos) (aMap sg) := by
  intro X s S Q E q
  have hT : c.T = c.G.T := by unfold Fx.T; rw [hfl]; rfl
  have hroom : c.A.depth < recursionLimit := by have := rm.d; omega
  refine call1 S (Ev.bi hd hdk hk hge hbi (by decide)) KeepsIt.type rfl fun s₁ S₁ k₁ => ?_
  refine wpAny_GeneratorExp_make hco hclos hcell h0 hkind hroom ?_ (fun _ => rfl)
  refine call1 S₁ (Ev.bi he hek hk hge hbi (by decide)) KeepsIt.type rfl fun s₂ S₂ k₂ => ?_
  refine hcm X s₂ S₂ _ _ fun v s₃ k₃ p₃ => ?_
  obtain ⟨b, tb, rfl, eb⟩ := p₃
  have S₃ := S₂.step k₃
  refine ⟨S₃.ok, call_enum_bytes fun h₄ hE hI hsz kp => ?_⟩
  have hbs : b.size = sg.length := by rw [← eb, KBw.ints_length]
  generalize hit : s₃.heap.objs.size = it at hE hI hsz
  have W : ∀ A' : Around, A'.handled = none → WalksU c.G.prog c.G.w A' (it + 1) [cStatics, it + 1, it] [it + 1, it] sg.length _ _ _ := fun A' hA => by
    have z := ((WalksT.enumerateD (prog := c.G.prog) (w := c.G.w) (A := A') (draws_bytes (A := A'.in1) hA it b tb) (it + 1) (Nat.succ_ne_self it) (fun m => Nat.succ_ne_self it (List.mem_singleton.mp m)) (.head _)).toU).mono_fp (fp' := [cStatics, it + 1, it]) fun x m => .tail _ m
    rw [hbs] at z
    exact z
  have kB : Step c.G true [] s₃ { s₃ with heap := h₄ } := Step.heap (t := s₃.toks) kp
  have ok₄ := kB.ok S₃.ok
  have st₀ : (∃ old, IsEnum h₄ (it + 1) it ((0 : Nat) : Int) old) ∧ KBw.IsBytesIter h₄ it b tb 0 := ⟨⟨_, hE⟩, hI⟩
  refine (W c.A rm.h).self 0 { s₃ with heap := h₄ } _ _ st₀ ?_
  refine ⟨ok₄.nolim, ?_⟩
  rw [← hq]
  refine make_gx ht hcode ok₄ fun code s₅ kC => ?_
  have ok₅ := kC.ok ok₄
  refine make_bi ht hge ok₅ fun bm => ?_
  intro h₆ hn₆ hs₆
  have hz₆ : h₆.objs.size = s₅.heap.objs.size + 1 := by rw [hs₆.1, Heap.size_push]
  have kp₆ : ∀ b o, s₅.heap.get? b = some o → h₆.get? b = some o := fun b o e => hs₆.extBut b o (Nat.ne_of_lt (Heap.lt_size e)) (Heap.get?_push_of_some _ e)
  have low₃ := S₃.ok.low
  have itT : ∀ b, it ≤ b → b ∉ c.G.T := fun b hb m => Nat.lt_irrefl _ (Nat.lt_of_lt_of_le (T_lt m) (Nat.le_trans low₃ (hit ▸ hb)))
  have hE₅ : IsEnum s₅.heap (it + 1) it ((0 : Nat) : Int) .none := kC.keep _ _ (itT _ (Nat.le_succ it)) hE
  have hI₅ : KBw.IsBytesIter s₅.heap it b tb 0 := let ⟨o, e, r⟩ := hI; ⟨o, kC.keep _ _ (itT _ (Nat.le_refl it)) e, r⟩
  have hlt₅ : it + 1 < s₅.heap.objs.size := Heap.lt_size hE₅
  have hcs₅ : cStatics < s₅.heap.objs.size := let ⟨_, hn, _⟩ := ok₅.nolim; hn.lt
  have hcsit : cStatics < it := hit ▸ (let ⟨_, hn, _⟩ := S₃.ok.nolim; hn.lt)
  generalize hC : s₅.heap.objs.size = C at hz₆ hlt₅ hcs₅ hn₆ hs₆ ⊢
  generalize hgn : s₅.gens.size = g
  generalize hnm : Value.str (Str.ofString "<genexpr>") (s₅.toks + 1) = nm
  generalize hqn : Value.str t.qual (s₅.toks + 1 + 1) = qn
  generalize htk : s₅.toks + 1 + 1 + 1 = tk
  generalize hgs : GenState.fresh _ = gs
  have hbare : gs.bare = true := by rw [← hgs]; rfl
  have kD : Step c.G true [] s₅ { s₅ with gens := s₅.gens.push gs, toks := tk, heap := h₆.push (genObj g nm qn) } := by
    refine ⟨fun b o _ e => Heap.get?_push_of_some _ (kp₆ b o e), fun ok => ok.step (fun b o _ e => Heap.get?_push_of_some _ (kp₆ b o e)) fun x hx => ?_, ?_, rfl, rfl⟩
    · rcases Array.mem_push.mp hx with hx | hx
      · exact ok.bare x hx
      · rw [hx]; exact hbare
    · show ∀ (i : Nat) (x : GenState), s₅.gens[i]? = some x → (s₅.gens.push gs)[i]? = some x
      intro i x e
      have hi : i < s₅.gens.size := (Array.getElem?_eq_some_iff.mp e).1
      rw [Array.getElem?_push_lt hi]
      rw [← e, Array.getElem?_eq_getElem hi]
  have ok₆ := kD.ok ok₅
  have hfp : ∀ x ∈ [cStatics, it + 1, it], x < C := fun x m => by
    rcases List.mem_cons.mp m with m | m
    · rw [m]; exact hcs₅
    · rcases List.mem_cons.mp m with m | m
      · rw [m]; exact hlt₅
      · rw [List.mem_singleton.mp m]; exact Nat.lt_of_succ_lt hlt₅
  have hCf : C ∉ [cStatics, it + 1, it] := fun m => Nat.lt_irrefl _ (hfp C m)
  have hcw : cStatics ∉ [it + 1, it] := fun m => by
    rcases List.mem_cons.mp m with m | m
    · rw [m] at hcsit; exact Nat.lt_irrefl _ (Nat.lt_trans (Nat.lt_succ_self it) hcsit)
    · rw [List.mem_singleton.mp m] at hcsit; exact Nat.lt_irrefl _ hcsit
  have hax : (h₆.push (genObj g nm qn)).get? h₆.objs.size = some (genObj g nm qn) := Heap.get?_push_size _ rfl
  have hgg : (s₅.gens.push gs)[g]? = some gs := by rw [← hgn]; exact Array.getElem?_push_size ..
  have P : PairSt c.G.prog c.G.w c.A.in1.in1 h₆.objs.size g C [cStatics, it + 1, it] [it + 1, it] sg 0 { s₅ with gens := s₅.gens.push gs, toks := tk, heap := h₆.push (genObj g nm qn) } := by
    refine pairs_fresh (A := c.A.in1.in1) (cenv := genEnv scope [] C code bm c.env) rm.h (fun A' hA => W A' hA) (fun i vals hv => ?_) (fun i h st => enum_nocode i h st) hxa hxb hkind hco hCf ⟨_, nm, qn, hax, rfl, rfl, rfl⟩ (hgg.trans (congrArg some hgs.symm)) ⟨⟨_, Heap.get?_push_of_some _ (kp₆ _ _ hE₅)⟩, let ⟨o, e, r⟩ := hI₅; ⟨o, Heap.get?_push_of_some _ (kp₆ _ _ e), r⟩⟩ (hn₆.push _) ok₆.nolim
    obtain ⟨tt, x, hx, rfl⟩ := hv
    obtain ⟨u, rfl⟩ := bytes_at eb i x hx
    exact ⟨tt, u, rfl⟩
  refine ⟨ok₆, ?_⟩
  have haC : h₆.objs.size ≠ C := by rw [hz₆]; exact Nat.succ_ne_self C
  refine dict_pairs (s := { s₅ with gens := s₅.gens.push gs, toks := tk, heap := h₆.push (genObj g nm qn) }) rm.h hroom haC (fun m => ?_) (Nat.ne_of_lt hcs₅) hcw (fun x m => .tail _ m) (.head _) (fun x m => ?_) hs.inj (by rw [hs.len]; decide) hax P fun s₇ f' hm mp kp₇ gn dr os => ?_
  · have := hfp _ m
    rw [hz₆] at this
    exact Nat.lt_irrefl _ (Nat.lt_of_succ_lt this)
  · show x < (h₆.push (genObj g nm qn)).objs.size
    rw [Heap.size_push, hz₆]
    rcases List.mem_cons.mp m with m | m
    · rw [m, hz₆]; exact Nat.lt_succ_self _
    · rcases List.mem_cons.mp m with m | m
      · rw [m]; exact Nat.lt_succ_of_lt (Nat.lt_succ_self _)
      · exact Nat.lt_succ_of_lt (Nat.lt_succ_of_lt (hfp x m))
  · have new : ∀ x ∈ [C, it + 1, it], it ≤ x := fun x m => by
      rcases List.mem_cons.mp m with m | m
      · rw [m]; exact Nat.le_of_lt (Nat.lt_of_succ_lt hlt₅)
      · rcases List.mem_cons.mp m with m | m
        · rw [m]; exact Nat.le_succ it
        · rw [List.mem_singleton.mp m]; exact Nat.le_refl it
    have ok₇ : c.G.Ok s₇ := ok₆.step (fun x o hx e => kp₇ x o (fun m => by
      have hm' : x ∈ [C, it + 1, it] := m
      rcases hx with hx | ⟨hc, vs, hv⟩
      · exact Nat.lt_irrefl _ (Nat.lt_of_lt_of_le hx (Nat.le_trans low₃ (hit ▸ new x hm')))
      · obtain ⟨o', e', d'⟩ := P.nc x m
        rw [e] at e'; cases e'
        exact d' hc vs hv) e) (gn.bare ok₆.bare)
    have hgz : ∀ (i : Nat) (x : GenState), s₅.gens[i]? = some x → s₇.gens[i]? = some x := fun i x e => by
      have hi : i < s₅.gens.size := (Array.getElem?_eq_some_iff.mp e).1
      have e6 : (s₅.gens.push gs)[i]? = some x := by rw [Array.getElem?_push_lt hi]; rw [← e, Array.getElem?_eq_getElem hi]
      rcases gn with gn | ⟨gn, _⟩
      · rw [gn]; exact e6
      · rw [gn.2 i (by rw [← hgn]; exact Nat.ne_of_lt hi)]; exact e6
    have big : Step c.G true c.G.T s₃ s₇ := by
      refine ⟨fun x o n e => ?_, fun _ => ok₇, ?_, ?_, ?_⟩
      · have hx : x < it := hit ▸ Heap.lt_size e
        exact kp₇ x o (fun m => Nat.lt_irrefl _ (Nat.lt_of_lt_of_le hx (new x m))) (Heap.get?_push_of_some _ (kp₆ x o (kC.keep x o n (kp x o e))))
      · show ∀ (i : Nat) (x : GenState), s₃.gens[i]? = some x → s₇.gens[i]? = some x
        intro i x e
        exact hgz i x (kC.gens i x e)
      · exact dr.trans kC.drawn
      · exact os.trans kC.os
    have hfin : Step c.G c.fl c.T s s₇ := by
      have k13 := (k₁.trans k₂).trans k₃
      rw [hT, hfl] at k13 ⊢
      exact k13.trans big
    refine q _ s₇ hfin ⟨_, rfl, f', ?_, fun i x hx => mp i x (List.getElem?_eq_some_iff.mp hx).1 hx⟩
    obtain ⟨o, es, ep, e, r⟩ := hm
    refine ⟨o, es, ep, view_get e fun m => ?_, r⟩
    obtain ⟨o', e'⟩ := S₃.live _ m
    have l1 := Heap.lt_size e'
    rw [hit] at l1
    have l2 : it < (h₆.push (genObj g nm qn)).objs.size := by
      rw [Heap.size_push, hz₆]
      exact Nat.lt_trans (Nat.lt_of_succ_lt hlt₅) (Nat.lt_succ_of_lt (Nat.lt_succ_self _))
    exact Nat.lt_irrefl _ (Nat.lt_trans l1 l2)
end
end
section
section
variable {c : Fx} {σ τ : St}
/-- one private object turns -/
theorem Sat.turn {X : List Addr} {s s' : Shared} {I : Addr} (S : Sat c σ X s) (k : Step c.G false [I] s s') (hIX : I ∈ X) (hc : ∃ o, s.heap.get? I = some o ∧ ∀ v, o.data ≠ .cell v) (hI : I ∉ c.own) (hl : ∃ o, s'.heap.get? I = some o) : Sat c σ X s' := by
  have vw : ∀ b o, (Mine.view X s.heap).get? b = some o → (Mine.view X s'.heap).get? b = some o := fun b o e => by
    obtain ⟨g, n⟩ := view_of e
    exact view_get (k.keep _ _ (fun z => n (by rw [List.mem_singleton.mp z]; exact hIX)) g) n
  have kc : ∀ a o v, o.data = .cell v → s.heap.get? a = some o → s'.heap.get? a = some o := fun a o v d e => k.keep _ _ (fun z => by
    obtain ⟨o', e', d'⟩ := hc
    rw [List.mem_singleton.mp z, e'] at e; cases e; exact d' _ d) e
  refine ⟨k.ok S.ok, S.tabs, S.own, fun a h => ?_, S.L, ?_, fun y P h => ?_, fun y h => ?_, S.inj⟩
  · by_cases z : a = I
    · exact z ▸ hl
    · obtain ⟨o, e⟩ := S.live a h; exact ⟨o, k.keep _ _ (by simpa using z) e⟩
  · obtain ⟨m, n, h⟩ := S.loc
    exact ⟨m, ns_keeps (fun o e => k.keep _ _ (fun z => hI (List.mem_singleton.mp z ▸ S.L)) e) n, fun y P hy => let ⟨v, e, hp⟩ := h y P hy; ⟨v, e, P.mono vw hp⟩⟩
  · obtain ⟨a, v, e, l, ⟨o, g, d⟩, hp⟩ := S.cel y P h
    exact ⟨a, v, e, l, ⟨o, kc _ _ _ d g, d⟩, P.mono vw hp⟩
  · obtain ⟨a, v, e, l, o, g, d⟩ := S.put y h
    exact ⟨a, v, e, l, o, kc _ _ _ d g, d⟩
theorem if_skip {t : Expr} {b o : List Stmt} {pos : Pos} (a : Tr c σ t false) {X : List Addr} {s : Shared} (S : Sat c σ X s) {Q : Flow → Shared → Prop} {E : Value → Shared → Prop}
    (h : ∀ s', Sat c σ X s' → Step c.G c.fl c.T s s' → wpAny c.M c.A (execs o c.env) Q E s') : wpAny c.M c.A (exec (.If t b o pos) c.env) Q E s :=
  wpAny_If (a X s S _ _ fun s' k => by rw [if_neg Bool.false_ne_true]; exact h s' (S.step k) k)
end
section
variable {prog : Program} {w : World} {A : Around} {K : Frag} {C x dx : Addr} {s : Shared} {es : List DictEntry} {n : Nat} {name : Str} {v : Value} {E : Value → Shared → Prop}
theorem osa_plain {R : Result → Shared → Prop} {tk : Tok} (X : K.In s.heap) (hx : s.heap.get? x = some (instObj C dx)) (hd : s.heap.get? dx = some (dictOf es n)) (hp : plainOver K C = true) (ht : takerIn K C name = some none) (hh : (clsIn K C).any (·.hasDict) = true)
    (hl : (lookIn name (dictOf es n)).isSome = true) (hz : ∀ hsh key, (putL name hsh key v es).length ≤ 1000)
    (h : ∀ h' hsh tk', h'.get? dx = some (dictOf (putL name hsh (.str name tk') v es) (putN name es n)) → (∀ b o, b ≠ dx → s.heap.get? b = some o → h'.get? b = some o) → R (.ok (.ret .none)) { s with heap := h', toks := s.toks + 1 }) :
    codeAny (model prog w) A (.call (.builtin "object.__setattr__") ⟨[.ref x, .str name tk, v], []⟩) R s := by
  refine osa_open (ox := instObj C dx) (od := some (dictOf es n)) X ⟨hx, rfl, rfl, hd⟩ hp ht fun b => ?_
  obtain ⟨cd, hc, hd'⟩ := any_some hh
  have hu := Heap.get?_update_self (h := s.heap) (Obj.putName name (PyData.keyHash w.params name) (.str name s.toks) v) hd (by rw [putName_dict]; rfl)
  rw [putName_dict] at hu
  refine wpAny_bind (wpAny_pure (wpAny_bind (wpAny_bind (wpAny_loadPart hx (wpAny_bind ((looks_clsIn X hc).here ?_))))))
  rw [hd']
  refine wpAny_pure (a := some dx) (wpAny_bind (wpAny_pure (wpAny_bind ?_)))
  unfold nsSet
  refine wpAny_bind (wpAny_bind (wpAny_askSetting (wpAny_pure (wpAny_bind (wpAny_mkText (wpAny_bind (wpAny_loadPart hd ?_)))))))
  have c : (!es.toArray.any (·.key.isStr name) && es.toArray.any (·.refKey)) = false := by
    unfold lookIn at hl
    rw [← Array.any_toList, ← Array.any_toList]
    simp only at hl ⊢
    split at hl
    · rename_i en he
      rw [List.any_eq_true.mpr ⟨en, List.mem_of_find?_eq_some he, List.find?_some he⟩]; rfl
    · split at hl
      · cases hl
      · rename_i z; rw [Bool.not_eq_true] at z; rw [z, Bool.and_false]
  dsimp only
  rw [aRefKeyMayBeTheName_at, c]
  refine wpAny_updatePart hd ?_
  refine wpAny_bind (wpAny_lookBehind hu (pastItsLine_dict (by rw [List.size_toArray, sizeLine_eq]; have := hz (PyData.keyHash w.params name) (.str name s.toks); omega)) ?_)
  exact wpAny_pure (h _ _ _ hu fun b o hb e => (Heap.get?_update_other _ _ (Ne.symm hb)).trans e)
theorem attr_store {Q : Unit → Shared → Prop} (X : K.In s.heap) (hx : s.heap.get? x = some (instObj C dx)) (hd : s.heap.get? dx = some (dictOf es n)) (hs : findIn K (.ref C) "__setattr__" = some (some (.builtin "object.__setattr__"))) (hp : plainOver K C = true) (ht : takerIn K C name = some none) (hh : (clsIn K C).any (·.hasDict) = true)
    (hl : (lookIn name (dictOf es n)).isSome = true) (hz : ∀ hsh key, (putL name hsh key v es).length ≤ 1000)
    (h : ∀ h' hsh tk', h'.get? dx = some (dictOf (putL name hsh (.str name tk') v es) (putN name es n)) → (∀ b o, b ≠ dx → s.heap.get? b = some o → h'.get? b = some o) → Q () { s with heap := h', toks := s.toks + 2 }) :
    wpAny (model prog w) A (setAttr (.ref x) name v) Q E s :=
  set_plain (ox := instObj C dx) (od := some (dictOf es n)) X ⟨hx, rfl, rfl, hd⟩ hs (osa_plain (s := { s with toks := s.toks + 1 }) X hx hd hp ht hh hl hz fun h' hsh tk' a b => h h' hsh tk' a b)
end
end
section
structure Wz (G : Gl) (C : Addr) : Prop extends Ww G C where
  F50 : FnAt G 50 fd50
  i50 : findIn G.K (.ref C) "__init__" = some (some (.ref 50))
  t50 : typeIn G.K (.ref 50) = some (.type "function")
  d43 : ∃ o n, G.K.lookup 43 = some o ∧ o.data = .seq #[.bool false] n
  makes : makesIn G.K C = true
  sa : findIn G.K (.ref C) "__setattr__" = some (some (.builtin "object.__setattr__"))
  po : plainOver G.K C = true
  hd : (clsIn G.K C).any (·.hasDict) = true
  t1 : takerIn G.K C "bytemap" = some none
  t2 : takerIn G.K C "_lookup" = some none
  t3 : takerIn G.K C "big" = some none
  tI : tabI ∈ G.tabs
  kp : keepIn G.K (.ref C) = true
/-- a set made of bytes -/
def aSetN (prog : Program) (w : World) (ks : List Int) : AV := ⟨fun v h => ∃ a, v = .ref a ∧ SetAt prog w ks h a, fun k ⟨a, e, o, es, ep, t, g, r⟩ => ⟨a, e, o, es, ep, t, k _ _ g, r⟩⟩
theorem putL_len (name : Str) (hsh : Int) (key v : Value) : ∀ (es : List DictEntry), (putL name hsh key v es).length ≤ es.length + 1
  | [] => by simp [putL]
  | e :: r => by
    unfold putL
    split
    · simp
    · have := putL_len name hsh key v r
      simp; omega
section
variable {c : Fx} {σ : St} {ks : List Int}
theorem CallV.set (hh : c.A.handled = none) (hb : ks.length + 1 < scanBound) : CallV c σ (.type "set") [aByt ks] (aSetN c.G.prog c.G.w ks) := fun X s vs S ha Q E q => by
  obtain ⟨_, rfl, b, t, rfl, eb⟩ := ha.one
  refine set_bytes hh hb eb S.ok fun s' k hs => q _ _ k.low ⟨_, rfl, ?_⟩
  obtain ⟨o, es, ep, t, g, r⟩ := hs
  exact ⟨o, es, ep, t, view_get g (S.new_off (Nat.le_refl _)), r⟩
theorem CallV.lenSet {n : Nat} (hn : (firstMet (fun i => ks.getD i 0) ks.length).length = n) : CallV c σ (.builtin "len") [aSetN c.G.prog c.G.w ks] (aInt n) := fun X s vs S ha Q E q => by
  obtain ⟨_, rfl, a, rfl, o, es, ep, t, g, r⟩ := ha.one
  refine len_set (G := c.G) (ks := ks) ⟨o, es, ep, t, view_sub _ _ g, r⟩ fun t k => q _ _ .toks ⟨t, by rw [hn]⟩
end
section
variable {G : Gl} {C : Addr} {sg : List Int} {big : Bool}
abbrev cI (G : Gl) (A : Around) (L : Addr) : Fx := fxOf G A true fd50 50 L
abbrev σI (x : Addr) (sg : List Int) (big : Bool) : St := ⟨[("self", aVal (.ref x)), ("charmap", aByt sg), ("big", aBool big)], []⟩
section
variable {A : Around} {L x : Addr}
theorem iCm {p : Pos} : Ev (cI G A L) (σI x sg big) (.Name "charmap" p) (aByt sg) := Ev.loc (x := "charmap") (.tail _ (.head _)) (by rfl) rfl (by decide)
theorem iSelf {p : Pos} : Ev (cI G A L) (σI x sg big) (.Name "self" p) (aVal (.ref x)) := Ev.loc (x := "self") (.head _) (by rfl) rfl (by decide)
end
set_option maxHeartbeats 4000000 in
theorem init_run (W : Wz G C) (hs : Signs sg) {A : Around} {X : List Addr} {s : Shared} {x dx : Addr} {b : Array UInt8} {t : Tok} {args : Args} (rm : Rm A 3) (ok : G.Ok s) (pv : Priv G X s)
    (hx : s.heap.get? x = some (instObj C dx)) (hd : s.heap.get? dx = some emptyDict) (hx0 : G.h₀.objs.size ≤ x) (hd0 : G.h₀.objs.size ≤ dx) (hxX : x ∉ X) (hdX : dx ∉ X) (xd : x ≠ dx) (eb : KBw.bInts b = sg)
    (bind : BindsTo s fd50 args [("self", .ref x), ("charmap", .bytes b t), ("big", .bool big)]) {Z : Result → Shared → Prop}
    (q : ∀ s', Step G true (dx :: G.T) s s' → EngAt C sg big x (view X s'.heap) → Z (.ok (.ret .none)) s') : codeAny (model G.prog G.w) A (.call (.ref 50) args) Z s := by
  obtain ⟨oc, od, osl, hl⟩ := W.F50.obj
  refine code_enter (by have := rm.d; omega) (ok.frag _ _ hl) rfl ok.nolim (codeRec_of ok.frag W.F50.code) rfl bind rfl (fun p hp => .inl ?_) (fun s₁ hI => ?_) rfl rfl rfl
  · match p, hp with
    | _, .head _ => rfl
    | _, .tail _ (.head _) => rfl
    | _, .tail _ (.tail _ (.head _)) => rfl
  have pv' : Priv G (dx :: X) s := ⟨fun t h => .tail _ (pv.1 t h), fun a h => by
    rcases List.mem_cons.mp h with h | h
    · exact ⟨_, h ▸ hd⟩
    · exact pv.2 a h⟩
  obtain ⟨S', st, nn⟩ := enter (A := A) (fl := true) (X := dx :: X) (xs := ["self", "charmap", "big"]) (Ps := [aVal (.ref x), aByt sg, aBool big]) (vs := [.ref x, .bytes b t, .bool big]) ok pv' ⟨rfl, ⟨b, t, rfl, eb⟩, rfl, trivial⟩ rfl (by decide) (fun y P hy => by have z : (y, P) ∈ ([] : List (Str × AV)) := hy; cases z) hI
  generalize hL : s.heap.objs.size = L at S' nn
  have S : Sat (cI G A L) (σI x sg big) ((cI G A L).own ++ dx :: X) s₁ := S'
  have ho : (cI G A L).own = [L] := rfl
  have rm' : Rm (cI G A L).A 2 := Rm.deeper rm
  have dL : dx ≠ L := fun z => by have := Heap.lt_size hd; rw [hL, z] at this; exact Nat.lt_irrefl _ this
  have xL : x ≠ L := fun z => by have := Heap.lt_size hx; rw [hL, z] at this; exact Nat.lt_irrefl _ this
  have tT : ∀ a, G.h₀.objs.size ≤ a → a ∉ (cI G A L).T := fun a h m => Nat.lt_irrefl _ (Nat.lt_of_lt_of_le (T_lt (mem_T m)) h)
  have hx₁ := st.keep _ _ (by simp) hx
  have hd₁ := st.keep _ _ (by simp) hd
  refine wpAny_execs_cons (if_skip (Tr.val (Ev.call (Ev.bi W.isinstance (by rfl) rfl rfl rfl (by decide)) (.cons iCm rfl (.cons (Ev.bi W.str (by rfl) rfl rfl rfl (by decide)) rfl .nil)) KeepsIt.builtin (CallV.isT kit_str)) TrV.bool (by rfl)) S fun s₂ S₂ k₂ => ?_)
  refine wpAny_execs_cons (if_skip (Tr.not (b := true) (Tr.val (Ev.call (Ev.bi W.isinstance (by rfl) rfl rfl rfl (by decide)) (.cons iCm rfl (.cons (Ev.bi W.bytes (by rfl) rfl rfl rfl (by decide)) rfl .nil)) KeepsIt.builtin (CallV.isT kit_bytes)) TrV.bool (by rfl))) S₂ fun s₃ S₃ k₃ => wpAny_execs_nil (wpAny_execs_nil ?_))
  refine wpAny_execs_cons (if_skip (Tr.cmp (Ev.call (Ev.bi W.len (by rfl) rfl rfl rfl (by decide)) (.cons iCm rfl .nil) KeepsIt.builtin (CallV.lenB (by rw [hs.len]; decide))) Ev.intC (Op2.ne (r := false) (by rw [hs.len]; rfl))) S₃ fun s₄ S₄ k₄ => wpAny_execs_nil ?_)
  refine wpAny_execs_cons (if_skip (Tr.cmp (Ev.call (Ev.bi W.len (by rfl) rfl rfl rfl (by decide)) (.cons (Ev.call (Ev.bi W.set (by rfl) rfl rfl rfl (by decide)) (.cons iCm rfl .nil) KeepsIt.type (CallV.set rm'.h (by rw [hs.len]; unfold scanBound; decide))) rfl .nil) KeepsIt.builtin (CallV.lenSet (n := 64) (by rw [firstMet_nodup _ hs.nodup, hs.len]))) Ev.intC (Op2.ne (r := false) (by rfl))) S₄ fun s₅ S₅ k₅ => wpAny_execs_nil ?_)
  have k₁₅ : Step G true (cI G A L).T s₁ s₅ := ((k₂.trans k₃).trans k₄).trans k₅
  have inX : dx ∈ (cI G A L).own ++ dx :: X := List.mem_append_right _ (.head _)
  have dO : dx ∉ (cI G A L).own := fun m => dL (List.mem_singleton.mp (ho ▸ m))
  have hx₅ := k₁₅.keep _ _ (tT x hx0) hx₁
  have hd₅ : s₅.heap.get? dx = some (dictOf [] 0) := k₁₅.keep _ _ (tT dx hd0) hd₁
  have turn : ∀ {σ : St} {s' : Shared} {es : List DictEntry} {n : Nat} {h' : Heap} {es' : List DictEntry} {n' k : Nat}, Sat (cI G A L) σ ((cI G A L).own ++ dx :: X) s' → s'.heap.get? dx = some (dictOf es n) → h'.get? dx = some (dictOf es' n') → (∀ b o, b ≠ dx → s'.heap.get? b = some o → h'.get? b = some o) →
      Step G false [dx] s' { s' with heap := h', toks := k } ∧ Sat (cI G A L) σ ((cI G A L).own ++ dx :: X) { s' with heap := h', toks := k } := by
    intro σ s' es n h' es' n' k S e e' kp
    have st : Step G false [dx] s' { s' with heap := h', toks := k } := Step.but (.head _) hd0 (fun o e2 hc vs d => by rw [e] at e2; cases e2; cases d) kp
    exact ⟨st, S.turn st inX ⟨_, e, fun v z => by cases z⟩ dO ⟨_, e'⟩⟩
  -- self.bytemap
  refine wpAny_execs_cons (plainObj_wpAny_Assign_Attribute (iCm _ s₅ S₅ _ _ fun v s₆ k₆ p₆ => iSelf _ s₆ (S₅.step k₆) _ _ fun ov s₇ k₇ e₇ => ?_) rfl)
  obtain ⟨sb, tb, rfl, eb₁⟩ := p₆
  have e₇ : ov = .ref x := e₇
  subst e₇
  have S₇ := (S₅.step k₆).step k₇
  have k₅₇ : Step G true (cI G A L).T s₅ s₇ := k₆.trans k₇
  have hx₇ := k₅₇.keep _ _ (tT x hx0) hx₅
  have hd₇ := k₅₇.keep _ _ (tT dx hd0) hd₅
  refine attr_store S₇.ok.frag hx₇ hd₇ W.sa W.po W.t1 W.hd rfl (fun _ _ => Nat.le_trans (putL_len _ _ _ _ _) (Nat.le_of_ble_eq_true rfl)) fun h₈ g1 u1 hd₈ kp₈ => ?_
  obtain ⟨k₈, S₈⟩ := turn (k := s₇.toks + 2) S₇ hd₇ hd₈ kp₈
  have hx₈ := kp₈ _ _ xd hx₇
  -- lookup
  refine wpAny_execs_cons (wpAny_Assign_Name (Ev.dictPairs (t := tabI) rfl W.tI rfl rfl rfl rfl rfl W.dict W.enumerate (by rfl) (by rfl) hs iCm (rm'.less (by decide)) rfl rfl (by decide +kernel) rfl rfl rfl rfl _ _ S₈ _ _ fun v s₉ k₉ p₉ => store_loc1 (x := "lookup") (S₈.step k₉) p₉ (fun s₁₀ k₁₀ S₁₀ => ?_) rfl (by rfl)) rfl)
  have k₁₀' : Step G true [L] s₉ s₁₀ := k₁₀
  have k₉' : Step G true (cI G A L).T _ s₉ := k₉
  have hx₁₀ := k₁₀'.keep _ _ (fun m => xL (List.mem_singleton.mp m)) (k₉'.keep _ _ (tT x hx0) hx₈)
  have hd₁₀ := k₁₀'.keep _ _ (fun m => dL (List.mem_singleton.mp m)) (k₉'.keep _ _ (tT dx hd0) hd₈)
  -- self._lookup
  refine wpAny_execs_cons (plainObj_wpAny_Assign_Attribute ((Ev.loc (c := cI G A L) (x := "lookup") (P := aMap sg) (.tail _ (.tail _ (.tail _ (.head _)))) (by rfl) rfl (by decide)) _ s₁₀ S₁₀ _ _ fun v s₁₁ k₁₁ p₁₁ => (Ev.loc (c := cI G A L) (x := "self") (P := aVal (.ref x)) (.head _) (by rfl) rfl (by decide)) _ s₁₁ (S₁₀.step k₁₁) _ _ fun ov s₁₂ k₁₂ e₁₂ => ?_) rfl)
  obtain ⟨lk, rfl, m₁₁⟩ := p₁₁
  have e₁₂ : ov = .ref x := e₁₂
  subst e₁₂
  have S₁₁ := S₁₀.step k₁₁
  have S₁₂ := S₁₁.step k₁₂
  have m₁₂ := m₁₁.keeps (S₁₁.view k₁₂)
  have k₁₀₂ : Step G true (cI G A L).T s₁₀ s₁₂ := k₁₁.trans k₁₂
  have hx₁₂ := k₁₀₂.keep _ _ (tT x hx0) hx₁₀
  have hd₁₂ := k₁₀₂.keep _ _ (tT dx hd0) hd₁₀
  refine attr_store S₁₂.ok.frag hx₁₂ hd₁₂ W.sa W.po W.t2 W.hd rfl (fun _ _ => Nat.le_trans (putL_len _ _ _ _ _) (Nat.le_of_ble_eq_true rfl)) fun h₁₃ g2 u2 hd₁₃ kp₁₃ => ?_
  obtain ⟨k₁₃, S₁₃⟩ := turn (k := s₁₂.toks + 2) S₁₂ hd₁₂ hd₁₃ kp₁₃
  have hx₁₃ := kp₁₃ _ _ xd hx₁₂
  have hv : ∀ {s s' : Shared}, Step G false [dx] s s' → ∀ b o, (view ((cI G A L).own ++ dx :: X) s.heap).get? b = some o → (view ((cI G A L).own ++ dx :: X) s'.heap).get? b = some o := fun k b o e => view_keep (Y := [dx]) (fun b m => by rw [List.mem_singleton.mp m]; exact inX) k.keep b o e
  have m₁₃ := m₁₂.keeps (hv k₁₃)
  -- self.big
  refine wpAny_execs_cons (plainObj_wpAny_Assign_Attribute ((Ev.loc (c := cI G A L) (x := "big") (P := aBool big) (.tail _ (.tail _ (.head _))) (by rfl) rfl (by decide)) _ _ S₁₃ _ _ fun v s₁₄ k₁₄ p₁₄ => (Ev.loc (c := cI G A L) (x := "self") (P := aVal (.ref x)) (.head _) (by rfl) rfl (by decide)) _ s₁₄ (S₁₃.step k₁₄) _ _ fun ov s₁₅ k₁₅' e₁₅ => ?_) rfl)
  have p₁₄ : v = .bool big := p₁₄
  subst p₁₄
  have e₁₅ : ov = .ref x := e₁₅
  subst e₁₅
  have S₁₄ := S₁₃.step k₁₄
  have S₁₅ := S₁₄.step k₁₅'
  have m₁₅ := (m₁₃.keeps (S₁₃.view k₁₄)).keeps (S₁₄.view k₁₅')
  have k₁₃₅ : Step G true (cI G A L).T _ s₁₅ := k₁₄.trans k₁₅'
  have hx₁₅ := k₁₃₅.keep _ _ (tT x hx0) hx₁₃
  have hd₁₅ := k₁₃₅.keep _ _ (tT dx hd0) hd₁₃
  refine attr_store S₁₅.ok.frag hx₁₅ hd₁₅ W.sa W.po W.t3 W.hd rfl (fun _ _ => Nat.le_trans (putL_len _ _ _ _ _) (Nat.le_of_ble_eq_true rfl)) fun h₁₆ g3 u3 hd₁₆ kp₁₆ => ?_
  obtain ⟨k₁₆, S₁₆⟩ := turn (k := s₁₅.toks + 2) S₁₅ hd₁₅ hd₁₆ kp₁₆
  have hx₁₆ := kp₁₆ _ _ xd hx₁₅
  have m₁₆ := m₁₅.keeps (hv k₁₆)
  refine wpAny_execs_nil (q _ ?_ ?_)
  · have inT : ∀ a, a ∈ (cI G A L).T → a ∈ L :: dx :: G.T := fun a m => .tail _ (.tail _ (mem_T m))
    have inD : ∀ a, a ∈ [dx] → a ∈ L :: dx :: G.T := fun a m => by rw [List.mem_singleton.mp m]; exact .tail _ (.head _)
    refine Step.less (X := L :: dx :: G.T) ((st.more fun _ m => nomatch m).trans ((k₁₅.more inT).trans ((k₅₇.more inT).trans ((k₈.up.more inD).trans ((k₉'.more inT).trans ((k₁₀'.more fun a m => by rw [List.mem_singleton.mp m]; exact .head _).trans ((k₁₀₂.more inT).trans ((k₁₃.up.more inD).trans ((k₁₃₅.more inT).trans (k₁₆.up.more inD)))))))))) fun a o m e => ?_
    rcases List.mem_cons.mp m with m | m
    · have := nn a (by rw [m]; exact .head _)
      rw [this] at e; cases e
    · exact m
  · refine ⟨sb, dx, lk, _, g1, g2, g3, u1, u2, u3, tb, eb₁, view_get hx₁₆ hxX, view_get (hd₁₆.trans rfl) hdX, m₁₆.keeps (view_less fun b o e m => List.mem_append_right _ (.tail _ m))⟩
end
end
section
theorem Rm.make {A : Around} {n : Nat} {C : Addr} {rest : List Value} (r : Rm A (n + 1)) : Rm (A.under (.builtin "type.__call__" ⟨.ref C :: rest, []⟩)) n := by
  have e1 : (Code.builtin "type.__call__" ⟨.ref C :: rest, []⟩).weight = 1 := by rfl
  have e2 : (Code.builtin "type.__call__" ⟨.ref C :: rest, []⟩).cUnits = 1 := by rfl
  exact ⟨r.h, by have := r.d; show A.depth + _ + n < _; rw [e1]; omega, by have := r.u; show A.units + _ + _ < _; rw [e2]; omega⟩
section
variable {c : Fx} {σ : St} {C : Addr} {sg : List Int} {big : Bool}
theorem eng_make (W : Wz c.G C) (hs : Signs sg) (hfl : c.fl = true) (rm : Rm c.A 4) {X : List Addr} {s : Shared} {b : Array UInt8} {t : Tok} {rest : List Value} (S : Sat c σ X s) (eb : KBw.bInts b = sg)
    (bind : ∀ x s, c.G.Ok s → BindsTo s fd50 ⟨.ref x :: rest, []⟩ [("self", .ref x), ("charmap", .bytes b t), ("big", .bool big)]) {Q E : Value → Shared → Prop}
    (q : ∀ v s', Step c.G c.fl c.T s s' → (aEng C sg big).p v (view X s'.heap) → Q v s') : wpAny c.M c.A (call (.ref C) rest) Q E s := by
  refine wpAny_call ?_
  have k₁ : Step c.G false [] s { s with heap := (s.heap.push emptyDict).push (instObj C s.heap.objs.size) } := Step.heap (t := s.toks) fun b o e => Heap.get?_push_of_some _ (Heap.get?_push_of_some _ e)
  have S₁ := S.step k₁.low
  have hz : (s.heap.push emptyDict).objs.size = s.heap.objs.size + 1 := Heap.size_push ..
  have hd₁ : ((s.heap.push emptyDict).push (instObj C s.heap.objs.size)).get? s.heap.objs.size = some emptyDict := Heap.get?_push_of_some _ (Heap.get?_push_size _ rfl)
  have hx₁ : ((s.heap.push emptyDict).push (instObj C s.heap.objs.size)).get? (s.heap.objs.size + 1) = some (instObj C s.heap.objs.size) := by rw [← hz]; exact Heap.get?_push_size _ rfl
  obtain ⟨h, g, d, tk, os⟩ := s
  refine make_core (makes_of S.ok.frag W.makes) (looks_findIn S.ok.frag W.i50) (fun self => bind_fn S.ok.frag self W.t50) (.inl rfl) ?_
  refine init_run W hs (Rm.make rm) S₁.ok S₁.priv hx₁ hd₁ (Nat.le_trans S.ok.low (Nat.le_succ _)) S.ok.low (S.new_off (Nat.le_succ _)) (S.new_off (Nat.le_refl _)) (Nat.succ_ne_self _) eb (bind _ _ S₁.ok) fun s' k en => ?_
  refine ⟨rfl, q _ s' ?_ ⟨_, rfl, en⟩⟩
  have hT : c.T = c.G.T := by unfold Fx.T; rw [hfl]; rfl
  rw [hT, hfl]
  refine Step.less (X := h.objs.size :: c.G.T) ((k₁.up.more fun _ m => nomatch m).trans k) fun a o m e => ?_
  rcases List.mem_cons.mp m with m | m
  · rw [m] at e; exact absurd (Heap.lt_size e) (Nat.lt_irrefl _)
  · exact m
theorem CallV.eng1 (W : Wz c.G C) (hs : Signs sg) (hfl : c.fl = true) (rm : Rm c.A 4) : CallV c σ (.ref C) [aByt sg] (aEng C sg false) := fun X s vs S ha Q E q => by
  obtain ⟨_, rfl, b, t, rfl, eb⟩ := ha.one
  refine eng_make (t := t) W hs hfl rm S eb (fun x s ok => ?_) q
  obtain ⟨o, n, hl, hd⟩ := W.d43
  exact BindsTo.of_defaults (T := 43) rfl (ok.frag _ _ hl) hd rfl rfl
theorem CallV.eng2 (W : Wz c.G C) (hs : Signs sg) (hfl : c.fl = true) (rm : Rm c.A 4) : CallV c σ (.ref C) [aByt sg, aBool big] (aEng C sg big) := fun X s vs S ha Q E q => by
  obtain ⟨_, _, rfl, ⟨b, t, rfl, eb⟩, e⟩ := ha.two
  have e : _ = Value.bool big := e
  subst e
  refine eng_make (t := t) W hs hfl rm S eb (fun x s ok => ?_) q
  obtain ⟨o, n, hl, hd⟩ := W.d43
  exact BindsTo.of_defaults (T := 43) rfl (ok.frag _ _ hl) hd rfl rfl
theorem KeepsIt.eng (W : Wz c.G C) : KeepsIt c (.ref C) := fun s ok => keeps_K W.kp s.heap ok.frag
end
end
section
abbrev lawB : List Stmt := bd (nth topBody 11)
section
variable {G : Gl} {C : Addr} {ns sg og oc so mo ei : List Int} {v : Int}
abbrev cL (G : Gl) (A : Around) (L : Addr) : Fx := fxOf G A true fd289 289 L
abbrev y0 (ns : List Int) : St := ⟨[("script", aInts ns)], []⟩
abbrev y1 (ns : List Int) (v : Int) : St := ⟨[("script", aInts ns), ("first", aInt v)], []⟩
abbrev y2 (ns : List Int) (v : Int) (sg : List Int) : St := ⟨[("script", aInts ns), ("first", aInt v), ("signs", aByt sg)], []⟩
abbrev y3 (ns : List Int) (v : Int) (sg og : List Int) : St := ⟨[("script", aInts ns), ("first", aInt v), ("signs", aByt sg)], [("other", aByt og)]⟩
abbrev loc4 (C : Addr) (ns : List Int) (v : Int) (sg : List Int) : List (Str × AV) := [("script", aInts ns), ("first", aInt v), ("signs", aByt sg), ("great", aEng C sg true), ("little", aEng C sg false)]
abbrev y4 (C : Addr) (ns : List Int) (v : Int) (sg og : List Int) : St := ⟨loc4 C ns v sg, [("other", aByt og)]⟩
abbrev y5 (C : Addr) (ns : List Int) (v : Int) (sg og oc : List Int) : St := ⟨loc4 C ns v sg, [("other", aByt og), ("octets", aInts oc)]⟩
variable {A : Around} {L : Addr}
set_option maxHeartbeats 1000000 in
theorem p0 (hz : ns.length ≤ 63) : Nx1 (cL G A L) (y0 ns) (nth lawB 0) (y1 ns (ns.getD 0 0)) := by
  refine Nx1.assignS (x := "first") (P := aInt (ns.getD 0 0)) ?_ (Sto.loc rfl (by rfl)) rfl
  cases ns with
  | nil => exact Ev.ife_f (Tr.val (Ev.loc (x := "script") (.head _) (by rfl) rfl (by decide)) (TrV.ints rfl (by simp)) (by rfl)) Ev.intC
  | cons a r => exact Ev.ife_t (Tr.val (Ev.loc (x := "script") (.head _) (by rfl) rfl (by decide)) (TrV.ints rfl (by omega)) (by rfl)) (Ev.sub (Ev.loc (x := "script") (.head _) (by rfl) rfl (by decide)) Ev.intC (Sub2.ints (by decide) (by decide) rfl))
set_option maxHeartbeats 1000000 in
theorem p1 (W : Wz G C) (rm : Rm A 19) : Nx1 (cL G A L) (y1 ns v) (nth lawB 1) (y2 ns v (mapOf v)) :=
  Nx1.assignS (x := "signs") (P := aByt (mapOf v)) (Ev.call (Ev.glob W.g265 (by rfl) rfl rfl (by decide)) (.cons (Ev.loc (x := "first") (.tail _ (.head _)) (by rfl) rfl (by decide)) rfl .nil) (KeepsIt.fn W.F265) (CallV.fn (f265 W.toWw) (fun z => by cases z) ((Rm.deeper rm).less (by decide)))) (Sto.loc rfl (by rfl)) rfl
set_option maxHeartbeats 1000000 in
theorem p2 (W : Wz G C) (rm : Rm A 19) : Nx1 (cL G A L) (y2 ns v sg) (nth lawB 2) (y3 ns v sg (mapOf (v.fdiv 32768))) :=
  Nx1.assignS (x := "other") (P := aByt (mapOf (v.fdiv 32768))) (Ev.call (Ev.glob W.g265 (by rfl) rfl rfl (by decide)) (.cons (Ev.bin (Ev.loc (x := "first") (.tail _ (.head _)) (by rfl) rfl (by decide)) Ev.intC (Op2.div (by decide) (PyProof.noPylong_small (by decide)))) rfl .nil) (KeepsIt.fn W.F265) (CallV.fn (f265 W.toWw) (fun z => by cases z) ((Rm.deeper rm).less (by decide)))) (Sto.cel rfl (by rfl) (.tail _ (.tail _ (.head _)))) rfl
set_option maxHeartbeats 1000000 in
theorem p3 (W : Wz G C) (hs : Signs sg) (rm : Rm A 19) : Nx1 (cL G A L) (y3 ns v sg og) (nth lawB 3) (y4 C ns v sg og) :=
  Nx1.swapped (x := "little") (y := "great") (P := aEng C sg false) (P' := aEng C sg true) rm.h (Ev.tup (.cons (Ev.call (Ev.glob W.gC (by rfl) rfl rfl (by decide)) (.cons (Ev.loc (x := "signs") (.tail _ (.tail _ (.head _))) (by rfl) rfl (by decide)) rfl .nil) (KeepsIt.eng W) (CallV.eng1 W hs rfl ((Rm.deeper rm).less (by decide)))) rfl (.cons (Ev.call (Ev.glob W.gC (by rfl) rfl rfl (by decide)) (.cons (Ev.loc (x := "signs") (.tail _ (.tail _ (.head _))) (by rfl) rfl (by decide)) rfl (.cons Ev.boolC rfl .nil)) (KeepsIt.eng W) (CallV.eng2 W hs rfl ((Rm.deeper rm).less (by decide)))) rfl .nil)) (by rw [sizeLine_eq]; show 2 ≤ _; decide)) (Sto.loc rfl (by rfl)) (Sto.loc rfl (by rfl)) rfl rfl
set_option maxHeartbeats 1000000 in
theorem p4 (hz : ns.length ≤ 63) (rm : Rm A 19) : Nx1 (cL G A L) (y4 C ns v sg og) (nth lawB 4) (y5 C ns v sg og ((List.range (cut (some 1) (some 35) ns).length).map fun i => ((cut (some 1) (some 35) ns).getD i 0).fmod 256)) := by
  have hl : (cut (some 1) (some 35) ns).length ≤ 63 := by unfold cut; rw [List.length_take, List.length_drop]; omega
  refine Nx1.assignS (x := "octets") (Ev.listcomp (n := (cut (some 1) (some 35) ns).length) (r := fun i => ((cut (some 1) (some 35) ns).getD i 0).fmod 256) (Pi := fun i => aInt ((cut (some 1) (some 35) ns).getD i 0)) (cl := []) (cs := []) (Ev.sub (Ev.loc (x := "script") (.head _) (by rfl) rfl (by decide)) (Ev.slice (.int Ev.intC) (.int Ev.intC) .none) (Sub2.lslice (ops := fun o i => [i, o]) (by omega))) (iter_ints rm.h) (by rw [sizeLine_eq]; omega) rfl (by decide +kernel) rfl (by decide +kernel) (by rfl) (fun y a h => nomatch h) (fun p hp => nomatch hp) (fun i C' hi => ?_) (fun _ => rfl)) (Sto.cel rfl (by rfl) (.tail _ (.head _))) rfl
  exact Ev.bin (Ev.loc (x := "number") (.head _) (by rfl) rfl (by decide)) Ev.intC (Op2.mod (by decide))
end
end
section
theorem cut_mem {lo hi : Option Int} {l : List Int} {x : Int} (h : x ∈ cut lo hi l) : x ∈ l := List.mem_of_mem_drop (List.mem_of_mem_take h)
theorem cut_octs {lo hi : Option Int} {l : List Int} (h : Octs l) : Octs (cut lo hi l) := fun x m => h x (cut_mem m)
theorem cut_len {lo hi : Option Int} {l : List Int} : (cut lo hi l).length ≤ l.length := by unfold cut; rw [List.length_take, List.length_drop]; omega
/-- how many octets go by threes -/
def thr (oc : List Int) : Int := if (oc.length : Int).fdiv 3 * 3 < 18 then (oc.length : Int).fdiv 3 * 3 else 18
def soL (oc : List Int) : List Int := cut none (some (thr oc)) oc
def moL (oc : List Int) : List Int := cut (some ((soL oc).length : Int)) none oc
def eiL (oc : List Int) : List Int := (List.range 8).map fun (i : Nat) => if oc.isEmpty then 7 * ((0 : Int) + i * 1) else oc.getD ((((0 : Int) + i * 1).fmod oc.length).toNat) 0
theorem thr_rng (oc : List Int) : 0 ≤ thr oc ∧ thr oc ≤ oc.length ∧ thr oc ≤ 18 ∧ thr oc % 3 = 0 := by
  unfold thr
  have e : (oc.length : Int).fdiv 3 = ((oc.length / 3 : Nat) : Int) := fdiv_nat oc.length 3
  rw [e]
  split <;> omega
theorem so_len (oc : List Int) : ((soL oc).length : Int) = thr oc := by
  have r := thr_rng oc
  unfold soL cut
  show ((List.take (clipAt oc.length (thr oc) - 0) (List.drop 0 oc)).length : Int) = _
  rw [clip_in r.1, List.length_take, List.drop_zero]
  omega
theorem so_3 (oc : List Int) : (soL oc).length % 3 = 0 := by have := so_len oc; have := thr_rng oc; omega
theorem so_40 (oc : List Int) : (soL oc).length ≤ 40 := by have := so_len oc; have := thr_rng oc; omega
theorem ei_len (oc : List Int) : (eiL oc).length = 8 := by simp [eiL]
theorem at_mod {oc : List Int} {k : Int} (h : oc ≠ []) : 0 ≤ k.fmod oc.length ∧ oc[(k.fmod oc.length).toNat]? = some (oc.getD (k.fmod oc.length).toNat 0) := by
  have hp : 0 < oc.length := List.length_pos_iff.mpr h
  have r := mod_rng k (show (0 : Int) < oc.length by omega)
  have : (k.fmod oc.length).toNat < oc.length := by omega
  exact ⟨r.1, by rw [List.getD_eq_getElem?_getD, List.getElem?_eq_getElem this]; rfl⟩
theorem ei_octs {oc : List Int} (h : Octs oc) : Octs (eiL oc) := fun x m => by
  obtain ⟨i, hi, rfl⟩ := List.mem_map.mp m
  have hi := List.mem_range.mp hi
  split
  · omega
  · rename_i z
    have hne : oc ≠ [] := fun e => z (by rw [e]; rfl)
    have := (at_mod (k := (0 : Int) + i * 1) hne).2
    exact h _ (List.mem_of_getElem? this)
section
variable {G : Gl} {C : Addr} {ns sg og oc : List Int} {v : Int}
abbrev y6 (C : Addr) (ns : List Int) (v : Int) (sg og oc : List Int) : St := ⟨[("script", aInts ns), ("first", aInt v), ("signs", aByt sg), ("great", aEng C sg true), ("little", aEng C sg false), ("some", aByt (soL oc))], [("other", aByt og), ("octets", aInts oc)]⟩
abbrev y7 (C : Addr) (ns : List Int) (v : Int) (sg og oc : List Int) : St := ⟨[("script", aInts ns), ("first", aInt v), ("signs", aByt sg), ("great", aEng C sg true), ("little", aEng C sg false), ("some", aByt (soL oc)), ("more", aByt (moL oc))], [("other", aByt og), ("octets", aInts oc)]⟩
abbrev y8 (C : Addr) (ns : List Int) (v : Int) (sg og oc : List Int) : St := ⟨[("script", aInts ns), ("first", aInt v), ("signs", aByt sg), ("great", aEng C sg true), ("little", aEng C sg false), ("some", aByt (soL oc)), ("more", aByt (moL oc)), ("eight", aByt (eiL oc))], [("other", aByt og), ("octets", aInts oc)]⟩
variable {A : Around} {L : Addr}
theorem yOct5 {p : Pos} : Ev (cL G A L) (y5 C ns v sg og oc) (.Name "octets" p) (aInts oc) := Ev.cell (x := "octets") (.tail _ (.head _)) (by rfl) rfl (by decide)
set_option maxHeartbeats 1000000 in
theorem p5 (W : Wz G C) (ho : Octs oc) (hl : oc.length ≤ 63) (rm : Rm A 19) : Nx1 (cL G A L) (y5 C ns v sg og oc) (nth lawB 5) (y6 C ns v sg og oc) :=
  Nx1.assignS (x := "some") (P := aByt (soL oc)) (Ev.call (Ev.bi W.bytes (by rfl) rfl rfl rfl (by decide)) (.cons (Ev.sub yOct5 (Ev.slice .none (.int (Ev.call (Ev.bi W.min (by rfl) rfl rfl rfl (by decide)) (.cons Ev.intC rfl (.cons (Ev.bin (Ev.bin (Ev.call (Ev.bi W.len (by rfl) rfl rfl rfl (by decide)) (.cons yOct5 rfl .nil) KeepsIt.builtin (CallV.lenI (by omega))) Ev.intC (Op2.div (by decide) (PyProof.noPylong_small (by decide)))) Ev.intC (Op2.mul (.of_right (by decide)))) rfl .nil)) KeepsIt.builtin (CallV.min2 (r := thr oc) rm.h rfl))) .none) (Sub2.lslice (ops := fun o i => [i, o]) (by omega))) rfl .nil) KeepsIt.type (CallV.bytes rm.h (cut_octs ho) (Nat.le_trans cut_len (by omega)))) (Sto.loc rfl (by rfl)) rfl
set_option maxHeartbeats 1000000 in
theorem p6 (W : Wz G C) (ho : Octs oc) (hl : oc.length ≤ 63) (rm : Rm A 19) : Nx1 (cL G A L) (y6 C ns v sg og oc) (nth lawB 6) (y7 C ns v sg og oc) :=
  Nx1.assignS (x := "more") (P := aByt (moL oc)) (Ev.call (Ev.bi W.bytes (by rfl) rfl rfl rfl (by decide)) (.cons (Ev.sub (Ev.cell (x := "octets") (P := aInts oc) (.tail _ (.head _)) (by rfl) rfl (by decide)) (Ev.slice (.int (Ev.call (Ev.bi W.len (by rfl) rfl rfl rfl (by decide)) (.cons (Ev.loc (x := "some") (P := aByt (soL oc)) (.tail _ (.tail _ (.tail _ (.tail _ (.tail _ (.head _)))))) (by rfl) rfl (by decide)) rfl .nil) KeepsIt.builtin (CallV.lenB (by have := so_40 oc; omega)))) .none .none) (Sub2.lslice (ops := fun o i => [i, o]) (by omega))) rfl .nil) KeepsIt.type (CallV.bytes rm.h (cut_octs ho) (Nat.le_trans cut_len (by omega)))) (Sto.loc rfl (by rfl)) rfl
set_option maxHeartbeats 1000000 in
theorem p7 (W : Wz G C) (ho : Octs oc) (hl : oc.length ≤ 63) (rm : Rm A 19) : Nx1 (cL G A L) (y7 C ns v sg og oc) (nth lawB 7) (y8 C ns v sg og oc) := by
  refine Nx1.assignS (x := "eight") (P := aByt (eiL oc)) (Ev.call (Ev.bi W.bytes (by rfl) rfl rfl rfl (by decide)) (.cons (Ev.listcomp (n := 8) (Pi := fun i => aInt ((0 : Int) + (i : Nat) * 1)) (r := fun (i : Nat) => if oc.isEmpty then 7 * ((0 : Int) + i * 1) else oc.getD ((((0 : Int) + i * 1).fmod oc.length).toNat) 0) (cl := [("octets", L + 2)]) (cs := [("octets", aInts oc)]) (Ev.call (Ev.bi W.range (by rfl) rfl rfl rfl (by decide)) (.cons Ev.intC rfl .nil) KeepsIt.type CallV.range1) (iter_range rm.h (by decide +kernel) (by decide +kernel)) (by rw [sizeLine_eq]; decide) rfl (by decide +kernel) rfl (by decide +kernel) (by rfl) (lookup_one rfl) (fun p hp => by rw [List.mem_singleton.mp hp]; exact ⟨.tail _ (.head _), by rfl⟩) (fun i C' hi => ?_) (fun _ => rfl)) rfl .nil) KeepsIt.type (CallV.bytes (ks := eiL oc) rm.h (ei_octs ho) (by rw [ei_len]; decide))) (Sto.loc rfl (by rfl)) rfl
  by_cases z : oc = []
  · subst z
    exact Ev.ife_f (Tr.val (Ev.cell (x := "octets") (.head _) (by rfl) rfl (by decide)) (TrV.ints rfl (by simp)) (by rfl)) (Ev.bin Ev.intC (Ev.loc (x := "k") (.head _) (by rfl) rfl (by decide)) (Op2.mul (.of_left (by decide))))
  · have hb : oc.isEmpty = false := by cases oc with | nil => exact absurd rfl z | cons => rfl
    have m := at_mod (k := (0 : Int) + i * 1) z
    have hp : 0 < oc.length := List.length_pos_iff.mpr z
    have r := mod_rng ((0 : Int) + i * 1) (show (0 : Int) < oc.length by omega)
    rw [hb]
    exact Ev.ife_t (Tr.val (Ev.cell (x := "octets") (.head _) (by rfl) rfl (by decide)) (TrV.ints (by rw [hb]; rfl) (by omega)) (by rfl)) (Ev.sub (Ev.cell (x := "octets") (.head _) (by rfl) rfl (by decide)) (Ev.bin (Ev.loc (x := "k") (.head _) (by rfl) rfl (by decide)) (Ev.call (Ev.bi W.len (by rfl) rfl rfl rfl (by decide)) (.cons (Ev.cell (x := "octets") (.head _) (by rfl) rfl (by decide)) rfl .nil) KeepsIt.builtin (CallV.lenI (by omega))) (Op2.mod (by omega))) (Sub2.ints m.1 (by omega) m.2))
end
end
section
section
variable {G : Gl} {C : Addr} {ns sg og oc : List Int} {v : Int} {big : Bool}
variable {A : Around} {L : Addr}
theorem sE_oct (hs : Signs sg) (l : List Int) (h : Octs l) : Octs (sE sg big l) := sg_byte hs (outE_range big l h)
set_option maxHeartbeats 1000000 in
theorem p8 (W : Wz G C) (hs : Signs sg) (ho : Octs oc) (rm : Rm A 19) : Nx1 (cL G A L) (y8 C ns v sg og oc) (nth lawB 8) (y8 C ns v sg og oc) := by
  have z := so_40 oc
  have hso : Octs (soL oc) := cut_octs ho
  have e : sE sg false (soL oc) = (sE sg true (soL oc).reverse).reverse := by unfold sE; rw [sgOf_rev, ← outE_turn _ hso (so_3 oc)]
  have lE := sE_len (sg := sg) (big := true) (soL oc).reverse
  exact Nx1.if_f (Tr.cmp (Ev.meth (Ev.loc (x := "little") (P := aEng C sg false) (.tail _ (.tail _ (.tail _ (.tail _ (.head _))))) (by rfl) rfl (by decide)) (.cons (Ev.loc (x := "some") (P := aByt (soL oc)) (.tail _ (.tail _ (.tail _ (.tail _ (.tail _ (.head _)))))) (by rfl) rfl (by decide)) rfl .nil) W.cls W.m91.1 W.m91.2.1 W.m91.2.2 (eB W.toWw hs hso (by omega)) (fun _ => rfl) ((Rm.deeper rm).less (by decide)) (fun _ _ _ _ _ _ _ _ _ => rfl) rfl (by decide) rfl) (Ev.sub (Ev.meth (Ev.loc (x := "great") (P := aEng C sg true) (.tail _ (.tail _ (.tail _ (.head _)))) (by rfl) rfl (by decide)) (.cons (Ev.sub (Ev.loc (x := "some") (P := aByt (soL oc)) (.tail _ (.tail _ (.tail _ (.tail _ (.tail _ (.head _)))))) (by rfl) rfl (by decide)) (Ev.slice .none .none (.int (Ev.un Ev.intC Op1.neg))) (Sub2.brev (ops := fun o i => [o, i]) (by omega))) rfl .nil) W.cls W.m91.1 W.m91.2.1 W.m91.2.2 (eB W.toWw hs (fun x m => hso x (List.mem_reverse.mp m)) (by simp; omega)) (fun _ => rfl) ((Rm.deeper rm).less (by decide)) (fun _ _ _ _ _ _ _ _ _ => rfl) rfl (by decide) rfl) (Ev.slice .none .none (.int (Ev.un Ev.intC Op1.neg))) (Sub2.brev (ops := fun o i => [o, i]) (by simp at lE; omega))) (Op2.neB (by rw [decide_eq_true e]; rfl))) Nx.nil

abbrev lB : List Stmt := forB (nth lawB 9)
abbrev z0 (C : Addr) (ns : List Int) (v : Int) (sg og oc : List Int) (big : Bool) : St := ⟨[("script", aInts ns), ("first", aInt v), ("signs", aByt sg), ("great", aEng C sg true), ("little", aEng C sg false), ("some", aByt (soL oc)), ("more", aByt (moL oc)), ("eight", aByt (eiL oc)), ("engine", aEng C sg big)], [("other", aByt og), ("octets", aInts oc)]⟩
abbrev z1 (C : Addr) (ns : List Int) (v : Int) (sg og oc : List Int) (big : Bool) : St := ⟨[("script", aInts ns), ("first", aInt v), ("signs", aByt sg), ("great", aEng C sg true), ("little", aEng C sg false), ("some", aByt (soL oc)), ("more", aByt (moL oc)), ("eight", aByt (eiL oc)), ("engine", aEng C sg big), ("written", aByt (sE sg big (soL oc ++ moL oc)))], [("other", aByt og), ("octets", aInts oc)]⟩
abbrev z2 (C : Addr) (ns : List Int) (v : Int) (sg og oc : List Int) (big : Bool) : St := ⟨[("script", aInts ns), ("first", aInt v), ("signs", aByt sg), ("great", aEng C sg true), ("little", aEng C sg false), ("some", aByt (soL oc)), ("more", aByt (moL oc)), ("eight", aByt (eiL oc)), ("engine", aEng C sg big), ("written", aByt (sE sg big (soL oc ++ moL oc)))], [("other", aByt og), ("octets", aInts oc), ("row", aRow sg)]⟩
theorem m6 {α : Type} {a b c d e x : α} {r : List α} : x ∈ a :: b :: c :: d :: e :: x :: r := .tail _ (.tail _ (.tail _ (.tail _ (.tail _ (.head _)))))
theorem m7 {α : Type} {a b c d e f x : α} {r : List α} : x ∈ a :: b :: c :: d :: e :: f :: x :: r := .tail _ m6
theorem m8 {α : Type} {a b c d e f g x : α} {r : List α} : x ∈ a :: b :: c :: d :: e :: f :: g :: x :: r := .tail _ m7
theorem m9 {α : Type} {a b c d e f g h x : α} {r : List α} : x ∈ a :: b :: c :: d :: e :: f :: g :: h :: x :: r := .tail _ m8
theorem m10 {α : Type} {a b c d e f g h i x : α} {r : List α} : x ∈ a :: b :: c :: d :: e :: f :: g :: h :: i :: x :: r := .tail _ m9
theorem q_len (hz : oc.length ≤ 34) : (soL oc ++ moL oc).length ≤ 100 := by
  have := so_40 oc
  have : (moL oc).length ≤ oc.length := cut_len
  rw [List.length_append]; omega
set_option maxHeartbeats 1000000 in
theorem q0 (W : Wz G C) (hs : Signs sg) (ho : Octs oc) (hz : oc.length ≤ 34) (rm : Rm A 19) : Nx1 (cL G A L) (z0 C ns v sg og oc big) (nth lB 0) (z0 C ns v sg og oc big) := by
  have hm : (moL oc).length ≤ oc.length := cut_len
  exact Nx1.if_f (Tr.not (b := true) (Tr.val (Ev.call (Ev.glob W.g277 (by rfl) rfl rfl (by decide)) (.cons (Ev.loc (x := "engine") (P := aEng C sg big) m9 (by rfl) rfl (by decide)) rfl (.cons (Ev.big (Ev.loc (x := "engine") (P := aEng C sg big) m9 (by rfl) rfl (by decide)) W.cls (by rfl)) rfl (.cons (Ev.loc (x := "some") (P := aByt (soL oc)) m6 (by rfl) rfl (by decide)) rfl (.cons (Ev.loc (x := "more") (P := aByt (moL oc)) m7 (by rfl) rfl (by decide)) rfl (.cons (Ev.loc (x := "eight") (P := aByt (eiL oc)) m8 (by rfl) rfl (by decide)) rfl .nil))))) (KeepsIt.fn W.F277) (CallV.fn (f277 W.toWw hs (cut_octs ho) (cut_octs ho) (ei_octs ho) (ei_len oc) (so_40 oc) (by omega) (so_3 oc)) (fun _ => rfl) ((Rm.deeper rm).less (by decide)))) TrV.bool (by rfl))) Nx.nil
set_option maxHeartbeats 1000000 in
theorem q1 (W : Wz G C) (hs : Signs sg) (ho : Octs oc) (hz : oc.length ≤ 34) (rm : Rm A 19) : Nx1 (cL G A L) (z0 C ns v sg og oc big) (nth lB 1) (z1 C ns v sg og oc big) := by
  have hm : (moL oc).length ≤ oc.length := cut_len
  have h4 := so_40 oc
  exact Nx1.assignS (x := "written") (P := aByt (sE sg big (soL oc ++ moL oc))) (Ev.meth (Ev.loc (x := "engine") (P := aEng C sg big) m9 (by rfl) rfl (by decide)) (.cons (Ev.bin (Ev.loc (x := "some") (P := aByt (soL oc)) m6 (by rfl) rfl (by decide)) (Ev.loc (x := "more") (P := aByt (moL oc)) m7 (by rfl) rfl (by decide)) (Op2.addB (by omega))) rfl .nil) W.cls W.m91.1 W.m91.2.1 W.m91.2.2 (eB W.toWw hs (octs_app (cut_octs ho) (cut_octs ho)) (q_len (by omega))) (fun _ => rfl) ((Rm.deeper rm).less (by decide)) (fun _ _ _ _ _ _ _ _ _ => rfl) rfl (by decide) rfl) (Sto.loc rfl (by rfl)) rfl
set_option maxHeartbeats 1000000 in
theorem q2 (W : Wz G C) (hs : Signs sg) (rm : Rm A 19) : Nx1 (cL G A L) (z1 C ns v sg og oc big) (nth lB 2) (z2 C ns v sg og oc big) :=
  Nx1.assignS (x := "row") (P := aRow sg) (Ev.call (Ev.bi W.list (by rfl) rfl rfl rfl (by decide)) (.cons (Ev.loc (x := "signs") (P := aByt sg) (.tail _ (.tail _ (.head _))) (by rfl) rfl (by decide)) rfl .nil) KeepsIt.type (CallV.listBytes rm.h (by rw [hs.len, sizeLine_eq]; decide))) (Sto.cel rfl (by rfl) (.head _)) rfl
theorem sgOf_at (sg ds : List Int) (i : Nat) : (sgOf sg ds).getD i (sg.getD 0 0) = sg.getD (ds.getD i 0).toNat 0 := by
  unfold sgOf
  rw [List.getD_eq_getElem?_getD, List.getElem?_map]
  cases h : ds[i]? with
  | none => rw [List.getD_eq_getElem?_getD (l := ds), h]; rfl
  | some d => rw [List.getD_eq_getElem?_getD (l := ds), h]; rfl
set_option maxHeartbeats 1000000 in
theorem q3 (W : Wz G C) (hs : Signs sg) (hg : Signs og) (ho : Octs oc) (hz : oc.length ≤ 34) (rm : Rm A 19) : Nx1 (cL G A L) (z2 C ns v sg og oc big) (nth lB 3) (z2 C ns v sg og oc big) := by
  have hm : (moL oc).length ≤ oc.length := cut_len
  have h4 := so_40 oc
  have hsm := octs_app (cut_octs (lo := none) (hi := some (thr oc)) ho) (cut_octs (lo := some ((soL oc).length : Int)) (hi := none) ho)
  have hq : (soL oc ++ moL oc).length ≤ 100 := q_len (by omega)
  have hr := outE_range big (soL oc ++ moL oc) hsm
  have hn := outE_len big (soL oc ++ moL oc)
  have hw : (sE sg big (soL oc ++ moL oc)).length = (outE big (soL oc ++ moL oc)).length := by unfold sE sgOf; rw [List.length_map]
  have fin : (List.range (sE sg big (soL oc ++ moL oc)).length).map (fun i => og.getD ((outE big (soL oc ++ moL oc)).getD i 0).toNat 0) = sE og big (soL oc ++ moL oc) := by
    rw [hw]
    unfold sE sgOf
    apply List.ext_getElem
    · simp
    · intro i h1 h2
      simp at h1
      simp [h1]
  refine Nx1.if_f (Tr.cmp (Ev.meth (Ev.call (Ev.glob W.gC (by rfl) rfl rfl (by decide)) (.cons (Ev.cell (x := "other") (P := aByt og) (.head _) (by rfl) rfl (by decide)) rfl (.cons (Ev.big (Ev.loc (x := "engine") (P := aEng C sg big) m9 (by rfl) rfl (by decide)) W.cls (by rfl)) rfl .nil)) (KeepsIt.eng W) (CallV.eng2 W hg rfl ((Rm.deeper rm).less (by decide)))) (.cons (Ev.bin (Ev.loc (x := "some") (P := aByt (soL oc)) m6 (by rfl) rfl (by decide)) (Ev.loc (x := "more") (P := aByt (moL oc)) m7 (by rfl) rfl (by decide)) (Op2.addB (by omega))) rfl .nil) W.cls W.m91.1 W.m91.2.1 W.m91.2.2 (eB W.toWw hg hsm hq) (fun _ => rfl) ((Rm.deeper rm).less (by decide)) (fun _ _ _ _ _ _ _ _ _ => rfl) rfl (by decide) rfl) (Ev.call (Ev.bi W.bytes (by rfl) rfl rfl rfl (by decide)) (.cons (Ev.listcomp (n := (sE sg big (soL oc ++ moL oc)).length) (Pi := fun i => aInt ((sE sg big (soL oc ++ moL oc)).getD i 0)) (r := fun i => og.getD ((outE big (soL oc ++ moL oc)).getD i 0).toNat 0) (cl := [("row", L + 3), ("other", L + 1)]) (cs := [("row", aRow sg), ("other", aByt og)]) (Ev.loc (x := "written") (P := aByt (sE sg big (soL oc ++ moL oc))) m10 (by rfl) rfl (by decide)) (iter_bytes rm.h) (by rw [hw, sizeLine_eq]; omega) rfl (by decide +kernel) rfl (by decide +kernel) (by rfl) (lookup_two rfl rfl) (fun p hp => ?_) (fun i C' hi => ?_) (fun _ => rfl)) rfl .nil) KeepsIt.type ?_) (Op2.neB (b := sE og big (soL oc ++ moL oc)) (by rw [decide_eq_true rfl]; rfl))) Nx.nil
  · match p, hp with
    | _, .head _ => exact ⟨.tail _ (.tail _ (.head _)), by rfl⟩
    | _, .tail _ (.head _) => exact ⟨.head _, by rfl⟩
  · have hi' : i < (outE big (soL oc ++ moL oc)).length := hw ▸ hi
    have ed : (outE big (soL oc ++ moL oc)).getD i 0 = (outE big (soL oc ++ moL oc))[i] := by rw [List.getD_eq_getElem?_getD, List.getElem?_eq_getElem hi']; rfl
    have d64 := hr _ (List.getElem_mem hi')
    rw [← ed] at d64
    generalize hd : (outE big (soL oc ++ moL oc)).getD i 0 = d at d64
    have ew : (sE sg big (soL oc ++ moL oc)).getD i 0 = sg.getD d.toNat 0 := by
      unfold sE sgOf
      rw [List.getD_eq_getElem?_getD, List.getElem?_map, List.getElem?_eq_getElem hi', ← hd, ed]
      rfl
    rw [ew]
    have dl : d.toNat < sg.length := by rw [hs.len]; omega
    have es : sg[d.toNat]? = some (sg.getD d.toNat 0) := by rw [List.getD_eq_getElem?_getD, List.getElem?_eq_getElem dl]; rfl
    exact Ev.sub (Ev.cell (x := "other") (P := aByt og) (.tail _ (.head _)) (by rfl) rfl (by decide)) (Ev.index (ns := sg) (k := sg.getD d.toNat 0) (j := d.toNat) (Ev.cell (x := "row") (P := aRow sg) (.head _) (by rfl) rfl (by decide)) (Ev.loc (x := "sign") (.head _) (by rfl) rfl (by decide)) es (fun m hm e => absurd (hs.inj _ _ _ e es) (Nat.ne_of_lt hm)) (by rw [hs.len]; decide) rfl rfl rfl) (Sub2.bytes (by rw [hg.len]; decide) (by omega) (by rw [hg.len]; omega) (by rw [Int.toNat_natCast]))
  · rw [fin]
    exact CallV.bytes rm.h (sE_oct hg _ hsm) (by unfold sE sgOf; rw [List.length_map]; omega)
end
end
section
section
variable {G : Gl} {C : Addr} {ns sg og oc : List Int} {v : Int} {big : Bool}
variable {A : Around} {L : Addr}
theorem mem_pre {α : Type} {l m r : List α} (e : l ++ r = m) : ∀ p, p ∈ l → p ∈ m := fun p h => e ▸ List.mem_append_left _ h
set_option maxHeartbeats 1000000 in
theorem qAll (W : Wz G C) (hs : Signs sg) (hg : Signs og) (ho : Octs oc) (hz : oc.length ≤ 34) (rm : Rm A 19) : Nx (cL G A L) (z0 C ns v sg og oc big) lB (y8 C ns v sg og oc) :=
  Nx.weaken (Nx.cons (q0 W hs ho hz rm) (Nx.cons (q1 W hs ho hz rm) (Nx.cons (q2 W hs rm) (Nx.cons (q3 W hs hg ho hz rm) Nx.nil)))) (mem_pre (r := [("engine", aEng C sg big), ("written", aByt (sE sg big (soL oc ++ moL oc)))]) rfl) (mem_pre (r := [("row", aRow sg)]) rfl)
set_option maxHeartbeats 1000000 in
theorem p9 (W : Wz G C) (hs : Signs sg) (hg : Signs og) (ho : Octs oc) (hz : oc.length ≤ 34) (rm : Rm A 19) : Nx1 (cL G A L) (y8 C ns v sg og oc) (nth lawB 9) (y8 C ns v sg og oc) :=
  Nx1.for (c := cL G A L) (n := 2) (x := "engine") (PI := aList [aEng C sg false, aEng C sg true]) (Pi := fun i => [aEng C sg false, aEng C sg true].getD i aNone) (σ := fun _ => y8 C ns v sg og oc) (τ := fun i => z0 C ns v sg og oc (if i = 0 then false else true)) (body := lB)
    (Ev.list (.cons (Ev.loc (x := "little") (P := aEng C sg false) (.tail _ (.tail _ (.tail _ (.tail _ (.head _))))) (by rfl) rfl (by decide)) rfl (.cons (Ev.loc (x := "great") (P := aEng C sg true) (.tail _ (.tail _ (.tail _ (.head _)))) (by rfl) rfl (by decide)) rfl .nil)) (by rw [sizeLine_eq]; show 2 ≤ _; decide)) (iter_list rm.h) (fun i hi => match i, hi with
      | 0, _ => Sto.loc rfl (by rfl)
      | 1, _ => Sto.loc rfl (by rfl)) (fun i hi => match i, hi with
      | 0, _ => qAll W hs hg ho hz rm
      | 1, _ => qAll W hs hg ho hz rm) (fun _ => rfl)
abbrev nB : List Stmt := forB (nth lawB 10)
abbrev x0 (C : Addr) (ns : List Int) (v : Int) (sg og oc : List Int) (k : Int) : St := ⟨[("script", aInts ns), ("first", aInt v), ("signs", aByt sg), ("great", aEng C sg true), ("little", aEng C sg false), ("some", aByt (soL oc)), ("more", aByt (moL oc)), ("eight", aByt (eiL oc)), ("number", aInt k)], [("other", aByt og), ("octets", aInts oc)]⟩
set_option maxHeartbeats 1000000 in
theorem n0 (W : Wz G C) (hs : Signs sg) {k : Int} (rm : Rm A 19) : Nx1 (cL G A L) (x0 C ns v sg og oc k) (nth nB 0) (x0 C ns v sg og oc k) :=
  Nx1.if_f (Tr.not (b := true) (Tr.val (Ev.call (Ev.glob W.g284 (by rfl) rfl rfl (by decide)) (.cons (Ev.loc (x := "little") (P := aEng C sg false) (.tail _ (.tail _ (.tail _ (.tail _ (.head _))))) (by rfl) rfl (by decide)) rfl (.cons (Ev.loc (x := "great") (P := aEng C sg true) (.tail _ (.tail _ (.tail _ (.head _)))) (by rfl) rfl (by decide)) rfl (.cons (Ev.loc (x := "signs") (P := aByt sg) (.tail _ (.tail _ (.head _))) (by rfl) rfl (by decide)) rfl (.cons (Ev.loc (x := "number") (P := aInt k) m9 (by rfl) rfl (by decide)) rfl .nil)))) (KeepsIt.fn W.F284) (CallV.fn (f284 W.toWw hs) (fun z => by cases z) ((Rm.deeper rm).less (by decide)))) TrV.bool (by rfl))) Nx.nil
set_option maxHeartbeats 1000000 in
theorem p10 (W : Wz G C) (hs : Signs sg) (hn : ns.length ≤ 63) (rm : Rm A 19) : Nx1 (cL G A L) (y8 C ns v sg og oc) (nth lawB 10) (y8 C ns v sg og oc) := by
  have hc : (cut (some 1) (some 6) ns).length ≤ ns.length := cut_len
  exact Nx1.for (c := cL G A L) (n := ([v] ++ cut (some 1) (some 6) ns).length) (x := "number") (PI := aInts ([v] ++ cut (some 1) (some 6) ns)) (Pi := fun i => aInt (([v] ++ cut (some 1) (some 6) ns).getD i 0)) (σ := fun _ => y8 C ns v sg og oc) (τ := fun i => x0 C ns v sg og oc (([v] ++ cut (some 1) (some 6) ns).getD i 0)) (body := nB)
    (Ev.bin ((Ev.row (ns := [v]) (.cons (Ev.loc (x := "first") (P := aInt v) (.tail _ (.head _)) (by rfl) rfl (by decide)) rfl .nil) (by rw [sizeLine_eq]; show 1 ≤ _; decide)).le row_ints) (Ev.sub (Ev.loc (x := "script") (P := aInts ns) (.head _) (by rfl) rfl (by decide)) (Ev.slice (.int Ev.intC) (.int Ev.intC) .none) (Sub2.lslice (ops := fun o i => [i, o]) (by omega))) (Op2.addI (by simp; omega))) (iter_ints rm.h) (fun i hi => Sto.loc rfl (by rfl)) (fun i hi => Nx.weaken (Nx.cons (n0 W hs rm) Nx.nil) (mem_pre (r := [("number", aInt (([v] ++ cut (some 1) (some 6) ns).getD i 0))]) rfl) (fun p h => h)) (fun _ => rfl)
set_option maxHeartbeats 2000000 in
theorem f289 (W : Wz G C) (hn : ns.length ≤ 63) : FnV G true 20 289 [aInts ns] (aBool true) := by
  refine FnV.mk (xs := ["script"]) (σ := y0 ns) W.F289 rfl rfl ?_ rfl (by decide) (by rfl) (by rfl) (fun L p hp => nomatch hp) rfl rfl rfl ?_
  · intro vs hv
    match vs, hv with
    | [a], _ => rfl
  · intro A L rm
    have hc : (cut (some 1) (some 35) ns).length ≤ 34 := by
      unfold cut
      show (List.take (clipAt ns.length 35 - clipAt ns.length 1) (List.drop (clipAt ns.length 1) ns)).length ≤ 34
      rw [clip_in (by decide), clip_in (by decide), List.length_take, List.length_drop]
      simp only [show Int.toNat 35 = 35 from rfl, show Int.toNat 1 = 1 from rfl]
      omega
    have ho : Octs ((List.range (cut (some 1) (some 35) ns).length).map fun i => ((cut (some 1) (some 35) ns).getD i 0).fmod 256) := fun x m => by
      obtain ⟨i, _, rfl⟩ := List.mem_map.mp m
      exact fmod256 _
    have hz : ((List.range (cut (some 1) (some 35) ns).length).map fun i => ((cut (some 1) (some 35) ns).getD i 0).fmod 256).length ≤ 34 := by simpa using hc
    have hs := map_signs (ns.getD 0 0)
    have hg := map_signs ((ns.getD 0 0).fdiv 32768)
    exact Rt.cons (p0 hn) (Rt.cons (p1 W rm) (Rt.cons (p2 W rm) (Rt.cons (p3 W hs rm) (Rt.cons (p4 hn rm) (Rt.cons (p5 W ho (by omega) rm) (Rt.cons (p6 W ho (by omega) rm) (Rt.cons (p7 W ho (by omega) rm) (Rt.cons (p8 W hs ho rm) (Rt.cons (p9 W hs hg ho hz rm) (Rt.cons (p10 W hs hn rm) (Rt.here (Rt1.ret Ev.boolC))))))))))))
end
end
section
theorem frag_mem {h : Heap} {as : List Addr} {a : Addr} {o : Obj} (m : (a, o) ∈ fragOf h as) : h.get? a = some o ∧ o.cls ≠ .none := by
  obtain ⟨b, _, e⟩ := List.mem_filterMap.mp m
  obtain ⟨o', e1, e2⟩ := Option.bind_eq_some_iff.mp e
  split at e2
  · rename_i z
    cases e2
    exact ⟨e1, by simpa using z⟩
  · cases e2
theorem frag_in (h : Heap) (as : List Addr) : (fragOf h as).In h := fun a o e => (frag_mem (lookup_mem e)).1
theorem frag_cls (h : Heap) (as : List Addr) : ((fragOf h as).all fun p => p.2.cls != .none) = true := by
  rw [List.all_eq_true]
  rintro ⟨a, o⟩ m
  simpa using (frag_mem m).2
end
open PySem.W.X
section
theorem pick {α β : Type} {l : List α} {f g : α → β} (h : l.map f = l.map g) {x : α} (m : x ∈ l) : f x = g x := List.map_inj_left.mp h x m
theorem look_some {K : Frag} {a : Addr} {o : Obj} (m : (a, o) ∈ K) : ∃ o', K.lookup a = some o' := by
  induction K with
  | nil => cases m
  | cons p r ih =>
    obtain ⟨n, c⟩ := p
    rw [List.lookup_cons]
    cases hb : a == n with
    | true => exact ⟨c, rfl⟩
    | false =>
      rcases List.mem_cons.mp m with m | m
      · cases m; simp at hb
      · exact ih m
theorem frag_look {h : Heap} {as : List Addr} {a : Addr} {o : Obj} (m : a ∈ as) (e : h.get? a = some o) (c : o.cls ≠ .none) : (fragOf h as).lookup a = some o := by
  have mm : (a, o) ∈ fragOf h as := List.mem_filterMap.mpr ⟨a, m, by rw [e]; simp [c]⟩
  obtain ⟨o', e'⟩ := look_some mm
  have := frag_in h as a o' e'
  rw [e] at this; cases this
  exact e'
/-- what is known of the heap at the call -/
structure Hyp (w : World) (s₀ s₁ : Shared) (mg mb : Str → Option Value) : Prop where
  y : obs1 s₀ = val1 w
  keeps : ∀ b o, s₀.heap.get? b = some o → s₁.heap.get? b = some o
  ns : s₁.heap.Ns mainGlobals mg
  nb : s₁.heap.Ns builtinsNs mb
  lim : s₁.heap.NoLimit
  last : ∃ a o, s₁.heap.get? a = some o ∧ s₁.heap.objs.size ≤ a + 1
  bmain : ∃ bm ob, mg "__builtins__" = some (.ref bm) ∧ bm ≠ builtinsNs ∧ s₁.heap.get? bm = some ob ∧ ob.cls = .type "module" ∧ ob.dict = some builtinsNs ∧ ob.data = .plain
  gens : s₁.gens = #[]
section
variable {w : World} {s₀ s₁ : Shared} {mg mb : Str → Option Value}
theorem Hyp.fn (H : Hyp w s₀ s₁ mg mb) {p : Addr × FuncData} (m : p ∈ fns) : s₀.heap.get? p.1 = some (fnObj p.2) := pick (f := fun p : Addr × FuncData => s₀.heap.get? p.1) (g := fun p => some (fnObj p.2)) (congrArg Seen.funs H.y) m
theorem Hyp.nsCls (H : Hyp w s₀ s₁ mg mb) {a : Addr} (m : a ∈ [mainGlobals, builtinsNs]) : ∃ o, s₀.heap.get? a = some o ∧ o.cls = .type "dict" := by
  have z : [mainGlobals, builtinsNs].map (fun a => (s₀.heap.get? a).map (·.cls)) = [mainGlobals, builtinsNs].map fun _ => some (Value.type "dict") := congrArg Seen.nss H.y
  exact Option.map_eq_some_iff.mp (pick z m)
theorem Hyp.tab (H : Hyp w s₀ s₁ mg mb) {t : Tab} (m : t ∈ tabs3) : s₁.heap.get? t.P = some { cls := .none, data := .fields #[] } :=
  H.keeps _ _ (pick (f := fun t : Tab => s₀.heap.get? t.P) (g := fun _ => some { cls := .none, data := .fields #[] }) (congrArg Seen.ttab H.y) m)
theorem code_of {c P : Addr} {h : Heap} (e : codeChk c P (h.get? c) = true) (hP : h.get? P = some { cls := .none, data := .fields #[] }) : h.TableAt c P #[] ∧ h.IsCode c P #[] := by
  unfold codeChk at e
  split at e
  · rename_i cl d vs sl ho
    simp only [Bool.and_eq_true, beq_iff_eq, bne_iff_ne] at e
    obtain ⟨⟨⟨⟨⟨⟨e1, e2⟩, e3⟩, e4⟩, e5⟩, e6⟩, e7⟩ := e
    refine ⟨⟨⟨_, vs, ho, e1, rfl, e2⟩, hP⟩, ?_⟩
    have e2' : vs.getD 11 .none = .ref P := by rw [Array.getD_eq_getD_getElem?, e2]; rfl
    split at e3
    · rename_i x1 t1 q1
      split at e4
      · rename_i x2 t2 q2
        split at e5
        · rename_i x3 q3
          split at e6
          · rename_i x4 t4 q4
            exact ⟨_, vs, _, _, _, _, _, _, _, _, ho, rfl, e2', q1, q2, q3, q4, hP, rfl, trivial, e7⟩
          · cases e6
        · cases e5
      · cases e4
    · cases e3
  · cases e
theorem Hyp.codeT (H : Hyp w s₀ s₁ mg mb) {t : Tab} (m : t ∈ tabs3) : s₁.heap.TableAt t.c t.P #[] ∧ s₁.heap.IsCode t.c t.P #[] := by
  have z := pick (f := fun t : Tab => codeChk t.c t.P (s₀.heap.get? t.c)) (g := fun _ => true) (congrArg Seen.tcod H.y) m
  have hP := pick (f := fun t : Tab => s₀.heap.get? t.P) (g := fun _ => some { cls := .none, data := .fields #[] }) (congrArg Seen.ttab H.y) m
  obtain ⟨a, b⟩ := code_of z hP
  exact ⟨a.keeps H.keeps, b.keeps H.keeps⟩
/-- what stands in a name space -/
theorem ns_look {a : Addr} {m : Str → Option Value} (n : s₁.heap.Ns a m) (k : ∀ b o, s₀.heap.get? b = some o → s₁.heap.get? b = some o) (e : ∃ o, s₀.heap.get? a = some o) (x : Str) : m x = s₀.heap.nsMap a x := by
  obtain ⟨o, es, ep, g, d, _, f⟩ := n
  obtain ⟨o', g'⟩ := e
  have := k _ _ g'
  rw [g] at this; cases this
  unfold Heap.nsMap
  rw [g']
  simp only [d]
  exact (f x).symm
def mkGl (H : Hyp w s₀ s₁ mg mb) : Gl where
  prog := pw
  w := w
  K := fragOf s₀.heap addrs
  h₀ := s₁.heap
  mg := mg
  mb := mb
  tabs := tabs3
  kin := fun a o e => H.keeps _ _ (frag_in _ _ a o e)
  kcls := frag_cls _ _
  ns := H.ns
  nb := H.nb
  gcls := fun o e => by
    obtain ⟨o', e', c⟩ := H.nsCls (a := mainGlobals) (.head _)
    have := H.keeps _ _ e'
    rw [e] at this; cases this
    rw [c]; simp
  bcls := fun o e => by
    obtain ⟨o', e', c⟩ := H.nsCls (a := builtinsNs) (.tail _ (.head _))
    have := H.keeps _ _ e'
    rw [e] at this; cases this
    rw [c]; simp
  lim := H.lim
  last := H.last
  bmain := fun t ht => by
    obtain ⟨bm, ob, a, b, c, d, e, f⟩ := H.bmain
    refine ⟨bm, ob, a, b, fun z => ?_, fun z => ?_, c, d, e, f⟩
    · obtain ⟨o, es, ep, g, dd, _⟩ := H.ns
      rw [z, g] at c; cases c
      rw [dd] at f; cases f
    · rw [z, H.tab ht] at c; cases c; cases f
  tinj := fun t ht t' ht' e => by
    match t, ht, t', ht' with
    | _, .head _, _, .head _ => rfl
    | _, .tail _ (.head _), _, .tail _ (.head _) => rfl
    | _, .tail _ (.tail _ (.head _)), _, .tail _ (.tail _ (.head _)) => rfl
    | _, .head _, _, .tail _ (.head _) => exact absurd e (by decide)
    | _, .head _, _, .tail _ (.tail _ (.head _)) => exact absurd e (by decide)
    | _, .tail _ (.head _), _, .head _ => exact absurd e (by decide)
    | _, .tail _ (.head _), _, .tail _ (.tail _ (.head _)) => exact absurd e (by decide)
    | _, .tail _ (.tail _ (.head _)), _, .head _ => exact absurd e (by decide)
    | _, .tail _ (.tail _ (.head _)), _, .tail _ (.head _) => exact absurd e (by decide)
  tlt := fun t ht => ⟨Heap.lt_size (H.tab ht), (by decide : ∀ t ∈ tabs3, t.P ≠ cStatics) t ht, by
    obtain ⟨⟨o, vs, e, _⟩, _⟩ := (H.codeT ht).1
    exact Heap.lt_size e⟩
theorem mk_ok (H : Hyp w s₀ s₁ mg mb) : (mkGl H).Ok s₁ := by
  refine ⟨.of_keep fun _ _ e => e, rfl, fun t ht => ?_, ?_⟩
  · obtain ⟨a, b⟩ := H.codeT ht
    exact ⟨t.c, #[], #[], a, a, b, .inl rfl⟩
  · rw [H.gens]; exact .of_eq rfl
theorem mk_fn (H : Hyp w s₀ s₁ mg mb) {f : Addr} {fd : FuncData} (m : (f, fd) ∈ fns) (ha : f ∈ addrs) : FnAt (mkGl H) f fd ∧ typeIn (mkGl H).K (.ref f) = some (.type "function") := by
  have e := H.fn m
  have l : (fragOf s₀.heap addrs).lookup f = some (fnObj fd) := frag_look ha e (by simp [fnObj])
  refine ⟨⟨⟨_, _, _, l⟩, ?_⟩, ?_⟩
  · exact pick (f := fun p : Addr × FuncData => codeIn (fragOf s₀.heap addrs) p.2.code p.2.qualname) (g := fun _ => true) (congrArg Seen.code H.y) m
  · show ((fragOf s₀.heap addrs).lookup f).map _ = _
    rw [l]; rfl
theorem mk_meth (H : Hyp w s₀ s₁ mg mb) {x : Str} {f : Addr} {fd : FuncData} (n : (x, f) ∈ meths) (m : (f, fd) ∈ fns) (ha : f ∈ addrs) : MethAt (mkGl H) 256 x f fd :=
  ⟨pick (f := fun p : Str × Addr => findIn (fragOf s₀.heap addrs) (.ref 256) p.1) (g := fun p => some (some (.ref p.2))) (congrArg Seen.meth H.y) n, (mk_fn H m ha).2, (mk_fn H m ha).1⟩
theorem mk_glob (H : Hyp w s₀ s₁ mg mb) {x : Str} {f : Addr} (n : (x, f) ∈ glbs) : mg x = some (.ref f) := by
  obtain ⟨o, e, _⟩ := H.nsCls (a := mainGlobals) (.head _)
  rw [ns_look H.ns H.keeps ⟨o, e⟩ x]
  exact pick (f := fun p : Str × Addr => s₀.heap.nsMap mainGlobals p.1) (g := fun p => some (.ref p.2)) (congrArg Seen.glob H.y) n
theorem mk_blt (H : Hyp w s₀ s₁ mg mb) {x : Str} {v : Value} (n : (x, v) ∈ blts) : BltAt (mkGl H) x v := by
  obtain ⟨o, e, _⟩ := H.nsCls (a := mainGlobals) (.head _)
  obtain ⟨o', e', _⟩ := H.nsCls (a := builtinsNs) (.tail _ (.head _))
  have z := pick (f := fun p : Str × Value => (s₀.heap.nsMap mainGlobals p.1, s₀.heap.nsMap builtinsNs p.1)) (g := fun p => (none, some p.2)) (congrArg Seen.blt H.y) n
  exact ⟨(ns_look H.ns H.keeps ⟨o, e⟩ x).trans (congrArg Prod.fst z), (ns_look H.nb H.keeps ⟨o', e'⟩ x).trans (congrArg Prod.snd z)⟩
end
end
section
section
variable {w : World} {s₀ s₁ : Shared} {mg mb : Str → Option Value}
theorem Hyp.oks (H : Hyp w s₀ s₁ mg mb) : plainGet (fragOf s₀.heap addrs) 256 "" = true ∧ hasDictIn (fragOf s₀.heap addrs) 256 = true ∧ noGet (fragOf s₀.heap addrs) (some .none) = true ∧ makesIn (fragOf s₀.heap addrs) 256 = true ∧ plainOver (fragOf s₀.heap addrs) 256 = true ∧ (clsIn (fragOf s₀.heap addrs) 256).any (·.hasDict) = true ∧ keepIn (fragOf s₀.heap addrs) (.ref 256) = true := by
  have z : [plainGet (fragOf s₀.heap addrs) 256 "", hasDictIn (fragOf s₀.heap addrs) 256, noGet (fragOf s₀.heap addrs) (some .none), makesIn (fragOf s₀.heap addrs) 256, plainOver (fragOf s₀.heap addrs) 256, (clsIn (fragOf s₀.heap addrs) 256).any (·.hasDict), keepIn (fragOf s₀.heap addrs) (.ref 256)] = [true, true, true, true, true, true, true] := congrArg Seen.oks H.y
  have n : ∀ {l m : List Bool} (i : Nat), l = m → l[i]? = m[i]? := fun i e => by rw [e]
  exact ⟨Option.some.inj (n 0 z), Option.some.inj (n 1 z), Option.some.inj (n 2 z), Option.some.inj (n 3 z), Option.some.inj (n 4 z), Option.some.inj (n 5 z), Option.some.inj (n 6 z)⟩
theorem Hyp.attr (H : Hyp w s₀ s₁ mg mb) {x : Str} (m : x ∈ names3) : findIn (fragOf s₀.heap addrs) (.ref 256) x = some (some .none) := pick (f := fun x => findIn (fragOf s₀.heap addrs) (.ref 256) x) (g := fun _ => some (some .none)) (congrArg Seen.attr H.y) m
theorem Hyp.take (H : Hyp w s₀ s₁ mg mb) {x : Str} (m : x ∈ names3) : takerIn (fragOf s₀.heap addrs) 256 x = some none := pick (f := fun x => takerIn (fragOf s₀.heap addrs) 256 x) (g := fun _ => some none) (congrArg Seen.take H.y) m
theorem mk_cls (H : Hyp w s₀ s₁ mg mb) : ClsOk (mkGl H).K 256 := by
  obtain ⟨a, b, c, _⟩ := H.oks
  exact ⟨a, b, ⟨_, H.attr (.head _), c⟩, ⟨_, H.attr (.tail _ (.head _)), c⟩, ⟨_, H.attr (.tail _ (.tail _ (.head _))), c⟩⟩
theorem at_ {α : Type} {l : List α} {x : α} (i : Nat) (h : l[i]? = some x) : x ∈ l := List.mem_of_getElem? h
theorem mk_wd (H : Hyp w s₀ s₁ mg mb) : Wd (mkGl H) 256 where
  cls := mk_cls H
  m57 := mk_meth H (at_ 0 rfl) (at_ 0 rfl) (by decide)
  m64 := mk_meth H (at_ 1 rfl) (at_ 1 rfl) (by decide)
  m71 := mk_meth H (at_ 2 rfl) (at_ 2 rfl) (by decide)
  m78 := mk_meth H (at_ 3 rfl) (at_ 3 rfl) (by decide)
  m91 := mk_meth H (at_ 4 rfl) (at_ 4 rfl) (by decide)
  m98 := mk_meth H (at_ 5 rfl) (at_ 5 rfl) (by decide)
  m105 := mk_meth H (at_ 6 rfl) (at_ 6 rfl) (by decide)
  m112 := mk_meth H (at_ 7 rfl) (at_ 7 rfl) (by decide)
  m119 := mk_meth H (at_ 8 rfl) (at_ 8 rfl) (by decide)
  m126 := mk_meth H (at_ 9 rfl) (at_ 9 rfl) (by decide)
  tE := at_ 0 rfl
  tD := at_ 1 rfl
  isinstance := mk_blt H (at_ 0 rfl)
  bytes := mk_blt H (at_ 1 rfl)
  str := mk_blt H (at_ 2 rfl)
  len := mk_blt H (at_ 3 rfl)
  list := mk_blt H (at_ 4 rfl)
  divmod := mk_blt H (at_ 5 rfl)
  range := mk_blt H (at_ 6 rfl)
  min := mk_blt H (at_ 7 rfl)
  zip := mk_blt H (at_ 8 rfl)
  set := mk_blt H (at_ 9 rfl)
  dict := mk_blt H (at_ 10 rfl)
  enumerate := mk_blt H (at_ 11 rfl)
  reversed := mk_blt H (at_ 12 rfl)
theorem mk_wi (H : Hyp w s₀ s₁ mg mb) : Wi (mkGl H) 256 where
  toWd := mk_wd H
  m222 := mk_meth H (at_ 12 rfl) (at_ 12 rfl) (by decide)
  m229 := mk_meth H (at_ 13 rfl) (at_ 13 rfl) (by decide)
  m234 := mk_meth H (at_ 14 rfl) (at_ 14 rfl) (by decide)
  m239 := mk_meth H (at_ 15 rfl) (at_ 15 rfl) (by decide)
  m246 := mk_meth H (at_ 16 rfl) (at_ 16 rfl) (by decide)
  m253 := mk_meth H (at_ 17 rfl) (at_ 17 rfl) (by decide)
theorem mk_wt (H : Hyp w s₀ s₁ mg mb) : Wt (mkGl H) 256 where
  toWi := mk_wi H
  m168 := mk_meth H (at_ 10 rfl) (at_ 10 rfl) (by decide)
  m175 := mk_meth H (at_ 11 rfl) (at_ 11 rfl) (by decide)
theorem mk_ww (H : Hyp w s₀ s₁ mg mb) : Ww (mkGl H) 256 where
  toWt := mk_wt H
  g265 := mk_glob H (at_ 0 rfl)
  g272 := mk_glob H (at_ 1 rfl)
  g277 := mk_glob H (at_ 2 rfl)
  g284 := mk_glob H (at_ 3 rfl)
  gC := mk_glob H (at_ 4 rfl)
  F265 := (mk_fn H (at_ 19 rfl) (by decide)).1
  F272 := (mk_fn H (at_ 20 rfl) (by decide)).1
  F277 := (mk_fn H (at_ 21 rfl) (by decide)).1
  F284 := (mk_fn H (at_ 22 rfl) (by decide)).1
  F289 := (mk_fn H (at_ 23 rfl) (by decide)).1
theorem mk_wz (H : Hyp w s₀ s₁ mg mb) : Wz (mkGl H) 256 := by
  obtain ⟨_, _, _, d, e, f, g⟩ := H.oks
  have M : MethAt (mkGl H) 256 "__init__" 50 fd50 := mk_meth H (at_ 18 rfl) (at_ 18 rfl) (by decide)
  have dd : s₀.heap.get? 43 = some { cls := .type "tuple", data := .seq #[.bool false] } := congrArg Seen.dflt H.y
  exact { toWw := mk_ww H, F50 := M.2.2, i50 := M.1, t50 := M.2.1, d43 := ⟨_, _, frag_look (by decide) dd (by simp), rfl⟩, makes := d, sa := congrArg Seen.seta H.y, po := e, hd := f, t1 := H.take (.head _), t2 := H.take (.tail _ (.head _)), t3 := H.take (.tail _ (.tail _ (.head _))), tI := at_ 2 rfl, kp := g }
end
end
section
theorem said0 : PySem.Challenge.rw_ji0069_01.wellSaid = true := by kernel_rfl
theorem rm_caller : Rm callerA 20 := ⟨rfl, by decide +kernel, by decide +kernel⟩
section
variable {w : World} {s₀ s₁ : Shared} {mg mb : Str → Option Value}
theorem run_law (H : Hyp w s₀ s₁ mg mb) {ns : List Int} {l : Addr} {vs : List Value} (hL : s₁.heap.IsList l vs.toArray) (hI : IntsAre vs ns) (hn : ns.length ≤ 63) (hl0 : s₀.heap.get? l = none) {Q E : Value → Shared → Prop}
    (q : ∀ s', OldK s₁.heap s'.heap → s'.os = s₁.os → AllBare s'.gens → Q (.bool true) s') : wpAny (model pw w) callerA (call (.ref 289) [.ref l]) Q E s₁ := by
  have ok := mk_ok H
  have pv : Priv (mkGl H) (mkGl H).T s₁ := ⟨fun t h => h, fun a h => Sat.T_ex ok h⟩
  have hlT : l ∉ (mkGl H).T := fun m => by
    obtain ⟨t, ht, e⟩ := List.mem_map.mp m
    have hP := pick (f := fun t : Tab => s₀.heap.get? t.P) (g := fun _ => some { cls := .none, data := .fields #[] }) (congrArg Seen.ttab H.y) ht
    rw [show t.P = l from e, hl0] at hP
    cases hP
  have hv : AllP [aInts ns] [.ref l] (view (mkGl H).T s₁.heap) := by
    obtain ⟨o, e, c, n, d⟩ := hL
    exact ⟨⟨l, vs, rfl, ⟨o, view_get e hlT, c, n, d⟩, hI⟩, trivial⟩
  refine wpAny_call (f289 (mk_wz H) hn callerA (mkGl H).T s₁ [.ref l] rm_caller ok pv hv _ fun v s' k p => ?_)
  have p : v = .bool true := p
  subst p
  exact q s' (k.ok ok).old k.os (k.ok ok).bare
theorem laid_last {R : WRecords} {ns : List Int} {vals : List Value} {as : List Addr} {l : Addr} (L : Laid R w s₀ s₁ [.list (ofPys (ns.map PyData.int))] vals as) (e : vals = [.ref l]) : s₁.heap.objs.size = l + 1 ∧ s₀.heap.get? l = none := by
  obtain ⟨ord, _, h⟩ := L.laid
  unfold layAllW at h
  split at h
  · rename_i a ha
    unfold layAllW at h
    simp only [Option.some.injEq, Prod.mk.injEq] at h
    obtain ⟨h1, h2⟩ := h
    unfold layW at ha
    split at ha
    · rename_i r hr
      simp only [Option.some.injEq] at ha
      subst ha
      rw [e] at h1
      simp only [List.cons.injEq, Value.ref.injEq, and_true] at h1
      have hh := lay_ints ns s₀ r hr
      refine ⟨?_, ?_⟩
      · rw [← h2, ← h1]
        show (Heap.push _ _).objs.size = _
        rw [Heap.size_push]
      · rw [← h1, hh]
        exact none_of_ge (Nat.le_refl _)
    · cases ha
  · cases h
end
end
end Mine
open PySem.W.X
set_option maxHeartbeats 4000000 in
theorem PySem.Challenge.cw_ji0069_01_holds : PySem.Challenge.rw_ji0069_01.Holds := by
  refine holds_law Mine.said0 fun said => ?_
  refine holds_openX (r := OpenLaw.row PySem.Challenge.rw_ji0069_01) (q := Mine.qw) (loose := Mine.lw) (Xt := fun _ => true) (XP := fun _ _ => True) (Yf := Mine.obs1) (Ya := Mine.val1) (N := 3466) Mine.left1 (fun _ _ => trivial) (fun _ _ _ _ _ => trivial) (by rfl) (by rfl) (by rfl) (fun _ _ => recFacts_nil rfl) (by rfl) said (by decide +kernel) ⟨rfl, rfl, rfl, rfl, rfl, by decide +kernel⟩ ?hw ?hc
  case hw => w_witness2
  case hc =>
    intro w s₀ s₁ mg mb G Y fa o pm cd doc dV kV ho hd hcd hD hmg hg args vals as Lx hpre hlay hrd hwl hlo
    clear ho hd hcd hD
    have Kx := Lx.keeps
    have Bx := G.T.bmain
    have Gx := G.T.g
    have Hx := G.T.b
    have Nx := G.T.nolimit
    clear G
    wrow_args hpre hlay hrd hwl hlo
    rename_i ns _ _ _ _ _ _ l vs _ hL _ _ _ hI _ hcond _
    obtain ⟨hz, hl0⟩ := Mine.laid_last Lx rfl
    have H : Mine.Hyp w s₀ s₁ mg mb := ⟨Y, Kx, Gx, Hx, Nx, (let ⟨ob, e, _⟩ := hL; ⟨l, ob, e, Nat.le_of_eq hz⟩), Bx, hg⟩
    have hfa : fa = 289 := by
      have e := Mine.mk_glob H (Mine.at_ 5 rfl)
      exact Value.ref.inj (Option.some.inj (hmg.symm.trans e))
    subst hfa
    refine Mine.run_law H hL hI (by omega) hl0 fun s' old os bare => ?_
    exact ⟨.inl ⟨.bool true, .bool true, [], rfl, fun _ => rfl, .bool _, (by wrow_post), fun _ => ⟨List.nodup_nil, fun a h => nomatch h⟩⟩, old, os, bare⟩
