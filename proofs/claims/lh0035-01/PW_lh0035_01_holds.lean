import PyProof.Rows.All
import Wide.All
import OpenK.AllK
import Wide.FinOn
import Lean
import PySem.Challenge.RW_lh0035_01
open PySem PySem.W PySem.Calls PyProof.Rows
set_option Elab.async false
set_option linter.all false
set_option genSizeOfSpec false
set_option bootstrap.genMatcherCode false
set_option maxRecDepth 100000
set_option maxHeartbeats 8000000
namespace Mine
set_option tactic.hygienic false in
theorem said1 : PySem.Challenge.rw_lh0035_01.wellSaid = true := by kernel_rfl
set_option tactic.hygienic false in
theorem t1 (H : PySem.Challenge.rw_lh0035_01.row.wellSaid = true → PySem.Challenge.rw_lh0035_01.row.Holds) : PySem.Challenge.rw_lh0035_01.Holds := holds_law said1 H
section
local macro_rules | `(tactic| o_head $_) => `(tactic| skip)
set_option tactic.hygienic false in
theorem kmk (h : PySem.Challenge.rw_lh0035_01.row.Holds) : PySem.Challenge.rw_lh0035_01.row.Holds := by
  k_head
  exact h
end
abbrev PR : Program := PySem.Challenge.rw_lh0035_01.row.prog
noncomputable def qv : Program := view PySem.Challenge.pw_lh0035_01 [35]
noncomputable def loose : List Str := [Str.ofString "POW_2_381", Str.ofString "POW_2_382", Str.ofString "POW_2_383", Str.ofString "_wall", Str.ofString "is_inf", Str.ofString "is_on_curve", Str.ofString "normalize", Str.ofString "get_flags", Str.ofString "is_point_at_infinity", Str.ofString "modular_squareroot_in_FQ2", Str.ofString "compress_G2", Str.ofString "decompress_G2", Str.ofString "prime_field_inv", Str.ofString "deg", Str.ofString "FQP", Str.ofString "FQ2", Str.ofString "_law_marks", Str.ofString "_law_curves", Str.ofString "_law_eighths", Str.ofString "_law_at", Str.ofString "_law_mul", Str.ofString "_law_plus", Str.ofString "_law_root", Str.ofString "_law_made", Str.ofString "_law_opposite", Str.ofString "_law_mark", Str.ofString "_law_told", Str.ofString "_law_due", Str.ofString "_law_numbers", Str.ofString "_law_written"]
noncomputable def kas : List Addr := [2, 3, 15, 17, 18, 20, 21, 22, 24, 25, 27, 28, 29, 31, 32, 34, 35, 36, 38, 39, 41, 42, 43, 45, 46, 48, 49, 50, 51, 53, 54, 56, 57, 58, 60, 61, 63, 64, 65, 67, 68, 70, 71, 72, 74, 75, 77, 78, 79, 81, 82, 84, 85, 86, 88, 89, 91, 92, 100, 103, 104, 105, 107, 108, 110, 111, 112, 115, 116, 117, 120, 121, 122, 124, 125, 127, 128, 129, 132, 133, 134, 136, 137, 139, 140, 141, 144, 145, 146, 148, 149, 151, 152, 153, 156, 157, 158, 161, 162, 163, 165, 166, 168, 169, 170, 172, 173, 175, 176, 177, 179, 180, 182, 183, 184, 187, 188, 189, 191, 192, 194, 195, 196, 197, 199, 200, 202, 203, 204, 206, 207, 209, 210, 211, 212, 213, 214, 215, 218, 225, 227, 228, 230, 231, 232, 234, 235, 237, 238, 239, 240, 241, 242, 245, 247, 248, 250, 251, 252, 253, 254, 255, 256, 257, 258, 259, 260, 261, 262, 263, 264, 265, 266, 267, 268, 269, 270, 271, 272, 273, 274, 275, 276, 277, 278, 279, 280, 281, 282, 283, 284, 285, 286, 287, 288, 289, 290, 291, 292, 294, 295, 297, 298, 299, 301, 302, 304, 305, 306, 308, 309, 311, 312, 313, 315, 316, 318, 319, 320, 322, 323, 325, 326, 327, 329, 330, 332, 333, 334, 336, 337, 339, 340, 341, 343, 344, 346, 347, 348, 350, 351, 353, 354, 355, 357, 358, 360, 361, 362, 365, 366, 367, 370, 371]
set_option tactic.hygienic false in
theorem kas_eq (P : Params) : kas = (kmk.heap_1 P).map (·.1) := by kernel_rfl
noncomputable def KH : Hook := kHook kmk.heap_1 kas kas_eq
noncomputable def isTyp (v : Value) (t : String) : Bool := match v with
  | .type c => decide (c = t)
  | _ => false
set_option tactic.hygienic false in
theorem isTyp_eq {v : Value} {t : String} (h : isTyp v t = true) : v = .type t := by
  cases v <;> (try exact Bool.noConfusion h)
  rw [of_decide_eq_true h]
noncomputable def isNonV : Value → Bool
  | .none => true
  | _ => false
set_option tactic.hygienic false in
theorem isNonV_eq {v : Value} (h : isNonV v = true) : v = .none := by
  cases v <;> (try exact Bool.noConfusion h)
  rfl
noncomputable def isPla : Data → Bool
  | .plain => true
  | _ => false
set_option tactic.hygienic false in
theorem isPla_eq {v : Data} (h : isPla v = true) : v = .plain := by
  cases v <;> (try exact Bool.noConfusion h)
  rfl
noncomputable def isFld : Data → Bool
  | .fields vs => vs.toList.isEmpty
  | _ => false
theorem isFld_eq {v : Data} (h : isFld v = true) : v = .fields #[] := by
  cases v <;> (try exact Bool.noConfusion h)
  rename_i vs
  obtain ⟨vs⟩ := vs
  have : vs = [] := List.isEmpty_iff.mp h
  rw [this]
noncomputable def objB (f : Obj → Bool) : Option Obj → Bool
  | some o => f o
  | none => false
set_option tactic.hygienic false in
theorem objB_eq {f : Obj → Bool} {x : Option Obj} (h : objB f x = true) : ∃ o, x = some o ∧ f o = true := by
  rcases x with _ | o
  · exact Bool.noConfusion h
  · exact ⟨o, rfl, h⟩
/-- two more objects that the walk leans on -/
noncomputable def x4 (h : Heap) : Bool := objB (fun o => isTyp o.cls "module" && (o.dict == some builtinsNs && isPla o.data)) (h.get? (4 : Addr))
noncomputable def x101 (h : Heap) : Bool := objB (fun o => isNonV o.cls && (o.dict.isNone && (isFld o.data && o.slots.toList.isEmpty))) (h.get? (101 : Addr))
noncomputable def XT (s : Shared) : Bool := (xlAt qv [] s && recOk (RowW.records PySem.Challenge.rw_lh0035_01.row.toRowW) s) && (x4 s.heap && x101 s.heap)
structure XO (mg : Str → Option Value) (h : Heap) : Prop where
  xl : XL qv [] mg h
  bm : ∃ o, h.get? (4 : Addr) = some o ∧ o.cls = .type "module" ∧ o.dict = some builtinsNs ∧ o.data = .plain
  pt : h.get? (101 : Addr) = some { cls := .none, data := .fields #[] }
set_option tactic.hygienic false in
theorem XO.keeps (mg : Str → Option Value) (h h' : Heap) (x : XO mg h) (hk : ∀ b o, h.get? b = some o → h'.get? b = some o) : XO mg h' :=
  ⟨XL.keeps mg h h' x.xl hk, let ⟨o, e, r⟩ := x.bm; ⟨o, hk _ _ e, r⟩, hk _ _ x.pt⟩
set_option tactic.hygienic false in
theorem xo_of (s : Shared) (e : XT s = true) : XO (s.heap.nsMap mainGlobals) s.heap := by
  obtain ⟨e1, e2⟩ := Bool.and_eq_true_iff.mp e
  obtain ⟨e3, e4⟩ := Bool.and_eq_true_iff.mp e2
  refine ⟨xl_of s (Bool.and_eq_true_iff.mp e1).1, ?_, ?_⟩
  · obtain ⟨o, q, e⟩ := objB_eq e3
    obtain ⟨f1, e⟩ := Bool.and_eq_true_iff.mp e
    obtain ⟨f2, f3⟩ := Bool.and_eq_true_iff.mp e
    exact ⟨o, q, isTyp_eq f1, eq_of_beq f2, isPla_eq f3⟩
  · obtain ⟨⟨c, d, x, sl⟩, q, e⟩ := objB_eq e4
    obtain ⟨f1, e⟩ := Bool.and_eq_true_iff.mp e
    obtain ⟨f2, e⟩ := Bool.and_eq_true_iff.mp e
    obtain ⟨f3, f4⟩ := Bool.and_eq_true_iff.mp e
    obtain ⟨sl⟩ := sl
    have f1 : c = .none := isNonV_eq f1
    have f2 : d = none := Option.isNone_iff_eq_none.mp f2
    have f3 : x = .fields #[] := isFld_eq f3
    have f4 : sl = [] := List.isEmpty_iff.mp f4
    rw [q, f1, f2, f3, f4]
set_option tactic.hygienic false in
theorem run_left (w : World) (os : OsState) : (topFrom treeTable PySem.Challenge.pw_lh0035_01 w 4600 ⟨boot_heap w.params, Array.mk [], boot_drawn, boot_toks, os⟩).map (fun s => (openSeen qv loose (importedModules PySem.Challenge.pw_lh0035_01.main.body) XT true s, KH.obs s)) = some (openGood qv loose, KH.val w) := by
  unfold topFrom openSeen
  rw [PySem.W.Fast.te14082659384304107361]
  kernel_rfl
set_option tactic.hygienic false in
theorem left : LeftO PySem.Challenge.pw_lh0035_01 qv loose XT KH.obs KH.val 4600 := by
  intro w
  obtain ⟨⟨h, gs, d, k, os⟩, e, e'⟩ := Option.map_eq_some_iff.mp (boot_open (p := PySem.Challenge.pw_lh0035_01) (N := 4600) (by kernel_rfl) (by kernel_rfl) (fun s => by kernel_rfl) w)
  obtain ⟨rfl, rfl, rfl, rfl⟩ : h = boot_heap w.params ∧ gs = Array.mk [] ∧ d = boot_drawn ∧ k = boot_toks := by simpa only [Prod.mk.injEq] using e'
  unfold openEnds
  rw [e, Option.bind_some]
  exact run_left w os
set_option tactic.hygienic false in
theorem hd0 (call : WalkO qv loose XO KH.says PySem.Challenge.rw_lh0035_01.row.toRowW ((defOf qv PySem.Challenge.rw_lh0035_01.row.name).get (by rfl)).1 ((defOf qv PySem.Challenge.rw_lh0035_01.row.name).get (by rfl)).2 fun f vs => PySem.call f vs) (said : PySem.Challenge.rw_lh0035_01.row.wellSaid = true) : PySem.Challenge.rw_lh0035_01.row.Holds := by
  refine holds_open (q := qv) (loose := loose) (Xt := XT) (XP := XO) (Yf := KH.obs) (Ya := KH.val) (YP := KH.says) (N := 4600) left KH.of KH.keeps xo_of XO.keeps (by rfl) (by rfl) (by rfl) (fun s e => recFacts_of (Bool.and_eq_true_iff.mp (Bool.and_eq_true_iff.mp e).1).2) (by rfl) said (by decide +kernel) ⟨rfl, rfl, rfl, rfl, rfl, by decide +kernel⟩ ?hw call
  w_witness2
end Mine
set_option maxHeartbeats 4000000
namespace Mine
set_option tactic.hygienic false in
theorem none_neQ {α : Type} {a : α} {P : Prop} (h : (none : Option α) = some a) : P := nomatch h
set_option tactic.hygienic false in
theorem none_neQ' {α : Type} {a : α} {P : Prop} (h : some a = (none : Option α)) : P := nomatch h
set_option tactic.hygienic false in
theorem ff_neQ {P : Prop} (h : false = true) : P := nomatch h
set_option tactic.hygienic false in
theorem ff_neQ' {P : Prop} (h : true = false) : P := nomatch h
set_option tactic.hygienic false in
theorem some_injQ {α : Type} {a b : α} (h : some a = some b) : a = b := Option.some.inj h
local macro_rules | `(tactic| cases $h:ident) => `(tactic| first | exact none_neQ $h | exact none_neQ' $h | exact ff_neQ $h | exact ff_neQ' $h | (have hq := some_injQ $h; clear $h; subst hq) | rcases $h:ident with ⟨⟩)
/-- the outcome tree of a run -/
inductive T (ε α : Type) where
  | ret (a : α)
  | dec (b : Bool) (t e : T ε α)
  | need (b : Bool) (t : T ε α)
  | exc (x : ε)
  | stuck
namespace T
variable {ε α β : Type}
noncomputable def bind : T ε α → (α → T ε β) → T ε β
  | .ret a, f => f a
  | .dec b t e, f => .dec b (t.bind f) (e.bind f)
  | .need b t, f => .need b (t.bind f)
  | .exc x, _ => .exc x
  | .stuck, _ => .stuck
noncomputable def Holds : T ε α → (α → Prop) → (ε → Prop) → Prop
  | .ret a, K, _ => K a
  | .dec b t e, K, X => (b = true → t.Holds K X) ∧ (b = false → e.Holds K X)
  | .need b t, K, X => b = true ∧ t.Holds K X
  | .exc x, _, X => X x
  | .stuck, _, _ => False
set_option tactic.hygienic false in
theorem holds_bind {f : α → T ε β} {K : β → Prop} {X : ε → Prop} : ∀ {t : T ε α}, (t.bind f).Holds K X → t.Holds (fun a => (f a).Holds K X) X
  | .ret _, h => h
  | .dec _ _ _, h => ⟨fun q => holds_bind (h.1 q), fun q => holds_bind (h.2 q)⟩
  | .need _ _, h => ⟨h.1, holds_bind h.2⟩
  | .exc _, h => h
  | .stuck, h => h
set_option tactic.hygienic false in
theorem Holds.mono {K K' : α → Prop} {X X' : ε → Prop} (hK : ∀ a, K a → K' a) (hX : ∀ x, X x → X' x) : ∀ {t : T ε α}, t.Holds K X → t.Holds K' X'
  | .ret _, h => hK _ h
  | .dec _ _ _, h => ⟨fun q => Holds.mono hK hX (h.1 q), fun q => Holds.mono hK hX (h.2 q)⟩
  | .need _ _, h => ⟨h.1, Holds.mono hK hX h.2⟩
  | .exc _, h => hX _ h
  | .stuck, h => h
end T

inductive Bi where
  | len | int | bool | isinstance | tuple | list | range | pow | enumerate | zip
/-- a symbolic value -/
inductive SV where
  | num (n : Int)
  | md (p : Int)
  | int (n : Int) (b : Option Nat)
  | bool (b : Bool)
  | sb (b : Bool)
  | none
  | str (s : Str)
  | tup (l : List SV)
  | el (p x y : Int)
  | sl (l : List SV)
  | fl (l : List SV)
  | ml (i : Nat)
  | fn (a : Nat)
  | bi (b : Bi)
  | ty (x : Option (List Int))
noncomputable def Bi.val : Bi → Value
  | .len => .builtin "len"
  | .int => .type "int"
  | .bool => .type "bool"
  | .isinstance => .builtin "isinstance"
  | .tuple => .type "tuple"
  | .list => .type "list"
  | .range => .type "range"
  | .pow => .builtin "pow"
  | .enumerate => .type "enumerate"
  | .zip => .type "zip"

/-- the facts that a run leans on: solid objects, lists that stay, the addresses of the lists that turn -/
structure Wd where
  H : Addr → Obj → Prop
  HL : Addr → Obj → Prop
  eta : List Addr
structure Wd.le (W W' : Wd) : Prop where
  h : ∀ a o, W.H a o → W'.H a o
  l : ∀ a o, W.HL a o → W'.HL a o
  e : ∀ (i : Nat) (a : Addr), W.eta[i]? = some a → W'.eta[i]? = some a
set_option tactic.hygienic false in
theorem Wd.le.refl (W : Wd) : W.le W := ⟨fun _ _ h => h, fun _ _ h => h, fun _ _ h => h⟩
set_option tactic.hygienic false in
theorem Wd.le.trans {W W' W'' : Wd} (x : W.le W') (y : W'.le W'') : W.le W'' := ⟨fun a o h => y.h a o (x.h a o h), fun a o h => y.l a o (x.l a o h), fun i a h => y.e i a (x.e i a h)⟩

noncomputable def TupO (o : Obj) (items : Array Value) : Prop := o.cls = .type "tuple" ∧ o.dict = none ∧ ∃ n, o.data = .seq items n
noncomputable def LstO (o : Obj) (items : Array Value) : Prop := ∃ n, o = PySem.W.listOf items n
noncomputable def bdd (n : Int) : Option Nat → Prop
  | Option.none => True
  | Option.some b => n.natAbs ≤ b
noncomputable def nmFM : Str := Str.ofString "field_modulus"
noncomputable def nmMC : Str := Str.ofString "mc_tuples"
noncomputable def nmCO : Str := Str.ofString "coeffs"
noncomputable def nmMO : Str := Str.ofString "modulus_coeffs"
noncomputable def nmDG : Str := Str.ofString "degree"
noncomputable def nmMeths : List Str := [Str.ofString "made", Str.ofString "one", Str.ofString "zero", Str.ofString "inv", Str.ofString "optimized_poly_rounded_div"]
/-- the dict of an object of FQ2 -/
structure ElD (es : List DictEntry) (p : Int) (lm tc tm : Addr) : Prop where
  fm : ∃ t, getL nmFM es = some (some (.int p t))
  mc : getL nmMC es = some (some (.ref lm))
  co : getL nmCO es = some (some (.ref tc))
  mo : getL nmMO es = some (some (.ref tm))
  dg : ∃ t, getL nmDG es = some (some (.int 2 t))
  no : ∀ x ∈ nmMeths, getL x es = some Option.none
inductive ElP (H : Addr → Obj → Prop) (a : Addr) (p x y : Int) : Prop
  | mk (ox : Obj) (d : Addr) (es : List DictEntry) (n : Nat) (lm tc tm t0 : Addr) (h1 : H a ox) (h2 : ox.cls = .ref 242) (h3 : notCls ox = true) (h4 : ox.dict = some d) (h5 : H d (dictOf es n)) (h6 : ElD es p lm tc tm)
    (h7 : ∃ o, H lm o ∧ LstO o #[.ref t0]) (h8 : ∃ o s1 s2, H t0 o ∧ TupO o #[.int 0 s1, .int 1 s2]) (h9 : ∃ o s1 s2, H tc o ∧ TupO o #[.int x s1, .int y s2]) (h0 : ∃ o s1 s2, H tm o ∧ TupO o #[.int 1 s1, .int 0 s2]) : ElP H a p x y
structure ElAt (H : Addr → Obj → Prop) (a : Addr) (p x y : Int) : Prop where
  rng : 0 < p ∧ p < 100 ∧ 0 ≤ x ∧ x < p ∧ 0 ≤ y ∧ y < p
  parts : ElP H a p x y
set_option tactic.hygienic false in
theorem ElAt.mono {H H' : Addr → Obj → Prop} {a : Addr} {p x y : Int} (k : ∀ a o, H a o → H' a o) (e : ElAt H a p x y) : ElAt H' a p x y := by
  obtain ⟨r, ox, d, es, n, lm, tc, tm, t0, h1, h2, h3, h4, h5, h6, ⟨o7, h7, h7'⟩, ⟨o8, a8, b8, h8, h8'⟩, ⟨o9, a9, b9, h9, h9'⟩, ⟨o, a0, b0, h0, h0'⟩⟩ := e
  exact ⟨r, ox, d, es, n, lm, tc, tm, t0, k _ _ h1, h2, h3, h4, k _ _ h5, h6, ⟨o7, k _ _ h7, h7'⟩, ⟨o8, a8, b8, k _ _ h8, h8'⟩, ⟨o9, a9, b9, k _ _ h9, h9'⟩, ⟨o, a0, b0, k _ _ h0, h0'⟩⟩

/-- a list of ints from outside -/
noncomputable def intsR : List Int → List Value → Prop
  | [], vs => vs = []
  | n :: l, vs => ∃ t r, vs = .int n t :: r ∧ intsR l r
noncomputable def tyR (W : Wd) (x : Option (List Int)) (v : Value) : Prop := match x with
  | Option.none => v = .type "ValueError"
  | some l => ∃ a o items, v = .ref a ∧ W.HL a o ∧ LstO o items ∧ intsR l items.toList
set_option tactic.hygienic false in
theorem tyR.mono {W W' : Wd} (k : ∀ a o, W.HL a o → W'.HL a o) {x : Option (List Int)} {v : Value} (h : tyR W x v) : tyR W' x v := by
  rcases x with _ | l
  · exact h
  · obtain ⟨a, o, items, e, h1, h2⟩ := h; exact ⟨a, o, items, e, k _ _ h1, h2⟩
/-- a reference to an object of a kind -/
inductive RefT (H : Addr → Obj → Prop) (K : Obj → Array Value → Prop) (R : List Value → Prop) (v : Value) : Prop
  | mk (a : Addr) (o : Obj) (items : Array Value) (e : v = .ref a) (h : H a o) (k : K o items) (r : R items.toList) : RefT H K R v
inductive ConsR (P : Value → Prop) (Q : List Value → Prop) (vs : List Value) : Prop
  | mk (v : Value) (r : List Value) (e : vs = v :: r) (p : P v) (q : Q r) : ConsR P Q vs
inductive RefE (H : Addr → Prop) (v : Value) : Prop
  | mk (a : Addr) (e : v = .ref a) (h : H a) : RefE H v
mutual
noncomputable def VR (W : Wd) : SV → Value → Prop
  | .num n, v => ∃ t, v = .int n t
  | .md p, v => (∃ t, v = .int p t) ∧ 0 < p ∧ p < 100
  | .int n b, v => (∃ t, v = .int n t) ∧ bdd n b
  | .bool b, v => v = .bool b
  | .sb b, v => v = .bool b
  | .none, v => v = .none
  | .str s, v => ∃ t, v = .str s t
  | .tup l, v => RefT W.H TupO (VRs W l) v
  | .el p x y, v => RefE (fun a => ElAt W.H a p x y) v
  | .sl l, v => RefT W.H LstO (VRs W l) v
  | .fl l, v => RefT W.HL LstO (VRs W l) v
  | .ml i, v => ∃ a, v = .ref a ∧ W.eta[i]? = some a
  | .fn a, v => v = .ref a
  | .bi b, v => v = b.val
  | .ty x, v => tyR W x v
noncomputable def VRs (W : Wd) : List SV → List Value → Prop
  | [], vs => vs = []
  | x :: l, vs => ConsR (VR W x) (VRs W l) vs
end
set_option tactic.hygienic false in
mutual
theorem VR.mono {W W' : Wd} (k : W.le W') : ∀ {x : SV} {v : Value}, VR W x v → VR W' x v
  | .num _, _, h | .md _, _, h | .int _ _, _, h | .bool _, _, h | .sb _, _, h | .none, _, h | .str _, _, h | .fn _, _, h | .bi _, _, h => by simpa only [VR] using h
  | .ty x, _, h => by simp only [VR] at h ⊢; exact h.mono k.l
  | .tup l, v, h => by
    simp only [VR] at h ⊢
    obtain ⟨a, o, items, e, h1, h2, h3⟩ := h
    exact ⟨a, o, items, e, k.h _ _ h1, h2, VRs.mono k h3⟩
  | .el _ _ _, v, h => by
    simp only [VR] at h ⊢
    obtain ⟨a, e, h1⟩ := h
    exact ⟨a, e, h1.mono k.h⟩
  | .sl l, v, h => by
    simp only [VR] at h ⊢
    obtain ⟨a, o, items, e, h1, h2, h3⟩ := h
    exact ⟨a, o, items, e, k.h _ _ h1, h2, VRs.mono k h3⟩
  | .fl l, v, h => by
    simp only [VR] at h ⊢
    obtain ⟨a, o, items, e, h1, h2, h3⟩ := h
    exact ⟨a, o, items, e, k.l _ _ h1, h2, VRs.mono k h3⟩
  | .ml _, v, h => by
    simp only [VR] at h ⊢
    obtain ⟨a, e, h1⟩ := h
    exact ⟨a, e, k.e _ _ h1⟩
theorem VRs.mono {W W' : Wd} (k : W.le W') : ∀ {l : List SV} {vs : List Value}, VRs W l vs → VRs W' l vs
  | [], _, h => by simpa only [VRs] using h
  | x :: l, vs, h => by
    simp only [VRs] at h ⊢
    obtain ⟨v, r, e, h1, h2⟩ := h
    exact ⟨v, r, e, VR.mono k h1, VRs.mono k h2⟩
end
set_option tactic.hygienic false in
theorem VRs.length {W : Wd} : ∀ {l : List SV} {vs : List Value}, VRs W l vs → vs.length = l.length
  | [], _, h => by simp only [VRs] at h; subst h; rfl
  | x :: l, vs, h => by
    simp only [VRs] at h
    obtain ⟨v, r, rfl, _, h2⟩ := h
    rw [List.length_cons, List.length_cons, VRs.length h2]
set_option tactic.hygienic false in
theorem VRs.get {W : Wd} : ∀ {l : List SV} {vs : List Value} {i : Nat} {x : SV}, VRs W l vs → l[i]? = some x → ∃ v, vs[i]? = some v ∧ VR W x v
  | [], _, _, _, _, e => by simp at e
  | y :: l, vs, i, x, h, e => by
    simp only [VRs] at h
    obtain ⟨v, r, rfl, h1, h2⟩ := h
    cases i with
    | zero => simp at e; subst e; exact ⟨v, by simp, h1⟩
    | succ i => simp at e; obtain ⟨u, hu, h3⟩ := VRs.get h2 e; exact ⟨u, by simpa using hu, h3⟩
set_option tactic.hygienic false in
theorem VRs.append {W : Wd} : ∀ {l l' : List SV} {vs vs' : List Value}, VRs W l vs → VRs W l' vs' → VRs W (l ++ l') (vs ++ vs')
  | [], _, _, _, h, h' => by simp only [VRs] at h; subst h; exact h'
  | x :: l, l', vs, vs', h, h' => by
    simp only [VRs] at h
    obtain ⟨v, r, rfl, h1, h2⟩ := h
    exact (show VRs W (x :: (l ++ l')) (v :: (r ++ vs')) from by simp only [VRs]; exact ⟨v, _, rfl, h1, VRs.append h2 h'⟩)
set_option tactic.hygienic false in
theorem VRs.set {W : Wd} : ∀ {l : List SV} {vs : List Value} {i : Nat} {x : SV} {v : Value}, VRs W l vs → VR W x v → VRs W (l.set i x) (vs.set i v)
  | [], _, _, _, _, h, _ => by simp only [VRs] at h; subst h; simp [VRs]
  | y :: l, vs, i, x, v, h, e => by
    simp only [VRs] at h
    obtain ⟨u, r, rfl, h1, h2⟩ := h
    cases i with
    | zero => simp only [List.set_cons_zero, VRs]; exact ⟨v, r, rfl, e, h2⟩
    | succ i => simp only [List.set_cons_succ, VRs]; exact ⟨u, _, rfl, h1, VRs.set h2 e⟩
set_option tactic.hygienic false in
theorem VRs.one {W : Wd} {x : SV} {v : Value} (h : VR W x v) : VRs W [x] [v] := by simp only [VRs]; exact ⟨v, [], rfl, h, rfl⟩
set_option tactic.hygienic false in
theorem VRs.cons {W : Wd} {x : SV} {v : Value} {l : List SV} {vs : List Value} (h : VR W x v) (h' : VRs W l vs) : VRs W (x :: l) (v :: vs) := by simp only [VRs]; exact ⟨v, vs, rfl, h, h'⟩

/-- names -/
noncomputable def sq (a b : Str) : Bool := PySem.W.Fast.lEq a.cps.toList b.cps.toList
set_option tactic.hygienic false in
theorem sq_iff {a b : Str} : sq a b = true ↔ a = b := by
  unfold sq
  rw [PySem.W.Fast.lEq_iff]
  constructor
  · intro h
    cases a; cases b
    simp only [Str.mk.injEq]
    exact Array.toList_inj.mp h
  · rintro rfl; rfl
noncomputable def lk {α : Type} (x : Str) : List (Str × α) → Option α
  | [] => none
  | (y, v) :: r => match sq x y with
    | true => some v
    | false => lk x r
noncomputable def up {α : Type} (x : Str) (v : α) : List (Str × α) → List (Str × α)
  | [] => [(x, v)]
  | (y, u) :: r => match sq x y with
    | true => (x, v) :: r
    | false => (y, u) :: up x v r
set_option tactic.hygienic false in
theorem lk_up {α : Type} (x y : Str) (v : α) : ∀ l : List (Str × α), lk y (up x v l) = if y = x then some v else lk y l
  | [] => by
    simp only [up, lk]
    rcases h : sq y x with _ | _
    rotate_left
    · rw [if_pos (sq_iff.mp h)]
    · rw [if_neg (fun e => by rw [sq_iff.mpr e] at h; cases h)]
  | (z, u) :: r => by
    simp only [up]
    rcases h : sq x z with _ | _
    rotate_left
    ·
      have := sq_iff.mp h
      subst this
      simp only [lk]
      rcases h' : sq y x with _ | _
      rotate_left
      · rw [if_pos (sq_iff.mp h')]
      · rw [if_neg (fun e => by rw [sq_iff.mpr e] at h'; cases h')]
    ·
      simp only [lk]
      rcases h' : sq y z with _ | _
      rotate_left
      ·
        have : y ≠ x := fun e => by
          have hz := sq_iff.mp h'
          rw [← e, hz, sq_iff.mpr rfl] at h
          cases h
        rw [if_neg this]
      · exact lk_up x y v r
set_option tactic.hygienic false in
theorem lk_lookup {α : Type} {x : Str} : ∀ {l : List (Str × α)}, lk x l = l.lookup x
  | [] => rfl
  | (y, v) :: r => by
    rw [List.lookup_cons]
    simp only [lk]
    rcases h : sq x y with _ | _
    rotate_left
    ·
      have := sq_iff.mp h
      subst this
      simp
    ·
      have : x ≠ y := fun e => by rw [sq_iff.mpr e] at h; cases h
      simp only [beq_eq_false_iff_ne.mpr this]
      exact lk_lookup
/-- the state of a frame: locals, cells, the lists that turn (with a mark: it stays from here on) -/
structure St where
  loc : List (Str × SV)
  cel : List (Str × SV)
  mls : List (Bool × List SV)
/-- what the run of a def leans on -/
structure Cx where
  names : List (Str × NameKind)
  glo : List (Str × SV)
  F : Nat → List SV → T Unit SV
inductive Fl where
  | next
  | ret (v : SV)
abbrev TS (α : Type) := T St (α × St)

namespace SV
/-- a value with no turning list within -/
noncomputable def pl : SV → Bool
  | .ml _ => false
  | .tup l => plL l
  | .sl l => plL l
  | .fl l => plL l
  | _ => true
where plL : List SV → Bool
  | [] => true
  | x :: r => match x.pl with
    | true => plL r
    | false => false
end SV
noncomputable def plL : List SV → Bool := SV.pl.plL

/-- an int: its value, whether it is known, its bound -/
noncomputable def asI : SV → Option (Bool × Int × Option Nat)
  | .num n => some (true, n, some n.natAbs)
  | .md p => some (true, p, some 100)
  | .int n b => some (false, n, b)
  | _ => none
noncomputable def bMul : Option Nat → Option Nat → Option Nat
  | some a, some b => some (Nat.mul a b)
  | _, _ => none
noncomputable def bAdd : Option Nat → Option Nat → Option Nat
  | some a, some b => some (Nat.add a b)
  | _, _ => none
noncomputable def small : Option Nat → Bool
  | some a => Nat.blt a 9223372036854775808
  | none => false
noncomputable def mkI (known : Bool) (n : Int) (b : Option Nat) : SV := match known with
  | true => .num n
  | false => .int n b
noncomputable def tret {ε α : Type} (a : α) : T ε α := .ret a

/-- an operation on ints -/
noncomputable def bopI (op : Operator) (y : SV) (k1 : Bool) (a : Int) (b1 : Option Nat) (k2 : Bool) (b : Int) (b2 : Option Nat) : T St SV := match op with
  | .Add => .ret (mkI (k1 && k2) (a + b) (bAdd b1 b2))
  | .Sub => .ret (mkI (k1 && k2) (a - b) (bAdd b1 b2))
  | .Mult => match small b1 || small b2 with
    | true => .ret (mkI (k1 && k2) (a * b) (bMul b1 b2))
    | false => .stuck
  | .Mod => match y with
    | .md p => .ret (.int (a.fmod p) (some 100))
    | .num m => match decide (0 < m) with
      | false => .stuck
      | true => .ret (mkI k1 (a.fmod m) (some m.natAbs))
    | _ => .stuck
  | .FloorDiv => match small b2 with
    | false => .stuck
    | true => match y with
      | .md p => .ret (.int (a.fdiv p) b1)
      | .num m => match decide (0 < m) with
        | false => .stuck
        | true => .ret (mkI k1 (a.fdiv m) b1)
      | _ => .stuck
  | .Pow => match k1 && k2 && decide (0 ≤ b) && decide (b < 1000) && decide (2 ≤ a) && decide (a < 1000) with
    | true => .ret (.num (a ^ b.toNat))
    | false => .stuck
  | .RShift => match y with
    | .num m => match decide (0 ≤ m) && decide (m < 1000) with
      | true => .ret (mkI k1 (a.fdiv (2 ^ m.toNat)) b1)
      | false => .stuck
    | _ => .stuck
  | .BitAnd => .ret (mkI (k1 && k2) (Builtin.bitAnd a b) none)
  | _ => .stuck
noncomputable def cmpB (op : CmpOp) (a b : Int) : Bool := match op with
  | .Eq => a == b
  | .NotEq => a != b
  | .Lt => decide (a < b)
  | .LtE => decide (a ≤ b)
  | .Gt => decide (b < a)
  | .GtE => decide (b ≤ a)
  | _ => false
noncomputable def mkB (known : Bool) (b : Bool) : SV := match known with
  | true => .bool b
  | false => .sb b
noncomputable def isOrd (op : CmpOp) : Bool := match op with
  | .Eq | .NotEq | .Lt | .LtE | .Gt | .GtE => true
  | _ => false
noncomputable def asB : SV → Option (Bool × Bool)
  | .bool b => some (true, b)
  | .sb b => some (false, b)
  | _ => none
/-- truth -/
noncomputable def truth : SV → Option SV
  | .num n => some (.bool (n != 0))
  | .md _ => some (.bool true)
  | .int n _ => some (.sb (n != 0))
  | .bool b => some (.bool b)
  | .sb b => some (.sb b)
  | .none => some (.bool false)
  | _ => none
noncomputable def br {ε α : Type} (c : SV) (t e : T ε α) : T ε α := match c with
  | .bool true => t
  | .bool false => e
  | .sb b => .dec b t e
  | _ => .stuck
noncomputable def tN (b : SV) : Option SV := match b with
  | .bool b => some (.bool (!b))
  | .sb b => some (.sb (!b))
  | _ => none

noncomputable def lift {α : Type} (st : St) : T Unit α → TS α
  | .ret a => .ret (a, st)
  | .dec b t e => .dec b (lift st t) (lift st e)
  | .need b t => .need b (lift st t)
  | .exc _ => .stuck
  | .stuck => .stuck
noncomputable def liftS {α : Type} (st : St) : T St α → TS α
  | .ret a => .ret (a, st)
  | .dec b t e => .dec b (liftS st t) (liftS st e)
  | .need b t => .need b (liftS st t)
  | .exc _ => .stuck
  | .stuck => .stuck
noncomputable def ofOpt {ε α : Type} : Option α → T ε α
  | some a => .ret a
  | none => .stuck

/-- the items of something that stands in the heap as a row -/
noncomputable def seqOf (st : St) : SV → Option (List SV)
  | .tup l => some l
  | .sl l => some l
  | .fl l => some l
  | .ml i => match st.mls[i]? with
    | some (_, l) => some l
    | none => none
  | _ => none
noncomputable def froz (st : St) : SV → St
  | .ml i => match st.mls[i]? with
    | some (_, l) => { st with mls := st.mls.set i (true, l) }
    | none => st
  | _ => st
noncomputable def newL (st : St) (l : List SV) : SV × St := (.ml st.mls.length, { st with mls := st.mls ++ [(false, l)] })
/-- an argument as the callee sees it -/
noncomputable def toArg (st : St) (v : SV) : Option SV := match v with
  | .ml i => match st.mls[i]? with
    | some (_, l) => match plL l with
      | true => some (.fl l)
      | false => none
    | none => none
  | v => match v.pl with
    | true => some v
    | false => none
noncomputable def toArgs (st : St) : List SV → Option (List SV)
  | [] => some []
  | v :: r => match toArg st v with
    | some x => match toArgs st r with
      | some l => some (x :: l)
      | none => none
    | none => none
noncomputable def idx (n : Nat) (k : Int) : Option Nat := match decide (0 ≤ k) && decide (k < n) with
  | true => some k.toNat
  | false => match decide (k < 0) && decide (-(n : Int) ≤ k) with
    | true => some (k + n).toNat
    | false => none
noncomputable def isInt : SV → Bool
  | .num _ | .md _ | .int _ _ | .bool _ | .sb _ => true
  | _ => false
noncomputable def isEl : SV → Bool
  | .el _ _ _ => true
  | _ => false
noncomputable def isIntB : SV → Bool
  | .bi b => match b with
    | .int => true
    | _ => false
  | _ => false
noncomputable def isFQP : SV → Bool
  | .fn a => Nat.beq a 213
  | _ => false
noncomputable def isInst (v w : SV) (st : St) : TS SV := match isIntB w with
  | true => match asI v with
    | some _ => .ret (.bool true, st)
    | none => match isEl v with
      | true => .ret (.bool false, st)
      | false => .stuck
  | false => match isFQP w && isEl v with
    | true => .ret (.bool true, st)
    | false => .stuck
/-- a built-in call -/
noncomputable def callB (b : Bi) (args : List SV) (st : St) : TS SV := match b, args with
  | .len, [v] => match seqOf st v with
    | some l => match Nat.blt l.length 1000 with
      | true => .ret (.num (l.length : Int), st)
      | false => .stuck
    | none => .stuck
  | .int, [v] => match asI v with
    | some _ => .ret (v, st)
    | none => match v with
      | .bool b => .ret (.num (if b then 1 else 0), st)
      | .sb b => .ret (.int (if b then 1 else 0) (some 1), st)
      | _ => .stuck
  | .bool, [v] => match truth v with
    | some c => .ret (c, st)
    | none => .stuck
  | .isinstance, [v, w] => isInst v w st
  | .tuple, [v] => match v with
    | .tup l => .ret (.tup l, st)
    | .ml i => match st.mls[i]? with
      | some (_, l) => match Nat.blt l.length 1000 with
        | true => .ret (.tup l, st)
        | false => .stuck
      | none => .stuck
    | _ => .stuck
  | .list, [v] => match seqOf st v with
    | some l => match Nat.blt l.length 1000 with
      | true => .ret (newL st l)
      | false => .stuck
    | none => .stuck
  | _, _ => .stuck
noncomputable def callV (C : Cx) (f : SV) (args : List SV) (st : St) : TS SV := match f with
  | .fn a => match toArgs st args with
    | some vs => lift st (C.F a vs)
    | none => .stuck
  | .bi b => callB b args st
  | _ => .stuck
noncomputable def opAddr (op : Operator) : Option Nat := match op with
  | .Add => some 116
  | .Sub => some 121
  | .Mult => some 133
  | .Div => some 145
  | .Pow => some 152
  | _ => none
noncomputable def rep (n : Nat) (l : List SV) : List SV := match n with
  | 0 => []
  | n + 1 => l ++ rep n l
noncomputable def isAdd : Operator → Bool
  | .Add => true
  | _ => false
noncomputable def isMul : Operator → Bool
  | .Mult => true
  | _ => false
noncomputable def tupO' : SV → Option (List SV)
  | .tup l => some l
  | _ => none
noncomputable def mlO : SV → Option Nat
  | .ml i => some i
  | _ => none
noncomputable def numO : SV → Option Int
  | .num n => some n
  | _ => none
noncomputable def bopE (C : Cx) (op : Operator) (x y : SV) (st : St) : TS SV := match opAddr op with
  | some f => match isEl y || (asI y).isSome with
    | true => lift st (C.F f [x, y])
    | false => .stuck
  | none => .stuck
noncomputable def bopT (op : Operator) (l : List SV) (y : SV) (st : St) : TS SV := match tupO' y with
  | some l' => match isAdd op && Nat.blt (l.length + l'.length) 1000 && Nat.blt 0 l.length && Nat.blt 0 l'.length with
    | true => .ret (.tup (l ++ l'), st)
    | false => .stuck
  | none => .stuck
noncomputable def bopA (i j : Nat) (st : St) : TS SV := match st.mls[i]? with
  | some p => match st.mls[j]? with
    | some q => match Nat.blt (p.2.length + q.2.length) 1000 with
      | true => .ret (newL st (p.2 ++ q.2))
      | false => .stuck
    | none => .stuck
  | none => .stuck
noncomputable def bopU (i : Nat) (n : Int) (st : St) : TS SV := match st.mls[i]? with
  | some p => match decide (0 ≤ n) && decide (n < 100) && Nat.blt p.2.length 100 && Nat.blt 0 p.2.length with
    | true => .ret (newL st (rep n.toNat p.2))
    | false => .stuck
  | none => .stuck
noncomputable def bopM (op : Operator) (i : Nat) (y : SV) (st : St) : TS SV := match isAdd op with
  | true => match mlO y with
    | some j => bopA i j st
    | none => .stuck
  | false => match isMul op with
    | true => match numO y with
      | some n => bopU i n st
      | none => .stuck
    | false => .stuck
noncomputable def bopN (C : Cx) (op : Operator) (x y : SV) (st : St) : TS SV := match x with
  | .el _ _ _ => bopE C op x y st
  | .tup l => bopT op l y st
  | .ml i => bopM op i y st
  | _ => .stuck
noncomputable def bop (C : Cx) (op : Operator) (x y : SV) (st : St) : TS SV := match asI x with
  | some p => match asI y with
    | some q => liftS st (bopI op y p.1 p.2.1 p.2.2 q.1 q.2.1 q.2.2)
    | none => .stuck
  | none => bopN C op x y st
/-- the table of the code objects within __init__'s code: the one old object that the runs turn -/
noncomputable def PT : Addr := 101
noncomputable def tabO (vs : Array Value) : Obj := { cls := .none, data := .fields vs }
inductive TabOK (h : Heap) : Prop
  | mk (o : Obj) (vs : Array Value) (g : h.get? PT = some o) (r : o.data = .fields vs ∧ TriplesOk vs.toList ∧ o = tabO vs) : TabOK h
/-- the module of the built-ins -/
noncomputable def BM (h : Heap) : Prop := ∃ o, h.get? (4 : Addr) = some o ∧ o.cls = .type "module" ∧ o.dict = some builtinsNs ∧ o.data = .plain
/-- a frame's fixed data -/
structure Fx where
  w : World
  mg : Str → Option Value
  mb : Str → Option Value
  h0 : Heap
  H0 : Addr → Obj → Prop
  R : Addr → Obj → Prop
  N : Addr → Prop
  env : Env
  ro : Bool
namespace Fx
abbrev L (X : Fx) : Addr := X.env.locals
abbrev cs (X : Fx) : List (Str × Addr) := X.env.cells
abbrev scope (X : Fx) : Scope := X.env.scope
end Fx
structure FxOK (X : Fx) : Prop where
  kx : (kmk.heap_1 X.w.params).In X.h0
  top : TopRead qv loose X.mg X.mb X.h0
  pt : ∃ o, X.h0.get? PT = some o
  bm : BM X.h0
  nR : ∀ b, X.N b → ∃ o, X.R b o
  kind : X.scope.kind = .function
  glob : X.env.globals = mainGlobals
  blt : X.env.builtins = builtinsNs
  big : @LE.le Nat _ 372 X.L
noncomputable def Own (X : Fx) (W : Wd) (b : Addr) : Prop := X.h0.get? b = none ∧ ∀ o, ¬ X.R b o ∧ ¬ W.H b o ∧ ¬ W.HL b o
/-- a cell: the frame's own, or one that is only read -/
noncomputable def OwnC (X : Fx) (W : Wd) (c : Addr) : Prop := match X.ro with
  | false => Own X W c
  | true => c ≠ PT
structure Rep0 (X : Fx) (W : Wd) (h : Heap) : Prop where
  tab : TabOK h
  base : ∀ b o, b ≠ PT → X.h0.get? b = some o → h.get? b = some o
  prot : ∀ b o, X.R b o → h.get? b = some o
  sub : ∀ b o, W.H b o → h.get? b = some o
  subL : ∀ b o, W.HL b o → h.get? b = some o
  kh : ∀ b o, (kmk.heap_1 X.w.params).lookup b = some o → W.H b o
  solid : ∀ b o, W.H b o → X.H0 b o ∨ X.h0.get? b = none
  npt : ∀ o, ¬ X.R PT o ∧ ¬ W.H PT o ∧ ¬ W.HL PT o
  nos : ∀ b, X.N b → ∀ o, ¬ W.H b o ∧ ¬ W.HL b o
inductive CelAt (cs : List (Str × Addr)) (W : Wd) (h : Heap) (x : Str) (v : SV) : Prop
  | mk (c : Addr) (u : Value) (l : cs.lookup x = some c) (k : h.IsCell c (some u)) (r : VR W v u) : CelAt cs W h x v
structure RepC (X : Fx) (W : Wd) (st : St) (h : Heap) : Prop where
  own : ∀ x c, X.cs.lookup x = some c → OwnC X W c ∧ c ≠ X.L ∧ ∃ v, h.IsCell c v
  inj : ∀ x y c, X.cs.lookup x = some c → X.cs.lookup y = some c → x = y
  val : ∀ x v, lk x st.cel = some v → CelAt X.cs W h x v
inductive LstIs (W : Wd) (h : Heap) (fz : Bool) (l : List SV) (a : Addr) : Prop
  | mk (o : Obj) (items : Array Value) (g : h.get? a = some o) (r : LstO o items ∧ VRs W l items.toList ∧ (fz = true → W.HL a o)) : LstIs W h fz l a
structure LstAt (X : Fx) (W : Wd) (h : Heap) (fz : Bool) (l : List SV) (a : Addr) : Prop where
  at_ : LstIs W h fz l a
  nL : a ≠ X.L
  nC : ∀ x, X.cs.lookup x ≠ some a
  new : X.h0.get? a = none
  own : fz = false → Own X W a
inductive MlAt (X : Fx) (W : Wd) (h : Heap) (i : Nat) (fz : Bool) (l : List SV) : Prop
  | mk (a : Addr) (e : W.eta[i]? = some a) (d : LstAt X W h fz l a) : MlAt X W h i fz l
structure RepL (X : Fx) (W : Wd) (st : St) (h : Heap) : Prop where
  len : W.eta.length = st.mls.length
  at_ : ∀ (i : Nat) fz l, st.mls[i]? = some (fz, l) → MlAt X W h i fz l
  inj : ∀ (i j : Nat) a, W.eta[i]? = some a → W.eta[j]? = some a → i = j
inductive NsAt (L : Addr) (W : Wd) (st : St) (h : Heap) : Prop
  | mk (m : Str → Option Value) (n : h.Ns L m) (v : ∀ x v, lk x st.loc = some v → ∃ u, m x = some u ∧ VR W v u) : NsAt L W st h
structure RepN (X : Fx) (W : Wd) (st : St) (h : Heap) : Prop where
  own : Own X W X.L
  ns : NsAt X.L W st h
structure Rep (X : Fx) (W : Wd) (st : St) (h : Heap) : Prop where
  z : Rep0 X W h
  n : RepN X W st h
  c : RepC X W st h
  l : RepL X W st h

/-- an address that the frame does not know -/
structure Untr (X : Fx) (W : Wd) (b : Addr) : Prop where
  own : Own X W b
  nL : b ≠ X.L
  nC : ∀ x, X.cs.lookup x ≠ some b
  nE : ∀ i : Nat, W.eta[i]? ≠ some b
set_option tactic.hygienic false in
theorem TabOK.at {h h' : Heap} (t : TabOK h) (e : ∀ o, h.get? PT = some o → h'.get? PT = some o) : TabOK h' := let ⟨o, vs, a, r⟩ := t; ⟨o, vs, e o a, r⟩
set_option tactic.hygienic false in
theorem Own.ne_pt {X : Fx} {W : Wd} {b : Addr} (ok : FxOK X) (o : Own X W b) : b ≠ PT := fun e => by
  obtain ⟨q, hq⟩ := ok.pt
  have := o.1
  rw [e, hq] at this
  cases this
set_option tactic.hygienic false in
theorem OwnC.ne_pt {X : Fx} {W : Wd} {b : Addr} (ok : FxOK X) (o : OwnC X W b) : b ≠ PT := by
  unfold OwnC at o
  split at o
  · exact Own.ne_pt ok o
  · exact o
set_option tactic.hygienic false in
theorem OwnC.mono {X : Fx} {W W' : Wd} {b : Addr} (k : Own X W b → Own X W' b) (o : OwnC X W b) : OwnC X W' b := by
  unfold OwnC at o ⊢
  rcases e : X.ro with _ | _
  · rw [e] at o; exact k o
  · rw [e] at o; exact o
set_option tactic.hygienic false in
theorem fresh_none {h : Heap} {a : Addr} (le : @LE.le Nat _ h.objs.size a) : h.get? a = none := by
  rcases e : h.get? a with _ | o
  · rfl
  · exact absurd (Heap.lt_size e) (Nat.not_lt.mpr le)
set_option tactic.hygienic false in
theorem Rep0.change {X : Fx} {W : Wd} {h h' : Heap} {z : Addr} (ok : FxOK X) (r : Rep0 X W h) (oz : Own X W z) (k : ∀ b o, b ≠ z → h.get? b = some o → h'.get? b = some o) : Rep0 X W h' where
  tab := r.tab.at fun o e => k _ o (oz.ne_pt ok).symm e
  base := fun b o hb e => k b o (fun q => by rw [q, oz.1] at e; cases e) (r.base b o hb e)
  prot := fun b o e => k b o (fun q => (oz.2 o).1 (q ▸ e)) (r.prot b o e)
  sub := fun b o e => k b o (fun q => (oz.2 o).2.1 (q ▸ e)) (r.sub b o e)
  subL := fun b o e => k b o (fun q => (oz.2 o).2.2 (q ▸ e)) (r.subL b o e)
  kh := r.kh
  solid := r.solid
  npt := r.npt
  nos := r.nos
set_option tactic.hygienic false in
theorem Rep0.grow {X : Fx} {W : Wd} {h h' : Heap} (r : Rep0 X W h) (k : ∀ b o, h.get? b = some o → h'.get? b = some o) : Rep0 X W h' where
  tab := r.tab.at fun o e => k _ o e
  base := fun b o hb e => k b o (r.base b o hb e)
  prot := fun b o e => k b o (r.prot b o e)
  sub := fun b o e => k b o (r.sub b o e)
  subL := fun b o e => k b o (r.subL b o e)
  kh := r.kh
  solid := r.solid
  npt := r.npt
  nos := r.nos
set_option tactic.hygienic false in
theorem Rep0.kx {X : Fx} {W : Wd} {h : Heap} (ok : FxOK X) (r : Rep0 X W h) : (kmk.heap_1 X.w.params).In h := fun a o e => by
  refine r.base a o (fun q => ?_) (ok.kx a o e)
  subst q
  have : (kmk.heap_1 X.w.params).lookup PT = none := by kernel_rfl
  rw [this] at e
  cases e
set_option tactic.hygienic false in
theorem Rep0.top {X : Fx} {W : Wd} {h : Heap} (ok : FxOK X) (r : Rep0 X W h) : TopRead qv loose X.mg X.mb h where
  g := ok.top.g.at' fun o e => r.base _ o (by decide) e
  b := ok.top.b.at' fun o e => r.base _ o (by decide) e
  nolimit := let ⟨mc, a, b⟩ := ok.top.nolimit; ⟨mc, a.at' fun o e => r.base _ o (by decide) e, b⟩
  builtins := ok.top.builtins
  free := ok.top.free

set_option tactic.hygienic false in
theorem Rep.grow {X : Fx} {W : Wd} {st : St} {h h' : Heap} (r : Rep X W st h) (k : ∀ b o, h.get? b = some o → h'.get? b = some o) : Rep X W st h' where
  z := r.z.grow k
  n := ⟨r.n.own, let ⟨m, a, b⟩ := r.n.ns; ⟨m, a.keeps k, b⟩⟩
  c := ⟨fun x c e => let ⟨a, b, v, d⟩ := r.c.own x c e; ⟨a, b, v, d.keeps k⟩, r.c.inj, fun x v e => let ⟨c, u, a, b, d⟩ := r.c.val x v e; ⟨c, u, a, b.keeps k, d⟩⟩
  l := ⟨r.l.len, fun i fz l e => let ⟨a, b, d⟩ := r.l.at_ i fz l e; ⟨a, b, let ⟨o, it, x, y⟩ := d.at_; ⟨o, it, k _ _ x, y⟩, d.nL, d.nC, d.new, d.own⟩, r.l.inj⟩
set_option tactic.hygienic false in
/-- a name of the frame is stored -/
theorem Rep.storeL {X : Fx} {W : Wd} {st : St} {h h' : Heap} {x : Str} {v : SV} {u : Value} {m : Str → Option Value} (ok : FxOK X) (r : Rep X W st h)
    (hm : ∀ x v, lk x st.loc = some v → ∃ u, m x = some u ∧ VR W v u) (hn : h'.Ns X.L fun y => if y = x then some u else m y) (hs : Heap.SameBut X.L h h') (hv : VR W v u) : Rep X W { st with loc := up x v st.loc } h' := by
  have k : ∀ b o, b ≠ X.L → h.get? b = some o → h'.get? b = some o := hs.extBut
  refine ⟨r.z.change ok r.n.own k, ⟨r.n.own, _, hn, fun y v' e => ?_⟩, ⟨fun y c e => ?_, r.c.inj, fun y v' e => ?_⟩, ⟨r.l.len, fun i fz l e => ?_, r.l.inj⟩⟩
  · dsimp only at e
    rw [lk_up] at e
    by_cases hy : y = x
    · rw [if_pos hy] at e
      cases e
      exact ⟨u, if_pos hy, hv⟩
    · rw [if_neg hy] at e
      obtain ⟨u', e1, e2⟩ := hm y v' e
      exact ⟨u', (if_neg hy).trans e1, e2⟩
  · obtain ⟨a, b, v', d⟩ := r.c.own y c e
    exact ⟨a, b, v', let ⟨o, p, q⟩ := d; ⟨o, k _ _ b p, q⟩⟩
  · obtain ⟨c, u', a, b, d⟩ := r.c.val y v' e
    exact ⟨c, u', a, let ⟨o, p, q⟩ := b; ⟨o, k _ _ (r.c.own _ _ a).2.1 p, q⟩, d⟩
  · obtain ⟨a, b, d⟩ := r.l.at_ i fz l e
    exact ⟨a, b, let ⟨o, it, p, q⟩ := d.at_; ⟨o, it, k _ _ d.nL p, q⟩, d.nL, d.nC, d.new, d.own⟩
set_option tactic.hygienic false in
/-- a captured name is stored -/
theorem Rep.storeC {X : Fx} {W : Wd} {st : St} {h h' : Heap} {x : Str} {v : SV} {u : Value} {c : Addr} (ok : FxOK X) (r : Rep X W st h)
    (hro : X.ro = false) (hc : X.cs.lookup x = some c) (hn : h'.IsCell c (some u)) (hs : Heap.SameBut c h h') (hv : VR W v u) : Rep X W { st with cel := up x v st.cel } h' := by
  have k : ∀ b o, b ≠ c → h.get? b = some o → h'.get? b = some o := hs.extBut
  obtain ⟨oc, cL, _⟩ := r.c.own x c hc
  have oc : Own X W c := by unfold OwnC at oc; rw [hro] at oc; exact oc
  refine ⟨r.z.change ok oc k, ⟨r.n.own, let ⟨m, a, b⟩ := r.n.ns; ⟨m, a.at' fun o e => k _ o cL.symm e, b⟩⟩, ⟨fun y c' e => ?_, r.c.inj, fun y v' e => ?_⟩, ⟨r.l.len, fun i fz l e => ?_, r.l.inj⟩⟩
  · obtain ⟨a, b, v', d⟩ := r.c.own y c' e
    by_cases q : c' = c
    · exact ⟨a, b, some u, q ▸ hn⟩
    · exact ⟨a, b, v', let ⟨o, p, q'⟩ := d; ⟨o, k _ _ q p, q'⟩⟩
  · dsimp only at e
    rw [lk_up] at e
    by_cases hy : y = x
    · rw [if_pos hy] at e
      cases e
      exact ⟨c, u, hy ▸ hc, hn, hv⟩
    · rw [if_neg hy] at e
      obtain ⟨c', u', a, b, d⟩ := r.c.val y v' e
      have : c' ≠ c := fun q => hy (r.c.inj y x c (q ▸ a) hc)
      exact ⟨c', u', a, let ⟨o, p, q⟩ := b; ⟨o, k _ _ this p, q⟩, d⟩
  · obtain ⟨a, b, d⟩ := r.l.at_ i fz l e
    exact ⟨a, b, let ⟨o, it, p, q⟩ := d.at_; ⟨o, it, k _ _ (fun e => d.nC x (e ▸ hc)) p, q⟩, d.nL, d.nC, d.new, d.own⟩
set_option tactic.hygienic false in
/-- a list that turns is changed -/
theorem Rep.setL {X : Fx} {W : Wd} {st : St} {h h' : Heap} {i : Nat} {l l' : List SV} {a : Addr} {items : Array Value} (ok : FxOK X) (r : Rep X W st h)
    (hi : st.mls[i]? = some (false, l)) (ha : W.eta[i]? = some a) (hn : ∃ o, h'.get? a = some o ∧ LstO o items) (hs : Heap.SameBut a h h') (hv : VRs W l' items.toList) : Rep X W { st with mls := st.mls.set i (false, l') } h' := by
  have k : ∀ b o, b ≠ a → h.get? b = some o → h'.get? b = some o := hs.extBut
  obtain ⟨a', ha', d⟩ := r.l.at_ i false l hi
  obtain rfl : a' = a := by rw [ha] at ha'; exact (Option.some.inj ha').symm
  have oa := d.own rfl
  refine ⟨r.z.change ok oa k, ⟨r.n.own, let ⟨m, x, b⟩ := r.n.ns; ⟨m, x.at' fun o e => k _ o d.nL.symm e, b⟩⟩, ⟨fun y c' e => ?_, r.c.inj, fun y v' e => ?_⟩, ⟨by dsimp only; rw [List.length_set]; exact r.l.len, fun j fz l₂ e => ?_, r.l.inj⟩⟩
  · obtain ⟨x, b, v', q⟩ := r.c.own y c' e
    exact ⟨x, b, v', let ⟨o, p, q'⟩ := q; ⟨o, k _ _ (fun z => d.nC y (z ▸ e)) p, q'⟩⟩
  · obtain ⟨c', u', x, b, q⟩ := r.c.val y v' e
    exact ⟨c', u', x, let ⟨o, p, q⟩ := b; ⟨o, k _ _ (fun z => d.nC y (z ▸ x)) p, q⟩, q⟩
  · dsimp only at e
    by_cases q : j = i
    · subst q
      have hlt : j < st.mls.length := (List.getElem?_eq_some_iff.mp hi).1
      rw [List.getElem?_set_self hlt] at e
      cases e
      obtain ⟨o, g1, g2⟩ := hn
      exact ⟨a', ha, ⟨o, items, g1, g2, hv, fun z => by cases z⟩, d.nL, d.nC, d.new, d.own⟩
    · rw [List.getElem?_set_ne (Ne.symm q)] at e
      obtain ⟨b, hb, d₂⟩ := r.l.at_ j fz l₂ e
      have : b ≠ a' := fun z => q (r.l.inj j i a' (z ▸ hb) ha)
      exact ⟨b, hb, let ⟨o, it, p, q⟩ := d₂.at_; ⟨o, it, k _ _ this p, q⟩, d₂.nL, d₂.nC, d₂.new, d₂.own⟩

set_option tactic.hygienic false in
theorem Rep0.none_of {X : Fx} {W : Wd} {h : Heap} {a : Addr} (r : Rep0 X W h) (e : h.get? a = none) : X.h0.get? a = none ∧ a ≠ PT ∧ (∀ o, ¬ X.R a o ∧ ¬ W.H a o ∧ ¬ W.HL a o) := by
  have hp : a ≠ PT := fun q => by
    obtain ⟨o, vs, t, _⟩ := r.tab
    rw [q, t] at e
    cases e
  refine ⟨?_, hp, fun o => ⟨fun q => ?_, fun q => ?_, fun q => ?_⟩⟩
  · rcases q : X.h0.get? a with _ | o
    · rfl
    · have := r.base a o hp q; rw [e] at this; cases this
  · have := r.prot a o q; rw [e] at this; cases this
  · have := r.sub a o q; rw [e] at this; cases this
  · have := r.subL a o q; rw [e] at this; cases this
set_option tactic.hygienic false in
theorem Ns_some {h : Heap} {a : Addr} {m : Str → Option Value} (n : h.Ns a m) : ∃ o, h.get? a = some o := let ⟨o, _, _, e, _⟩ := n; ⟨o, e⟩
set_option tactic.hygienic false in
theorem Rep.untr {X : Fx} {W : Wd} {st : St} {h : Heap} {a : Addr} (r : Rep X W st h) (fr : h.get? a = none) : Untr X W a := by
  have nn := r.z.none_of fr
  have ex : ∀ {b o}, h.get? b = some o → a ≠ b := fun {b o} e q => by rw [← q, fr] at e; cases e
  refine ⟨⟨nn.1, nn.2.2⟩, ?_, fun x q => ?_, fun i e => ?_⟩
  · obtain ⟨m, hm, _⟩ := r.n.ns
    obtain ⟨o', e'⟩ := Ns_some hm
    exact ex e'
  · obtain ⟨_, _, v, o', e', _⟩ := r.c.own x _ q
    exact ex e' rfl
  · have hlt : i < st.mls.length := r.l.len ▸ (List.getElem?_eq_some_iff.mp e).1
    obtain ⟨c, hc, d⟩ := r.l.at_ i (st.mls[i]).1 (st.mls[i]).2 (List.getElem?_eq_getElem hlt)
    rw [e] at hc
    cases hc
    obtain ⟨o, _, q, _⟩ := d.at_
    exact ex q rfl
set_option tactic.hygienic false in
/-- the heap grew; new facts hold of new objects; what the frame does not know may turn -/
theorem Rep.extendU {X : Fx} {W : Wd} {st : St} {h h' : Heap} {H' HL' : Addr → Obj → Prop} (un : Addr → Prop) (hu : ∀ b, un b → Untr X W b) (ok : FxOK X) (r : Rep X W st h) (k : ∀ b o, b ≠ PT → ¬ un b → h.get? b = some o → h'.get? b = some o) (t : TabOK h')
    (hH : ∀ b o, W.H b o → H' b o) (hL : ∀ b o, W.HL b o → HL' b o) (nH : ∀ b o, H' b o → h'.get? b = some o ∧ (W.H b o ∨ h.get? b = none)) (nL : ∀ b o, HL' b o → h'.get? b = some o ∧ (W.HL b o ∨ h.get? b = none)) :
    W.le ⟨H', HL', W.eta⟩ ∧ Rep X ⟨H', HL', W.eta⟩ st h' := by
  have le : W.le ⟨H', HL', W.eta⟩ := ⟨hH, hL, fun _ _ e => e⟩
  have keep : ∀ b, (∃ o, h.get? b = some o) → Own X W b → Own X ⟨H', HL', W.eta⟩ b := by
    rintro b ⟨o, e⟩ ⟨a1, a2⟩
    refine ⟨a1, fun o' => ⟨(a2 o').1, fun q => ?_, fun q => ?_⟩⟩
    · rcases (nH b o' q).2 with q | q
      · exact (a2 o').2.1 q
      · rw [e] at q; cases q
    · rcases (nL b o' q).2 with q | q
      · exact (a2 o').2.2 q
      · rw [e] at q; cases q
  obtain ⟨m, hm, hv⟩ := r.n.ns
  refine ⟨le, ⟨t, fun b o hb e => k b o hb (fun q => by rw [(hu b q).own.1] at e; cases e) (r.z.base b o hb e), fun b o e => k b o (fun q => (r.z.npt o).1 (q ▸ e)) (fun q => ((hu b q).own.2 o).1 e) (r.z.prot b o e), fun b o e => (nH b o e).1, fun b o e => (nL b o e).1, fun b o e => hH _ _ (r.z.kh b o e), fun b o e => ?_, fun o => ⟨(r.z.npt o).1, fun q => ?_, fun q => ?_⟩, fun b hb o => ⟨fun q => ?_, fun q => ?_⟩⟩,
    ⟨keep _ (Ns_some hm) r.n.own, m, hm.at' fun o e => k _ o (r.n.own.ne_pt ok) (fun q => (hu _ q).nL rfl) e, fun x v e => let ⟨u, a, b⟩ := hv x v e; ⟨u, a, b.mono le⟩⟩,
    ⟨fun x c e => ?_, r.c.inj, fun x v e => ?_⟩, ⟨r.l.len, fun i fz l e => ?_, r.l.inj⟩⟩
  · rcases (nH b o e).2 with q | q
    · exact r.z.solid b o q
    · exact .inr (r.z.none_of q).1
  · rcases (nH PT o q).2 with q | q
    · exact (r.z.npt o).2.1 q
    · exact (r.z.none_of q).2.1 rfl
  · rcases (nL PT o q).2 with q | q
    · exact (r.z.npt o).2.2 q
    · exact (r.z.none_of q).2.1 rfl
  · rcases (nH b o q).2 with q | q
    · exact (r.z.nos b hb o).1 q
    · obtain ⟨o', ho'⟩ := ok.nR b hb
      have := r.z.prot b o' ho'
      rw [q] at this; cases this
  · rcases (nL b o q).2 with q | q
    · exact (r.z.nos b hb o).2 q
    · obtain ⟨o', ho'⟩ := ok.nR b hb
      have := r.z.prot b o' ho'
      rw [q] at this; cases this
  · obtain ⟨a, b, v, o, d1, d2⟩ := r.c.own x c e
    exact ⟨a.mono (keep c ⟨o, d1⟩), b, v, o, k c o (a.ne_pt ok) (fun q => (hu c q).nC x e) d1, d2⟩
  · obtain ⟨c, u, a, ⟨o, b1, b2⟩, d⟩ := r.c.val x v e
    exact ⟨c, u, a, ⟨o, k c o ((r.c.own _ _ a).1.ne_pt ok) (fun q => (hu c q).nC x a) b1, b2⟩, d.mono le⟩
  · obtain ⟨a, b, d⟩ := r.l.at_ i fz l e
    obtain ⟨o, it, x, y, z, q⟩ := d.at_
    have np : a ≠ PT := fun q => by
      obtain ⟨o', ho'⟩ := ok.pt
      have := d.new
      rw [q, ho'] at this
      cases this
    exact ⟨a, b, ⟨o, it, k a o np (fun q => (hu a q).nE i b) x, y, z.mono le, fun f => hL _ _ (q f)⟩, d.nL, d.nC, d.new, fun f => keep a ⟨o, x⟩ (d.own f)⟩
set_option tactic.hygienic false in
/-- the heap grew; new facts hold of new objects -/
theorem Rep.extend {X : Fx} {W : Wd} {st : St} {h h' : Heap} {H' HL' : Addr → Obj → Prop} (ok : FxOK X) (r : Rep X W st h) (k : ∀ b o, b ≠ PT → h.get? b = some o → h'.get? b = some o) (t : TabOK h')
    (hH : ∀ b o, W.H b o → H' b o) (hL : ∀ b o, W.HL b o → HL' b o) (nH : ∀ b o, H' b o → h'.get? b = some o ∧ (W.H b o ∨ h.get? b = none)) (nL : ∀ b o, HL' b o → h'.get? b = some o ∧ (W.HL b o ∨ h.get? b = none)) :
    W.le ⟨H', HL', W.eta⟩ ∧ Rep X ⟨H', HL', W.eta⟩ st h' := r.extendU (fun _ => False) (fun _ q => q.elim) ok (fun b o hb _ e => k b o hb e) t hH hL nH nL
set_option tactic.hygienic false in
/-- a new list that may turn -/
theorem Rep.newLU {X : Fx} {W : Wd} {st : St} {h' : Heap} {a : Addr} {o : Obj} {items : Array Value} {l : List SV} (ut : Untr X W a) (r' : Rep X W st h') (e : h'.get? a = some o) (ho : LstO o items) (hv : VRs W l items.toList) :
    W.le ⟨W.H, W.HL, W.eta ++ [a]⟩ ∧ Rep X ⟨W.H, W.HL, W.eta ++ [a]⟩ (newL st l).2 h' ∧ VR ⟨W.H, W.HL, W.eta ++ [a]⟩ (newL st l).1 (.ref a) := by
  have le : W.le ⟨W.H, W.HL, W.eta ++ [a]⟩ := ⟨fun _ _ h => h, fun _ _ h => h, fun i b e => by
    have := (List.getElem?_eq_some_iff.mp e).1
    dsimp only
    rw [List.getElem?_append_left this]; exact e⟩
  obtain ⟨m, hm, hv'⟩ := r'.n.ns
  refine ⟨le, ⟨⟨r'.z.tab, r'.z.base, r'.z.prot, r'.z.sub, r'.z.subL, r'.z.kh, r'.z.solid, r'.z.npt, r'.z.nos⟩, ⟨r'.n.own, m, hm, fun x v e => let ⟨u, p, q⟩ := hv' x v e; ⟨u, p, q.mono le⟩⟩,
    ⟨fun x c e => let ⟨p, q⟩ := r'.c.own x c e; ⟨p.mono id, q⟩, r'.c.inj, fun x v e => let ⟨c, u, p, q, s⟩ := r'.c.val x v e; ⟨c, u, p, q, s.mono le⟩⟩, ⟨?_, fun i fz l₂ q => ?_, fun i j b p q => ?_⟩⟩, ?_⟩
  · show (W.eta ++ [a]).length = (st.mls ++ [(false, l)]).length
    rw [List.length_append, List.length_append, r'.l.len]; rfl
  · have q' : (st.mls ++ [(false, l)])[i]? = some (fz, l₂) := q
    by_cases hlt : i < st.mls.length
    · rw [List.getElem?_append_left hlt] at q'
      obtain ⟨b, hb, d⟩ := r'.l.at_ i fz l₂ q'
      refine ⟨b, le.e i b hb, let ⟨o, it, x, y, z, w⟩ := d.at_; ⟨o, it, x, y, z.mono le, w⟩, d.nL, d.nC, d.new, d.own⟩
    · rw [List.getElem?_append_right (Nat.not_lt.mp hlt)] at q'
      have hi : i - st.mls.length = 0 := by
        rcases Nat.eq_zero_or_pos (i - st.mls.length) with z | z
        · exact z
        · rw [List.getElem?_eq_none (show List.length [(false, l)] ≤ _ from z)] at q'; cases q'
      rw [hi] at q'
      cases q'
      have hi' : i = st.mls.length := Nat.le_antisymm (Nat.le_of_sub_eq_zero hi) (Nat.not_lt.mp hlt)
      refine ⟨a, ?_, ⟨o, items, e, ho, hv.mono le, fun z => by cases z⟩, ut.nL, ut.nC, ut.own.1, fun _ => ut.own⟩
      dsimp only
      rw [hi', ← r'.l.len, List.getElem?_append_right (Nat.le_refl _), Nat.sub_self]; rfl
  · have key : ∀ (i : Nat) b, (W.eta ++ [a])[i]? = some b → (W.eta[i]? = some b) ∨ (i = W.eta.length ∧ b = a) := fun i b e => by
      by_cases hlt : i < W.eta.length
      · rw [List.getElem?_append_left hlt] at e; exact .inl e
      · rw [List.getElem?_append_right (Nat.not_lt.mp hlt)] at e
        have hi : i - W.eta.length = 0 := by
          rcases Nat.eq_zero_or_pos (i - W.eta.length) with z | z
          · exact z
          · rw [List.getElem?_eq_none (show List.length [a] ≤ _ from z)] at e; cases e
        rw [hi] at e
        cases e
        exact .inr ⟨Nat.le_antisymm (Nat.le_of_sub_eq_zero hi) (Nat.not_lt.mp hlt), rfl⟩
    rcases key i b p with p | ⟨p, pa⟩ <;> rcases key j b q with q | ⟨q, qa⟩
    · exact r'.l.inj i j b p q
    · exact absurd (qa ▸ p) (ut.nE i)
    · exact absurd (pa ▸ q) (ut.nE j)
    · rw [p, q]
  · show VR _ (.ml st.mls.length) (.ref a)
    simp only [VR]
    refine ⟨a, rfl, ?_⟩
    rw [← r'.l.len, List.getElem?_append_right (Nat.le_refl _), Nat.sub_self]; rfl
set_option tactic.hygienic false in
/-- a new solid object -/
theorem Rep.addH {X : Fx} {W : Wd} {st : St} {h h' : Heap} {a : Addr} {o : Obj} (ok : FxOK X) (r : Rep X W st h) (r' : Rep X W st h') (fr : h.get? a = none) (e : h'.get? a = some o) :
    W.le ⟨fun b p => W.H b p ∨ (b = a ∧ p = o), W.HL, W.eta⟩ ∧ Rep X ⟨fun b p => W.H b p ∨ (b = a ∧ p = o), W.HL, W.eta⟩ st h' := by
  have le : W.le ⟨fun b p => W.H b p ∨ (b = a ∧ p = o), W.HL, W.eta⟩ := ⟨fun _ _ h => .inl h, fun _ _ h => h, fun _ _ e => e⟩
  have nn := r.z.none_of fr
  have ex : ∀ {b o}, h.get? b = some o → b ≠ a := fun {b o} e q => by rw [q, fr] at e; cases e
  have keep : ∀ b, b ≠ a → Own X W b → Own X ⟨fun b p => W.H b p ∨ (b = a ∧ p = o), W.HL, W.eta⟩ b := fun b hb q => ⟨q.1, fun o' => ⟨(q.2 o').1, fun w => by
    rcases w with w | w
    · exact (q.2 o').2.1 w
    · exact hb w.1, (q.2 o').2.2⟩⟩
  obtain ⟨m, hm, hv⟩ := r'.n.ns
  have hL : X.L ≠ a := by
    obtain ⟨m, hm, _⟩ := r.n.ns
    obtain ⟨o', e'⟩ := Ns_some hm
    exact ex e'
  have hC : ∀ x c, X.cs.lookup x = some c → c ≠ a := fun x c q => by
    obtain ⟨_, _, v, o', e', _⟩ := r.c.own x c q
    exact ex e'
  have em : ∀ (i : Nat) b, W.eta[i]? = some b → b ≠ a := fun i b e => by
    have hlt : i < st.mls.length := r.l.len ▸ (List.getElem?_eq_some_iff.mp e).1
    obtain ⟨c, hc, d⟩ := r.l.at_ i (st.mls[i]).1 (st.mls[i]).2 (List.getElem?_eq_getElem hlt)
    rw [e] at hc
    cases hc
    obtain ⟨o, _, q, _⟩ := d.at_
    exact ex q
  refine ⟨le, ⟨⟨r'.z.tab, r'.z.base, r'.z.prot, fun b p q => ?_, r'.z.subL, fun b p q => .inl (r'.z.kh b p q), fun b p q => ?_, fun p => ⟨(r'.z.npt p).1, fun q => ?_, (r'.z.npt p).2.2⟩, fun b hb p => ⟨fun q => ?_, (r'.z.nos b hb p).2⟩⟩,
    ⟨keep _ hL r'.n.own, m, hm, fun x v e => let ⟨u, p, q⟩ := hv x v e; ⟨u, p, q.mono le⟩⟩,
    ⟨fun x c e => let ⟨p, q⟩ := r'.c.own x c e; ⟨p.mono (keep c (hC x c e)), q⟩, r'.c.inj, fun x v e => let ⟨c, u, p, q, s⟩ := r'.c.val x v e; ⟨c, u, p, q, s.mono le⟩⟩,
    ⟨r'.l.len, fun i fz l q => ?_, r'.l.inj⟩⟩⟩
  · rcases q with q | ⟨rfl, rfl⟩
    · exact r'.z.sub b p q
    · exact e
  · rcases q with q | ⟨rfl, rfl⟩
    · exact r'.z.solid b p q
    · exact .inr nn.1
  · rcases q with q | ⟨q, _⟩
    · exact (r'.z.npt p).2.1 q
    · exact nn.2.1 q.symm
  · rcases q with q | ⟨q, _⟩
    · exact (r'.z.nos b hb p).1 q
    · obtain ⟨o', ho'⟩ := ok.nR b hb
      exact (nn.2.2 o').1 (q ▸ ho')
  · obtain ⟨b, hb, d⟩ := r'.l.at_ i fz l q
    exact ⟨b, hb, let ⟨o, it, x, y, z, w⟩ := d.at_; ⟨o, it, x, y, z.mono le, w⟩, d.nL, d.nC, d.new, fun f => keep b (em i b hb) (d.own f)⟩
/-- a list is told to stay -/
theorem Rep.froz {X : Fx} {W : Wd} {st : St} {h : Heap} (ok : FxOK X) (r : Rep X W st h) (v : SV) : ∃ W', W.le W' ∧ Rep X W' (froz st v) h ∧ W'.eta = W.eta ∧ W'.H = W.H := by
  unfold Mine.froz
  split
  · next i =>
    split
    · next fz l e =>
      rcases fz with _ | _
      rotate_left
      ·
        refine ⟨W, .refl W, ?_, rfl, rfl⟩
        have : st.mls.set i (true, l) = st.mls := by
          apply List.ext_getElem?
          intro j
          by_cases q : j = i
          · subst q; rw [List.getElem?_set_self (List.getElem?_eq_some_iff.mp e).1, e]
          · rw [List.getElem?_set_ne (Ne.symm q)]
        rw [this]; exact r
      ·
        obtain ⟨a, ha, d⟩ := r.l.at_ i false l e
        obtain ⟨o, items, x, y, z, _⟩ := d.at_
        have oa := d.own rfl
        have le : W.le ⟨W.H, fun b o' => W.HL b o' ∨ (b = a ∧ o' = o), W.eta⟩ := ⟨fun _ _ h => h, fun _ _ h => .inl h, fun _ _ e => e⟩
        have keep : ∀ b, b ≠ a → Own X W b → Own X ⟨W.H, fun b o' => W.HL b o' ∨ (b = a ∧ o' = o), W.eta⟩ b := fun b hb q => ⟨q.1, fun o' => ⟨(q.2 o').1, (q.2 o').2.1, fun w => by
          rcases w with w | w
          · exact (q.2 o').2.2 w
          · exact hb w.1⟩⟩
        refine ⟨⟨W.H, fun b o' => W.HL b o' ∨ (b = a ∧ o' = o), W.eta⟩, le, ⟨⟨r.z.tab, r.z.base, r.z.prot, r.z.sub, fun b o' q => ?_, r.z.kh, r.z.solid, fun o' => ⟨(r.z.npt o').1, (r.z.npt o').2.1, fun q => ?_⟩, fun b hb o' => ⟨(r.z.nos b hb o').1, fun q => ?_⟩⟩,
          ⟨keep _ d.nL.symm r.n.own, let ⟨m, p, q⟩ := r.n.ns; ⟨m, p, fun x v e => let ⟨u, s, t⟩ := q x v e; ⟨u, s, t.mono le⟩⟩⟩,
          ⟨fun x c e => let ⟨p, q, s⟩ := r.c.own x c e; ⟨p.mono (keep c (fun w => d.nC x (w ▸ e))), q, s⟩, r.c.inj, fun x v e => let ⟨c, u, p, q, s⟩ := r.c.val x v e; ⟨c, u, p, q, s.mono le⟩⟩,
          ⟨by dsimp only; rw [List.length_set]; exact r.l.len, fun j fz₂ l₂ q => ?_, r.l.inj⟩⟩, rfl, rfl⟩
        · rcases q with q | ⟨rfl, rfl⟩
          · exact r.z.subL b o' q
          · exact x
        · rcases q with q | q
          · exact (r.z.npt o').2.2 q
          · exact oa.ne_pt ok q.1.symm
        · rcases q with q | q
          · exact (r.z.nos b hb o').2 q
          · obtain ⟨o₂, ho₂⟩ := ok.nR b hb
            exact (oa.2 o₂).1 (q.1 ▸ ho₂)
        · dsimp only at q
          by_cases w : j = i
          · subst w
            rw [List.getElem?_set_self (List.getElem?_eq_some_iff.mp e).1] at q
            cases q
            exact ⟨a, ha, ⟨o, items, x, y, z.mono le, fun _ => .inr ⟨rfl, rfl⟩⟩, d.nL, d.nC, d.new, fun z => by cases z⟩
          · rw [List.getElem?_set_ne (Ne.symm w)] at q
            obtain ⟨b, hb, d₂⟩ := r.l.at_ j fz₂ l₂ q
            have : b ≠ a := fun z => w (r.l.inj j i a (z ▸ hb) ha)
            exact ⟨b, hb, let ⟨o, it, x, y, z, w⟩ := d₂.at_; ⟨o, it, x, y, z.mono le, fun f => .inl (w f)⟩, d₂.nL, d₂.nC, d₂.new, fun f => keep b this (d₂.own f)⟩
    · exact ⟨W, .refl W, r, rfl, rfl⟩
  · exact ⟨W, .refl W, r, rfl, rfl⟩
structure Sh (s s' : Shared) : Prop where
  d : s'.drawn = s.drawn
  o : s'.os = s.os
  g : AllBare s.gens → AllBare s'.gens
set_option tactic.hygienic false in
theorem Sh.refl (s : Shared) : Sh s s := ⟨rfl, rfl, fun h => h⟩
set_option tactic.hygienic false in
theorem Sh.trans {s s' s'' : Shared} (x : Sh s s') (y : Sh s' s'') : Sh s s'' := ⟨y.d.trans x.d, y.o.trans x.o, fun h => y.g (x.g h)⟩
set_option tactic.hygienic false in
theorem Sh.heap (s : Shared) (h : Heap) (tk : Nat) : Sh s { s with heap := h, toks := tk } := ⟨rfl, rfl, fun h => h⟩
/-- room around a run: OKC at a call, OKA within a frame -/
structure OKB (m n : Nat) (A : Around) : Prop where
  h : A.handled = none
  d : A.depth + n ≤ 900
  u : A.units + 10 * n + m ≤ 3000
abbrev OKA := OKB 5
abbrev OKC := OKB 0
set_option tactic.hygienic false in
theorem OKB.c {m n : Nat} {A : Around} (h : OKB m n A) : OKC n A := ⟨h.h, h.d, Nat.le_trans (Nat.add_le_add_left (Nat.zero_le m) _) h.u⟩
set_option tactic.hygienic false in
theorem OKB.in1 {m n : Nat} {A : Around} (h : OKB (m + 1) n A) : OKB m n A.in1 := ⟨h.h, h.d, by have := h.u; show A.units + 1 + 10 * n + m ≤ 3000; omega⟩
noncomputable def VErr (X : Fx) (h : Heap) (e : Addr) : Prop := X.h0.get? e = none ∧ ∃ t, h.get? e = some { cls := .type "ValueError", data := .fields #[.ref t, .none, .none, .none, .bool false, .none] }
noncomputable def Post (X : Fx) (W : Wd) (s : Shared) (Q : Value → Shared → Prop) (r : SV × St) : Prop :=
  ∀ s' W' u, W.le W' → Rep X W' r.2 s'.heap → Sh s s' → VR W' r.1 u → Q u s'
noncomputable def PostX (X : Fx) (W : Wd) (s : Shared) (E : Value → Shared → Prop) (st : St) : Prop :=
  ∀ s' W' e, W.le W' → Rep X W' st s'.heap → Sh s s' → VErr X s'.heap e → E (.ref e) s'
set_option tactic.hygienic false in
theorem Post.same {X : Fx} {W : Wd} {s : Shared} {Q : Value → Shared → Prop} {r : SV × St} {u : Value} (p : Post X W s Q r) (rep : Rep X W r.2 s.heap) (v : VR W r.1 u) : Q u s := p s W u (.refl W) rep (.refl s) v
set_option tactic.hygienic false in
theorem Post.tok {X : Fx} {W : Wd} {s : Shared} {Q : Value → Shared → Prop} {r : SV × St} {u : Value} {tk : Nat} (p : Post X W s Q r) (rep : Rep X W r.2 s.heap) (v : VR W r.1 u) : Q u { s with toks := tk } := p _ W u (.refl W) rep (.heap s s.heap tk) v
set_option tactic.hygienic false in
theorem Post.step {X : Fx} {W W' : Wd} {s s' : Shared} {Q : Value → Shared → Prop} {r : SV × St} (p : Post X W s Q r) (le : W.le W') (sh : Sh s s') : Post X W' s' Q r :=
  fun s'' W'' u l r h v => p s'' W'' u (le.trans l) r (sh.trans h) v
set_option tactic.hygienic false in
theorem PostX.step {X : Fx} {W W' : Wd} {s s' : Shared} {E : Value → Shared → Prop} {st : St} (p : PostX X W s E st) (le : W.le W') (sh : Sh s s') : PostX X W' s' E st :=
  fun s'' W'' u l r h v => p s'' W'' u (le.trans l) r (sh.trans h) v

/-- what a run leans on at a call of a def of the text -/
structure CallPost (s : Shared) (H : Addr → Obj → Prop) (s' : Shared) (H' HL' : Addr → Obj → Prop) : Prop where
  tab : TabOK s'.heap
  keep : ∀ b o, b ≠ PT → s.heap.get? b = some o → s'.heap.get? b = some o
  up : ∀ b o, H b o → H' b o
  new : ∀ b o, H' b o → s'.heap.get? b = some o ∧ (H b o ∨ s.heap.get? b = none)
  newL : ∀ b o, HL' b o → s'.heap.get? b = some o ∧ s.heap.get? b = none
  sh : Sh s s'
structure CallPre (w : World) (mg mb : Str → Option Value) (s : Shared) (H HL : Addr → Obj → Prop) : Prop where
  kx : (kmk.heap_1 w.params).In s.heap
  top : TopRead qv loose mg mb s.heap
  tab : TabOK s.heap
  bm : BM s.heap
  kh : ∀ b o, (kmk.heap_1 w.params).lookup b = some o → H b o
  sub : ∀ b o, H b o → s.heap.get? b = some o ∧ b ≠ PT
  subL : ∀ b o, HL b o → s.heap.get? b = some o ∧ b ≠ PT
noncomputable def Con (n : Nat) (f : Nat) (args : List SV) (t : T Unit SV) : Prop :=
  ∀ (w : World) (mg mb : Str → Option Value) (A : Around) (s : Shared) (H HL : Addr → Obj → Prop) (vals : List Value) (Q E : Value → Shared → Prop), OKC n A → CallPre w mg mb s H HL → VRs ⟨H, HL, []⟩ args vals →
    t.Holds (fun r => ∀ s' H' HL' u, CallPost s H s' H' HL' → VR ⟨H', HL', []⟩ r u → Q u s') (fun _ => False) →
    wpAny (model PySem.Challenge.pw_lh0035_01 w) A (call (.ref f) vals) Q E s
noncomputable def FOK (n : Nat) (F : Nat → List SV → T Unit SV) : Prop := ∀ f args, Con n f args (F f args)

set_option tactic.hygienic false in
mutual
theorem VR.drop {W W' : Wd} (kh : ∀ a o, W.H a o → W'.H a o) (kl : ∀ a o, W.HL a o → W'.HL a o) : ∀ {x : SV} {v : Value}, x.pl = true → VR W x v → VR W' x v
  | .num _, _, _, h | .md _, _, _, h | .int _ _, _, _, h | .bool _, _, _, h | .sb _, _, _, h | .none, _, _, h | .str _, _, _, h | .fn _, _, _, h | .bi _, _, _, h => by simpa only [VR] using h
  | .ty x, _, _, h => by simp only [VR] at h ⊢; exact h.mono kl
  | .tup l, v, p, h => by
    simp only [VR] at h ⊢
    obtain ⟨a, o, items, e, h1, h2, h3⟩ := h
    exact ⟨a, o, items, e, kh _ _ h1, h2, VRs.drop kh kl (by simpa only [SV.pl, plL] using p) h3⟩
  | .el _ _ _, v, _, h => by
    simp only [VR] at h ⊢
    obtain ⟨a, e, h1⟩ := h
    exact ⟨a, e, h1.mono kh⟩
  | .sl l, v, p, h => by
    simp only [VR] at h ⊢
    obtain ⟨a, o, items, e, h1, h2, h3⟩ := h
    exact ⟨a, o, items, e, kh _ _ h1, h2, VRs.drop kh kl (by simpa only [SV.pl, plL] using p) h3⟩
  | .fl l, v, p, h => by
    simp only [VR] at h ⊢
    obtain ⟨a, o, items, e, h1, h2, h3⟩ := h
    exact ⟨a, o, items, e, kl _ _ h1, h2, VRs.drop kh kl (by simpa only [SV.pl, plL] using p) h3⟩
  | .ml _, v, p, h => by simp only [SV.pl] at p; cases p
theorem VRs.drop {W W' : Wd} (kh : ∀ a o, W.H a o → W'.H a o) (kl : ∀ a o, W.HL a o → W'.HL a o) : ∀ {l : List SV} {vs : List Value}, plL l = true → VRs W l vs → VRs W' l vs
  | [], _, _, h => by simpa only [VRs] using h
  | x :: l, vs, p, h => by
    simp only [VRs] at h ⊢
    obtain ⟨v, r, e, h1, h2⟩ := h
    unfold plL SV.pl.plL at p
    rcases q : x.pl with _ | _
    · rw [q] at p; cases p
    · rw [q] at p; exact ⟨v, r, e, VR.drop kh kl q h1, VRs.drop kh kl p h2⟩
end
mutual
/-- a value that may leave the def: no list within that may be another's -/
noncomputable def okR : SV → Bool
  | .ml _ => false
  | .fl _ => false
  | .ty x => x.isNone
  | .tup l => okRs l
  | .sl l => okRs l
  | _ => true
noncomputable def okRs : List SV → Bool
  | [] => true
  | x :: r => match okR x with
    | true => okRs r
    | false => false
end
set_option tactic.hygienic false in
mutual
theorem VR.out {W W' : Wd} (kh : ∀ a o, W.H a o → W'.H a o) : ∀ {x : SV} {v : Value}, okR x = true → VR W x v → VR W' x v
  | .num _, _, _, h | .md _, _, _, h | .int _ _, _, _, h | .bool _, _, _, h | .sb _, _, _, h | .none, _, _, h | .str _, _, _, h | .fn _, _, _, h | .bi _, _, _, h => by simpa only [VR] using h
  | .ty Option.none, _, _, h => by simpa only [VR, tyR] using h
  | .ty (some _), _, p, _ => Bool.noConfusion p
  | .tup l, v, p, h => by
    simp only [VR] at h ⊢
    obtain ⟨a, o, items, e, h1, h2, h3⟩ := h
    exact ⟨a, o, items, e, kh _ _ h1, h2, VRs.out kh p h3⟩
  | .el _ _ _, v, _, h => by
    simp only [VR] at h ⊢
    obtain ⟨a, e, h1⟩ := h
    exact ⟨a, e, h1.mono kh⟩
  | .sl l, v, p, h => by
    simp only [VR] at h ⊢
    obtain ⟨a, o, items, e, h1, h2, h3⟩ := h
    exact ⟨a, o, items, e, kh _ _ h1, h2, VRs.out kh p h3⟩
  | .fl l, v, p, h => Bool.noConfusion p
  | .ml _, v, p, h => Bool.noConfusion p
theorem VRs.out {W W' : Wd} (kh : ∀ a o, W.H a o → W'.H a o) : ∀ {l : List SV} {vs : List Value}, okRs l = true → VRs W l vs → VRs W' l vs
  | [], _, _, h => by simpa only [VRs] using h
  | x :: l, vs, p, h => by
    simp only [VRs] at h ⊢
    obtain ⟨v, r, e, h1, h2⟩ := h
    simp only [okRs] at p
    rcases q : okR x with _ | _
    · rw [q] at p; cases p
    · rw [q] at p; exact ⟨v, r, e, VR.out kh q h1, VRs.out kh p h2⟩
end
noncomputable def HLc (W : Wd) (h : Heap) : Addr → Obj → Prop := fun b o => W.HL b o ∨ ((∃ i : Nat, W.eta[i]? = some b) ∧ h.get? b = some o)
theorem toArg_sound {X : Fx} {W : Wd} {st : St} {h : Heap} (r : Rep X W st h) {v x : SV} {u : Value} (hv : VR W v u) (e : toArg st v = some x) : VR ⟨W.H, HLc W h, []⟩ x u := by
  have pl : ∀ v : SV, v.pl = true → VR W v u → VR ⟨W.H, HLc W h, []⟩ v u := fun v p hv => VR.drop (W := W) (W' := ⟨W.H, HLc W h, []⟩) (fun _ _ h => h) (fun _ _ h => Or.inl h) p hv
  unfold toArg at e
  split at e
  · next i =>
    split at e
    · next fz l q =>
      split at e
      · next pq =>
        cases e
        simp only [VR] at hv ⊢
        obtain ⟨a, rfl, ha⟩ := hv
        obtain ⟨a', ha', d⟩ := r.l.at_ i fz l q
        rw [ha] at ha'
        cases ha'
        obtain ⟨o, items, x, y, z, _⟩ := d.at_
        exact ⟨a, o, items, rfl, .inr ⟨⟨i, ha⟩, x⟩, y, VRs.drop (W := W) (W' := ⟨W.H, HLc W h, []⟩) (fun _ _ h => h) (fun _ _ h => Or.inl h) pq z⟩
      · cases e
    · cases e
  · split at e
    · next p => cases e; exact pl _ p hv
    · cases e
theorem toArgs_sound {X : Fx} {W : Wd} {st : St} {h : Heap} (r : Rep X W st h) : ∀ {l l' : List SV} {us : List Value}, VRs W l us → toArgs st l = some l' → VRs ⟨W.H, HLc W h, []⟩ l' us
  | [], _, _, hv, e => by simp only [toArgs] at e; cases e; simpa only [VRs] using hv
  | v :: l, l', us, hv, e => by
    simp only [VRs] at hv
    obtain ⟨u, rs, rfl, h1, h2⟩ := hv
    simp only [toArgs] at e
    split at e
    · next x e1 =>
      split at e
      · next l₂ e2 => cases e; exact .cons (toArg_sound r h1 e1) (toArgs_sound r h2 e2)
      · cases e
    · cases e
set_option tactic.hygienic false in
theorem holds_lift {α : Type} {st : St} {K : α × St → Prop} {KX : St → Prop} : ∀ {t : T Unit α}, (lift st t).Holds K KX → t.Holds (fun r => K (r, st)) (fun _ => False)
  | .ret _, h => h
  | .dec _ _ _, h => ⟨fun q => holds_lift (h.1 q), fun q => holds_lift (h.2 q)⟩
  | .need _ _, h => ⟨h.1, holds_lift h.2⟩
  | .exc _, h => h
  | .stuck, h => h
set_option tactic.hygienic false in
theorem holds_liftS {α : Type} {st : St} {K : α × St → Prop} {KX : St → Prop} : ∀ {t : T St α}, (liftS st t).Holds K KX → t.Holds (fun r => K (r, st)) (fun _ => False)
  | .ret _, h => h
  | .dec _ _ _, h => ⟨fun q => holds_liftS (h.1 q), fun q => holds_liftS (h.2 q)⟩
  | .need _ _, h => ⟨h.1, holds_liftS h.2⟩
  | .exc _, h => h
  | .stuck, h => h

section
variable {n : Nat} {C : Cx} {X : Fx} {W : Wd} {st : St} {A : Around} {s : Shared} {Q E : Value → Shared → Prop}
set_option tactic.hygienic false in
/-- a call of a def of the text, its contract at hand -/
theorem callF_sound {m : Nat} {f : Nat} {args l : List SV} {us : List Value} (hF : FOK n C.F) (ok : FxOK X) (hA : OKB m n A) (r : Rep X W st s.heap) (hv : VRs W l us) (ha : toArgs st l = some args)
    (h : (lift st (C.F f args)).Holds (Post X W s Q) (PostX X W s E)) : wpAny (model PySem.Challenge.pw_lh0035_01 X.w) A (call (.ref f) us) Q E s := by
  have hnp : ∀ {b o}, HLc W s.heap b o → b ≠ PT := fun {b o} q e => by
    rcases q with q | ⟨⟨i, q⟩, _⟩
    · exact (r.z.npt o).2.2 (e ▸ q)
    · have hlt : i < st.mls.length := r.l.len ▸ (List.getElem?_eq_some_iff.mp q).1
      obtain ⟨c, hc, d⟩ := r.l.at_ i (st.mls[i]).1 (st.mls[i]).2 (List.getElem?_eq_getElem hlt)
      rw [q] at hc
      cases hc
      obtain ⟨o', ho'⟩ := ok.pt
      have := d.new
      rw [e, ho'] at this
      cases this
  refine hF f args X.w X.mg X.mb A s W.H (HLc W s.heap) us Q E hA.c ⟨r.z.kx ok, r.z.top ok, r.z.tab, let ⟨o, e, q⟩ := ok.bm; ⟨o, r.z.base _ o (by decide) e, q⟩, r.z.kh, fun b o q => ⟨r.z.sub b o q, fun e => (r.z.npt o).2.1 (e ▸ q)⟩, fun b o q => ⟨?_, hnp q⟩⟩ (toArgs_sound r hv ha)
    ((holds_lift h).mono (fun a ha s' H' HL' u cp hv => ?_) (fun _ hx => hx))
  · rcases q with q | ⟨_, q⟩
    · exact r.z.subL b o q
    · exact q
  · obtain ⟨le, r'⟩ := r.extend (H' := H') (HL' := fun b o => W.HL b o ∨ HL' b o) ok cp.keep cp.tab cp.up (fun _ _ q => .inl q) cp.new (fun b o q => by
      rcases q with q | q
      · exact ⟨cp.keep b o (fun e => (r.z.npt o).2.2 (e ▸ q)) (r.z.subL b o q), .inl q⟩
      · exact ⟨(cp.newL b o q).1, .inr (cp.newL b o q).2⟩)
    exact ha s' _ u le r' cp.sh (VR.mono (W := ⟨H', HL', []⟩) (W' := ⟨H', fun b o => W.HL b o ∨ HL' b o, W.eta⟩) ⟨fun _ _ q => q, fun _ _ q => Or.inr q, fun i a q => by simp at q⟩ hv)
end
/-- the two runs of an expression: its value, its truth -/
structure Ev where
  e : Expr → St → TS SV
  t : Expr → St → TS SV
noncomputable def Ev.no : Ev := ⟨fun _ _ => .stuck, fun _ _ => .stuck⟩
noncomputable def evL (r : Ev) : List Expr → St → TS (List SV)
  | [], st => .ret ([], st)
  | .Starred _ _ :: _, _ => .stuck
  | x :: rest, st => (r.e x st).bind fun a => (evL r rest a.2).bind fun b => .ret (a.1 :: b.1, b.2)
noncomputable def nameV (C : Cx) (x : Str) (st : St) : TS SV := match sq x "__debug__" with
  | true => .stuck
  | false => match lk x C.names with
    | some .local => match lk x st.loc with
      | some v => .ret (v, st)
      | none => .stuck
    | some .cell => match lk x st.cel with
      | some v => .ret (v, st)
      | none => .stuck
    | some .globalImplicit => match lk x C.glo with
      | some v => .ret (v, st)
      | none => .stuck
    | _ => .stuck
noncomputable def constV : Const → Option SV
  | .int i => some (.num i)
  | .str s => some (.str s)
  | .none => some .none
  | .bool b => some (.bool b)
  | _ => none
/-- equality of what stands -/
noncomputable def andB (a b : SV) : Option SV := match a, b with
  | .bool true, y => some y
  | .bool false, _ => some (.bool false)
  | .sb x, .bool true => some (.sb x)
  | .sb x, .bool false => some (.sb (x && false))
  | .sb x, .sb y => some (.sb (x && y))
  | _, _ => none
noncomputable def eqNone (y : SV) : Option SV := match y with
  | .none => some (.bool true)
  | .tup _ => some (.bool false)
  | .str _ => some (.bool false)
  | _ => none
noncomputable def eqStr (a : Str) (y : SV) : Option SV := match y with
  | .none => some (.bool false)
  | .tup _ => some (.bool false)
  | .str b => some (.bool (sq a b))
  | _ => none
noncomputable def eqTup (y : SV) : Option SV := match y with
  | .none => some (.bool false)
  | .str _ => some (.bool false)
  | _ => none
noncomputable def eqBo (k a : Bool) (y : SV) : Option SV := match y with
  | .bool b => some (mkB k (a == b))
  | .sb b => some (.sb (a == b))
  | _ => none
noncomputable def eqIn (x y : SV) : Option SV := match asI x with
  | some p => match asI y with
    | some q => some (mkB (p.1 && q.1) (p.2.1 == q.2.1))
    | none => none
  | none => none
noncomputable def tupL : SV → Option (List SV)
  | .tup l => some l
  | _ => none
noncomputable def eqS : SV → SV → Option SV
  | .none, y => eqNone y
  | .str a, y => eqStr a y
  | .bool a, y => eqBo true a y
  | .sb a, y => eqBo false a y
  | .tup a, y => match tupL y with
    | some b => eqL a b
    | none => eqTup y
  | x, y => eqIn x y
where eqL : List SV → List SV → Option SV
  | [], [] => some (.bool true)
  | x :: a, y :: b => match eqS x y, eqL a b with
    | some u, some v => andB u v
    | _, _ => none
  | [], _ :: _ => some (.bool false)
  | _ :: _, [] => some (.bool false)
mutual
/-- what stands, as plain data -/
noncomputable def pd : SV → Option PyData
  | .num n => some (.int n)
  | .md p => some (.int p)
  | .int n _ => some (.int n)
  | .bool b => some (.bool b)
  | .sb b => some (.bool b)
  | .none => some .none
  | .str s => some (.str s)
  | .tup l => match pdL l with
    | some ds => some (.tuple ds)
    | none => none
  | _ => none
noncomputable def pdL : List SV → Option (List PyData)
  | [] => some []
  | x :: r => match pd x, pdL r with
    | some d, some ds => some (d :: ds)
    | _, _ => none
end
/-- within a row of plain data -/
noncomputable def inS (x : SV) : List SV → Option SV
  | [] => some (.bool false)
  | y :: r => match eqS y x, inS x r with
    | some a, some b => match tN a, tN b with
      | some a, some b => match andB a b with
        | some c => tN c
        | none => none
      | _, _ => none
    | _, _ => none
noncomputable def cmpI (op : CmpOp) (p q : Bool × Int × Option Nat) (st : St) : TS SV := match isOrd op with
  | true => .ret (mkB (p.1 && q.1) (cmpB op p.2.1 q.2.1), st)
  | false => .stuck
noncomputable def isNon : SV → Bool
  | .none => true
  | _ => false
noncomputable def isTE : SV → Bool
  | .tup _ => true
  | .el _ _ _ => true
  | _ => false
noncomputable def cmpIs (x y : SV) (st : St) : TS SV := match isNon y with
  | true => match isNon x with
    | true => .ret (.bool true, st)
    | false => match isTE x || (asI x).isSome with
      | true => .ret (.bool false, st)
      | false => .stuck
  | false => .stuck
noncomputable def pdBoth (x y : SV) (f : TS SV) : TS SV := match pd x with
  | some d => match pd y with
    | some e => match SeqAt.shaped d && SeqAt.shaped e with
      | true => f
      | false => .stuck
    | none => .stuck
  | none => .stuck
noncomputable def optS (f : SV → TS SV) : Option SV → TS SV
  | some b => f b
  | none => .stuck
noncomputable def cmpEq (C : Cx) (x y : SV) (st : St) : TS SV := match isEl x with
  | true => match isEl y with
    | true => lift st (C.F 176 [x, y])
    | false => .stuck
  | false => pdBoth x y (optS (fun b => .ret (b, st)) (eqS x y))
noncomputable def cmpNe (x y : SV) (st : St) : TS SV := pdBoth x y (optS (fun b => optS (fun c => .ret (c, st)) (tN b)) (eqS x y))
noncomputable def cmpInT (x y : SV) (st : St) : TS SV := match tupO' y with
  | some l => pdBoth x y (optS (fun b => .ret (b, st)) (inS x l))
  | none => .stuck
noncomputable def cmpN (C : Cx) (op : CmpOp) (x y : SV) (st : St) : TS SV := match op with
  | .Is => cmpIs x y st
  | .Eq => cmpEq C x y st
  | .NotEq => cmpNe x y st
  | .In => cmpInT x y st
  | _ => .stuck
noncomputable def cmpV (C : Cx) (op : CmpOp) (x y : SV) (st : St) : TS SV := match asI x with
  | some p => match asI y with
    | some q => cmpI op p q st
    | none => cmpN C op x y st
  | none => cmpN C op x y st
noncomputable def attrV (x : SV) (m : Str) (st : St) : TS SV := match x with
  | .el p a b => match sq m nmFM with
    | true => .ret (.md p, st)
    | false => match sq m nmCO with
      | true => .ret (.tup [.int a (some 100), .int b (some 100)], st)
      | false => match sq m nmMO with
        | true => .ret (.tup [.num 1, .num 0], st)
        | false => match sq m nmDG with
          | true => .ret (.num 2, st)
          | false => match sq m nmMC with
            | true => .ret (.sl [.tup [.num 0, .num 1]], st)
            | false => .stuck
  | _ => .stuck
noncomputable def subV (x i : SV) (st : St) : TS SV := match i with
  | .num k => match seqOf st x with
    | some l => match Nat.blt l.length 1000 with
      | true => match idx l.length k with
        | some j => match l[j]? with
          | some v => .ret (v, st)
          | none => .stuck
        | none => .stuck
      | false => .stuck
    | none => .stuck
  | _ => .stuck
noncomputable def methAddr (m : Str) : Option Nat := match sq m (Str.ofString "made") with
  | true => some 231
  | false => match sq m (Str.ofString "one") with
    | true => some 203
    | false => match sq m (Str.ofString "zero") with
      | true => some 210
      | false => match sq m (Str.ofString "inv") with
        | true => some 162
        | false => match sq m (Str.ofString "optimized_poly_rounded_div") with
          | true => some 157
          | false => none
inductive MK where
  | fn (f : Nat)
  | pop (i : Nat)
noncomputable def methK (x : SV) (m : Str) : Option MK := match x with
  | .el _ _ _ => match methAddr m with
    | some f => some (.fn f)
    | none => none
  | .ml i => match sq m (Str.ofString "pop") with
    | true => some (.pop i)
    | false => none
  | _ => none
noncomputable def methV (C : Cx) (k : MK) (x : SV) (args : List SV) (st : St) : TS SV := match k with
  | .fn f => callV C (.fn f) (x :: args) st
  | .pop i => match args with
    | [] => match st.mls[i]? with
      | some (false, l) => match Nat.blt l.length 1000 with
        | true => match l.getLast? with
          | some v => .ret (v, { st with mls := st.mls.set i (false, l.dropLast) })
          | none => .stuck
        | false => .stuck
      | _ => .stuck
    | _ => .stuck
noncomputable def negV (x : SV) : Option SV := match x with
  | .num n => some (.num (-n))
  | .int n b => some (.int (-n) b)
  | _ => none
noncomputable def noStar : List Expr → Bool
  | [] => true
  | .Starred _ _ :: _ => false
  | _ :: r => noStar r
noncomputable def fns : List Nat := [28, 35, 42, 49, 57, 64, 71, 78, 85, 92, 157, 162, 203, 210, 231, 242, 251, 298, 305, 312, 319, 326, 333, 340, 347, 354, 361, 366]
noncomputable def okFn : SV → Bool
  | .fn a => fns.any (Nat.beq a)
  | .bi _ => true
  | _ => false
noncomputable def isSetE : Expr → Bool
  | .Set _ _ _ => true
  | _ => false
noncomputable def isCallE : Expr → Bool
  | .Call _ _ _ _ => true
  | _ => false
noncomputable def isSlcE : Expr → Bool
  | .Slice _ _ _ _ => true
  | _ => false
set_option tactic.hygienic false in
theorem isSetE_ne {y : Expr} (h : isSetE y = false) (a b c) : y ≠ .Set a b c := fun e => by rw [e] at h; exact Bool.noConfusion h
set_option tactic.hygienic false in
theorem isCallE_ne {y : Expr} (h : isCallE y = false) (a b c d) : y ≠ .Call a b c d := fun e => by rw [e] at h; exact Bool.noConfusion h
set_option tactic.hygienic false in
theorem isSlcE_ne {y : Expr} (h : isSlcE y = false) (a b c d) : y ≠ .Slice a b c d := fun e => by rw [e] at h; exact Bool.noConfusion h
noncomputable def evE (C : Cx) (r : Ev) (x : Expr) (st : St) : TS SV := match x with
  | .Constant c _ _ => match constV c with
    | some v => .ret (v, st)
    | none => .stuck
  | .Name x _ => nameV C x st
  | .BinOp l op y _ => (r.e l st).bind fun a => (r.e y a.2).bind fun b => bop C op a.1 b.1 b.2
  | .UnaryOp .Not y _ => (r.e y st).bind fun a => match truth a.1 with
    | some b => match tN b with
      | some c => .ret (c, a.2)
      | none => .stuck
    | none => .stuck
  | .UnaryOp .USub y _ => (r.e y st).bind fun a => match a.1 with
    | .el _ _ _ => lift a.2 (C.F 188 [a.1])
    | v => match negV v with
      | some c => .ret (c, a.2)
      | none => .stuck
  | .BoolOp .And [y, z] _ => (r.e y st).bind fun a => match truth a.1 with
    | some b => br b (r.e z a.2) (.ret a)
    | none => .stuck
  | .BoolOp .Or [y, z] _ => (r.e y st).bind fun a => match truth a.1 with
    | some b => br b (.ret a) (r.e z a.2)
    | none => .stuck
  | .IfExp t y z _ => (r.t t st).bind fun b => br b.1 (r.e y b.2) (r.e z b.2)
  | .Compare l [op] [y] _ => match isSetE y with
    | true => .stuck
    | false => (r.e l st).bind fun a => (r.e y a.2).bind fun b => cmpV C op a.1 b.1 b.2
  | .Call (.Attribute o m ap) args [] pos => match Nat.beq ap.endLine pos.line && Nat.blt args.length 29 && noStar args with
    | true => match isCallE o with
      | true => .stuck
      | false => (r.e o st).bind fun a => match methK a.1 m with
        | some k => (evL r args a.2).bind fun b => methV C k a.1 b.1 b.2
        | none => .stuck
    | false => .stuck
  | .Call (.Name f _) args [] _ => match noStar args with
    | false => .stuck
    | true => (nameV C f st).bind fun a => match okFn a.1 with
      | false => .stuck
      | true => match a.1, args with
        | .bi _, [] => .stuck
        | _, _ => (evL r args a.2).bind fun b => callV C a.1 b.1 b.2
  | .Attribute o m _ => match isCallE o with
    | true => .stuck
    | false => (r.e o st).bind fun a => attrV a.1 m a.2
  | .Subscript o i _ => match isSlcE i with
    | true => .stuck
    | false => (r.e o st).bind fun a => (r.e i a.2).bind fun b => subV a.1 b.1 b.2
  | .List es _ => match Nat.blt es.length 1000 with
    | true => (evL r es st).bind fun a => .ret (newL a.2 a.1)
    | false => .stuck
  | .Tuple es _ _ => match Nat.blt es.length 1000 with
    | true => (evL r es st).bind fun a => .ret (.tup a.1, a.2)
    | false => .stuck
  | _ => .stuck
noncomputable def allT (r : Ev) (isAnd : Bool) : List Expr → St → TS SV
  | [], st => .ret (.bool isAnd, st)
  | x :: rest, st => (r.t x st).bind fun a => match isAnd with
    | true => br a.1 (allT r true rest a.2) (.ret (.bool false, a.2))
    | false => br a.1 (.ret (.bool true, a.2)) (allT r false rest a.2)
noncomputable def evT (C : Cx) (r : Ev) (x : Expr) (st : St) : TS SV := match x with
  | .UnaryOp .Not y _ => (r.t y st).bind fun a => match tN a.1 with
    | some c => .ret (c, a.2)
    | none => .stuck
  | .BoolOp op vs _ => allT r (match op with | .And => true | .Or => false) vs st
  | .Compare l [op] [y] _ => match isSetE y with
    | true => .stuck
    | false => (r.e l st).bind fun a => (r.e y a.2).bind fun b => (cmpV C op a.1 b.1 b.2).bind fun c => match truth c.1 with
      | some d => .ret (d, c.2)
      | none => .stuck
  | .Name _ _ | .Call _ _ _ _ | .BinOp _ _ _ _ => (r.e x st).bind fun a => match truth a.1 with
    | some c => .ret (c, a.2)
    | none => .stuck
  | _ => .stuck
noncomputable def ev (C : Cx) : Nat → Ev
  | 0 => .no
  | n + 1 => ⟨evE C (ev C n), evT C (ev C n)⟩
abbrev PW : Program := PySem.Challenge.pw_lh0035_01
noncomputable def isB (c : SV) (b : Bool) : Prop := c = .bool b ∨ c = .sb b
noncomputable def PostT (X : Fx) (W : Wd) (s : Shared) (Q : Bool → Shared → Prop) (r : SV × St) : Prop :=
  ∀ s' W' b, W.le W' → Rep X W' r.2 s'.heap → Sh s s' → isB r.1 b → Q b s'
set_option tactic.hygienic false in
theorem PostT.step {X : Fx} {W W' : Wd} {s s' : Shared} {Q : Bool → Shared → Prop} {r : SV × St} (p : PostT X W s Q r) (le : W.le W') (sh : Sh s s') : PostT X W' s' Q r :=
  fun s'' W'' u l r h v => p s'' W'' u (le.trans l) r (sh.trans h) v
set_option tactic.hygienic false in
theorem holds_br {ε α : Type} {c : SV} {t e : T ε α} {K : α → Prop} {KX : ε → Prop} (h : (br c t e).Holds K KX) {b : Bool} (hc : isB c b) : if b = true then t.Holds K KX else e.Holds K KX := by
  rcases hc with rfl | rfl
  · rcases b with _ | _
    rotate_left
    · exact h
    · exact h
  · have h : (b = true → t.Holds K KX) ∧ (b = false → e.Holds K KX) := h
    rcases b with _ | _
    rotate_left
    · exact h.1 rfl
    · exact h.2 rfl
set_option tactic.hygienic false in
theorem isB_tN {b c : SV} {v : Bool} (e : tN b = some c) (hb : isB b v) : isB c (!v) := by
  rcases hb with rfl | rfl <;> (simp only [tN] at e; cases e)
  · exact .inl rfl
  · exact .inr rfl
set_option tactic.hygienic false in
theorem VR_isB {W : Wd} {c : SV} {b : Bool} (h : isB c b) : VR W c (.bool b) := by rcases h with rfl | rfl <;> simp only [VR]
theorem truth_sound {X : Fx} {W : Wd} {A : Around} {E : Value → Shared → Prop} {v c : SV} {u : Value} {s : Shared} {Q : Bool → Shared → Prop} (hv : VR W v u) (e : truth v = some c) (h : ∀ b, isB c b → Q b s) : wpAny (model PW X.w) A (truthy u) Q E s := by
  cases v <;> (try exact none_neQ e) <;> (have e' := Option.some.inj e; clear e; subst e'; simp only [VR] at hv)
  · obtain ⟨t, rfl⟩ := hv; exact truthy_int (h _ (.inl rfl))
  · rename_i p
    obtain ⟨⟨t, rfl⟩, h1, h2⟩ := hv
    refine truthy_int ?_
    have : (p != 0) = true := by simpa using (show p ≠ (0 : Int) by omega)
    rw [this]
    exact h _ (.inl rfl)
  · obtain ⟨⟨t, rfl⟩, _⟩ := hv; exact truthy_int (h _ (.inr rfl))
  · subst hv; exact wpAny_pure (h _ (.inl rfl))
  · subst hv; exact wpAny_pure (h _ (.inr rfl))
  · subst hv; exact wpAny_pure (h _ (.inl rfl))

set_option tactic.hygienic false in
theorem asI_VR {W : Wd} {v : SV} {u : Value} {k : Bool} {n : Int} {b : Option Nat} (hv : VR W v u) (e : asI v = some (k, n, b)) : (∃ t, u = .int n t) ∧ bdd n b := by
  cases v <;> (try exact none_neQ e) <;> (obtain ⟨rfl, e'⟩ := Prod.mk.inj (Option.some.inj e); obtain ⟨rfl, rfl⟩ := Prod.mk.inj e'; clear e e'; simp only [VR] at hv)
  · exact ⟨hv, Nat.le_refl _⟩
  · exact ⟨hv.1, by show Int.natAbs _ ≤ 100; have := hv.2; omega⟩
  · exact hv
set_option tactic.hygienic false in
theorem VR_mkI {W : Wd} {k : Bool} {n : Int} {b : Option Nat} {t : Tok} (h : bdd n b) : VR W (mkI k n b) (.int n t) := by
  cases k <;> simp only [mkI, VR]
  · exact ⟨⟨t, rfl⟩, h⟩
  · exact ⟨t, rfl⟩
set_option tactic.hygienic false in
theorem bdd_add {a b : Int} {x y : Option Nat} (h1 : bdd a x) (h2 : bdd b y) : bdd (a + b) (bAdd x y) := by
  cases x <;> cases y <;> simp only [bAdd, bdd] at *
  have := Int.natAbs_add_le a b
  simp only [Nat.add_eq]
  omega
set_option tactic.hygienic false in
theorem bdd_sub {a b : Int} {x y : Option Nat} (h1 : bdd a x) (h2 : bdd b y) : bdd (a - b) (bAdd x y) := by
  cases x <;> cases y <;> simp only [bAdd, bdd] at *
  have := Int.natAbs_sub_le a b
  simp only [Nat.add_eq]
  omega
set_option tactic.hygienic false in
theorem bdd_mul {a b : Int} {x y : Option Nat} (h1 : bdd a x) (h2 : bdd b y) : bdd (a * b) (bMul x y) := by
  cases x <;> cases y <;> simp only [bMul, bdd] at *
  rw [Int.natAbs_mul]
  exact Nat.mul_le_mul h1 h2
theorem intBits_le {n : Int} (h : n.natAbs < 2 ^ 63) : Builtin.Int.intBits n ≤ 64 := by
  unfold Builtin.Int.intBits
  split
  · omega
  · next hn =>
    have : n.natAbs ≠ 0 := fun q => hn (by simpa using Int.natAbs_eq_zero.mp q)
    have := (Nat.log2_lt this).mpr h
    omega
set_option tactic.hygienic false in
theorem small_lt {n : Int} {b : Option Nat} (h : bdd n b) (e : small b = true) : n.natAbs < 2 ^ 63 := by
  rcases b with _ | b
  · cases e
  · have := Nat.ble_eq.mp e; simp only [bdd] at h; omega

set_option tactic.hygienic false in
theorem bdd_fmod {a m : Int} (h : 0 < m) : bdd (a.fmod m) (some m.natAbs) := by
  have h1 := Int.fmod_nonneg_of_pos a h
  have h2 := Int.fmod_lt_of_pos a h
  simp only [bdd]
  omega
set_option tactic.hygienic false in
theorem bdd_fdiv {a m : Int} {b : Option Nat} (h : 0 < m) (hb : bdd a b) : bdd (a.fdiv m) b := by
  rcases b with _ | b
  · trivial
  ·
    simp only [bdd] at *
    rw [Int.fdiv_eq_ediv_of_nonneg a (Int.le_of_lt h)]
    exact Nat.le_trans (Int.natAbs_ediv_le_natAbs a m) hb
theorem noPylong {a b : Int} (h : b.natAbs < 2 ^ 63) : Builtin.divisionGoesByPylong a b = false := by
  unfold Builtin.divisionGoesByPylong
  simp only [Bool.and_eq_false_iff, decide_eq_false_iff_not]
  left
  split
  · omega
  · next hn =>
    have : b.natAbs ≠ 0 := fun q => hn (by simpa using Int.natAbs_eq_zero.mp q)
    have := (Nat.log2_lt this).mpr h
    omega
theorem bopI_sound {X : Fx} {W : Wd} {A : Around} {E : Value → Shared → Prop} {op : Operator} {x y : SV} {u v : Value} {k1 k2 : Bool} {a b : Int} {b1 b2 : Option Nat} {s : Shared} {Q : Value → Shared → Prop}
    (hx : VR W x u) (hy : VR W y v) (e1 : asI x = some (k1, a, b1)) (e2 : asI y = some (k2, b, b2)) (h : (bopI op y k1 a b1 k2 b b2).Holds (fun r => ∀ u' tk, VR W r u' → Q u' { s with toks := tk }) (fun _ => False)) :
    wpAny (model PW X.w) A (binaryOp op u v) Q E s := by
  obtain ⟨⟨t, rfl⟩, hb1⟩ := asI_VR hx e1
  obtain ⟨⟨t', rfl⟩, hb2⟩ := asI_VR hy e2
  cases op <;> (try exact h.elim)
  case Add => exact add_int (h _ _ (VR_mkI (bdd_add hb1 hb2)))
  case Sub => exact sub_int (h _ _ (VR_mkI (bdd_sub hb1 hb2)))
  case Mult =>
    dsimp only [bopI] at h
    split at h
    · next q =>
      refine mul_int (h _ _ (VR_mkI (bdd_mul hb1 hb2))) ?_
      rcases Bool.or_eq_true_iff.mp q with q | q
      · exact IntMulOk.of_left (intBits_le (small_lt hb1 q))
      · exact IntMulOk.of_right (intBits_le (small_lt hb2 q))
    · exact h.elim
  case Mod =>
    cases y <;> (try exact h.elim)
    case md p =>
      simp only [asI] at e2
      cases e2
      simp only [VR] at hy
      refine mod_int' (by omega) (h _ _ ?_)
      simp only [VR]
      refine ⟨⟨_, rfl⟩, ?_⟩
      have := bdd_fmod (a := a) hy.2.1
      simp only [bdd] at this ⊢
      omega
    case num m =>
      dsimp only [bopI] at h
      split at h
      · exact h.elim
      · next q =>
        simp only [asI] at e2
        cases e2
        have q := of_decide_eq_true q
        exact mod_int' (by omega) (h _ _ (VR_mkI (bdd_fmod q)))
  case FloorDiv =>
    dsimp only [bopI] at h
    split at h
    · exact h.elim
    · next q =>
      have np := noPylong (a := a) (small_lt hb2 q)
      cases y <;> (try exact h.elim)
      case md p =>
        simp only [asI] at e2
        cases e2
        simp only [VR] at hy
        refine floordiv_int (by omega) (h _ _ ?_) (.inl np)
        simp only [VR]
        exact ⟨⟨_, rfl⟩, bdd_fdiv hy.2.1 hb1⟩
      case num m =>
        dsimp only at h
        split at h
        · exact h.elim
        · next q' =>
          simp only [asI] at e2
          cases e2
          have q' := of_decide_eq_true q'
          exact floordiv_int (by omega) (h _ _ (VR_mkI (bdd_fdiv q' hb1))) (.inl np)
  case Pow =>
    dsimp only [bopI] at h
    split at h
    · next q =>
      simp only [Bool.and_eq_true, decide_eq_true_eq] at q
      obtain ⟨⟨⟨⟨_, c1⟩, c2⟩, c3⟩, c4⟩ := q
      by_cases hz : b = 0
      · subst hz
        exact AutoIntOps.pow_0 (by omega) rfl (h (.int 1 s.toks) (s.toks + 1) (by simp only [VR]; exact ⟨s.toks, by simp⟩))
      · refine AutoIntOps.pow_4 (by omega) (by simpa using hz) (by simp; omega) (by simp; omega) ?_ (h _ _ (by simp only [VR]; exact ⟨_, rfl⟩))
        have hb : Builtin.Int.intBits a ≤ 64 := intBits_le (by omega)
        unfold Builtin.Int.intTooBig bitsLine
        simp only [decide_eq_true_eq]
        have : ((Builtin.Int.intBits a : Nat) : Int) * b ≤ 64 * 1000 := Int.mul_le_mul (by omega) (by omega) c1 (by omega)
        omega
    · exact h.elim
  case RShift =>
    cases y <;> (try exact h.elim)
    case num m =>
      dsimp only [bopI] at h
      split at h
      · next q =>
        simp only [asI] at e2
        cases e2
        simp only [Bool.and_eq_true, decide_eq_true_eq] at q
        exact rshift_int q.1 (h _ _ (VR_mkI (bdd_fdiv (Int.pow_pos (by decide)) hb1)))
      · exact h.elim
  case BitAnd => exact PyProof.Rows.and_int (h _ _ (VR_mkI (by trivial)))
set_option tactic.hygienic false in
theorem k_lt {P : Params} {a : Addr} {o : Obj} (e : (kmk.heap_1 P).lookup a = some o) : @LT.lt Nat _ a 372 := by
  have key : ∀ {l : List (Addr × Obj)}, l.lookup a = some o → a ∈ l.map (·.1) := by
    intro l
    induction l with
    | nil => intro h; cases h
    | cons q l ih =>
      intro h
      rw [List.lookup_cons] at h
      rcases hb : a == q.1 with _ | _
      rotate_left
      · rw [eq_of_beq hb]; exact List.mem_map.mpr ⟨q, List.mem_cons_self, rfl⟩
      · rw [hb] at h; exact List.mem_cons_of_mem _ (ih h)
  have m := key e
  rw [← kas_eq P] at m
  have all : (kas.all fun b => Nat.blt b 372) = true := by decide +kernel
  have := List.all_eq_true.mp all a m
  exact Nat.le_of_ble_eq_true this
noncomputable def trunc (h : Heap) : Heap := ⟨h.objs.extract 0 372, h.life⟩
set_option tactic.hygienic false in
theorem trunc_get {h : Heap} {b : Addr} {o : Obj} (e : (trunc h).get? b = some o) : h.get? b = some o ∧ @LT.lt Nat _ b 372 := by
  obtain ⟨e1, e2⟩ := Heap.get?_some_iff.mp e
  have lt : @LT.lt Nat _ b (h.objs.extract 0 372).size := (Array.getElem?_eq_some_iff.mp e1).1
  have s1 : (h.objs.extract 0 372).size = min 372 h.objs.size := by rw [Array.size_extract]; omega
  rw [s1] at lt
  refine ⟨Heap.get?_some_iff.mpr ⟨?_, e2⟩, Nat.lt_of_lt_of_le lt (Nat.min_le_left _ _)⟩
  have := e1
  simp only [trunc] at this
  rw [Array.getElem?_extract] at this
  simp only [Nat.zero_add] at this
  split at this
  · exact this
  · cases this
set_option tactic.hygienic false in
theorem get_trunc {h : Heap} {b : Addr} {o : Obj} (e : h.get? b = some o) (lt : @LT.lt Nat _ b 372) : (trunc h).get? b = some o := by
  obtain ⟨e1, e2⟩ := Heap.get?_some_iff.mp e
  refine Heap.get?_some_iff.mpr ⟨?_, e2⟩
  have l2 : @LT.lt Nat _ b h.objs.size := Heap.lt_size e
  simp only [trunc]
  rw [Array.getElem?_extract]
  have : @LT.lt Nat _ b (min 372 h.objs.size) := Nat.lt_min.mpr ⟨lt, l2⟩
  simp only [Nat.zero_add, Nat.sub_zero]
  rw [if_pos this]
  exact e1
inductive FrAt (X : Fx) (h : Heap) : Prop
  | mk (h₀ : Heap) (m : Str → Option Value) (f : Fr h₀ X.L h m) (k : (kmk.heap_1 X.w.params).In h₀) : FrAt X h
set_option tactic.hygienic false in
theorem Rep.fr {X : Fx} {W : Wd} {st : St} {h : Heap} (ok : FxOK X) (r : Rep X W st h) : FrAt X h := by
  obtain ⟨m, n, _⟩ := r.n.ns
  refine ⟨trunc h, m, ⟨n, fun b o e => (trunc_get e).1, ?_⟩, fun a o e => get_trunc (r.z.kx ok a o e) (k_lt e)⟩
  refine Nat.le_trans ?_ ok.big
  have : (h.objs.extract 0 372).size = min 372 h.objs.size := by rw [Array.size_extract]; omega
  show (h.objs.extract 0 372).size ≤ 372
  rw [this]; exact Nat.min_le_left _ _
inductive ElI (h : Heap) (a : Addr) (p : Int) : Prop
  | mk (ox : Obj) (es : List DictEntry) (n : Nat) (lm tc tm : Addr) (i : PySem.W.InstAt h a ox 242 (some (dictOf es n))) (d : ElD es p lm tc tm) : ElI h a p
set_option tactic.hygienic false in
theorem elInst {W : Wd} {X : Fx} {st : St} {h : Heap} {a : Addr} {p x y : Int} (r : Rep X W st h) (e : ElAt W.H a p x y) : ElI h a p := by
  obtain ⟨_, ox, d, es, n, lm, tc, tm, t0, h1, h2, h3, h4, h5, h6, _⟩ := e
  exact ⟨ox, es, n, lm, tc, tm, ⟨r.z.sub _ _ h1, h2, h3, by rw [h4]; exact r.z.sub _ _ h5⟩, h6⟩

section
variable {X : Fx} {W : Wd} {st : St} {A : Around} {E : Value → Shared → Prop} {s : Shared} {Q : Value → Shared → Prop} {C : Cx}
set_option tactic.hygienic false in
theorem post_tok {v : SV} {u : Value} {tk : Nat} (r : Rep X W st s.heap) (h : Post X W s Q (v, st)) (hv : VR W v u) : Q u { s with toks := tk } := h _ W u (.refl W) r (.heap s s.heap tk) hv
set_option tactic.hygienic false in
theorem attr_one {a : Addr} {p x y : Int} {name : Str} {attr : Option Value} {v : Value} (ok : FxOK X) (r : Rep X W st s.heap)
    {ox : Obj} {es : List DictEntry} {n : Nat} (I : PySem.W.InstAt s.heap a ox 242 (some (dictOf es n))) (h1 : plainGet (kmk.heap_1 X.w.params) 242 name = true) (h2 : hasDictIn (kmk.heap_1 X.w.params) 242 = true)
    (h3 : findIn (kmk.heap_1 X.w.params) (.ref 242) name = some attr) (h4 : noGet (kmk.heap_1 X.w.params) attr = true) (hg : getL name es = some (some v)) (hh : handedIn v = true) (h : Q v { s with toks := s.toks + 1 }) :
    wpAny (model PW X.w) A (getAttr (.ref a) name true) Q E s := by
  obtain ⟨h₀, m, F, K₀⟩ := r.fr ok
  exact get_own F K₀ I h1 h2 h3 h4 hg hh h
theorem attrV_sound {x : SV} {m : Str} {u : Value} (ok : FxOK X) (r : Rep X W st s.heap) (hx : VR W x u) (h : (attrV x m st).Holds (Post X W s Q) (PostX X W s E)) : wpAny (model PW X.w) A (getAttr u m true) Q E s := by
  unfold attrV at h
  split at h
  · next p a b =>
    simp only [VR] at hx
    obtain ⟨ad, rfl, e⟩ := hx
    obtain ⟨ox, es, n, lm, tc, tm, I, D⟩ := elInst r e
    have rng := e.rng
    obtain ⟨_, ox', d', es', n', lm', tc', tm', t0, g1, g2, g3, g4, g5, D', ⟨o7, g7, g7'⟩, ⟨o8, a8, b8, g8, g8'⟩, ⟨o9, a9, b9, g9, g9'⟩, ⟨o0, a0, b0, g0, g0'⟩⟩ := e
    have I' : PySem.W.InstAt s.heap ad ox' 242 (some (dictOf es' n')) := ⟨r.z.sub _ _ g1, g2, g3, by rw [g4]; exact r.z.sub _ _ g5⟩
    clear I D
    split at h
    · next q =>
      obtain rfl := sq_iff.mp q
      obtain ⟨t, ht⟩ := D'.fm
      exact attr_one (attr := none) (p := p) (x := a) (y := b) ok r I' (by kernel_rfl) (by kernel_rfl) (by kernel_rfl) (by kernel_rfl) ht rfl (post_tok r h (by simp only [VR]; exact ⟨⟨t, rfl⟩, rng.1, rng.2.1⟩))
    · split at h
      · next q =>
        obtain rfl := sq_iff.mp q
        refine attr_one (attr := none) (p := p) (x := a) (y := b) ok r I' (by kernel_rfl) (by kernel_rfl) (by kernel_rfl) (by kernel_rfl) D'.co rfl (post_tok r h ?_)
        simp only [VR]
        refine ⟨tc', o9, _, rfl, g9, g9', .cons ?_ (.one ?_)⟩ <;> simp only [VR]
        · exact ⟨⟨a9, rfl⟩, by simp only [bdd]; omega⟩
        · exact ⟨⟨b9, rfl⟩, by simp only [bdd]; omega⟩
      · split at h
        · next q =>
          obtain rfl := sq_iff.mp q
          refine attr_one (attr := none) (p := p) (x := a) (y := b) ok r I' (by kernel_rfl) (by kernel_rfl) (by kernel_rfl) (by kernel_rfl) D'.mo rfl (post_tok r h ?_)
          simp only [VR]
          refine ⟨tm', o0, _, rfl, g0, g0', .cons ?_ (.one ?_)⟩ <;> simp only [VR]
          · exact ⟨a0, rfl⟩
          · exact ⟨b0, rfl⟩
        · split at h
          · next q =>
            obtain rfl := sq_iff.mp q
            obtain ⟨t, ht⟩ := D'.dg
            exact attr_one (attr := none) (p := p) (x := a) (y := b) ok r I' (by kernel_rfl) (by kernel_rfl) (by kernel_rfl) (by kernel_rfl) ht rfl (post_tok r h (by simp only [VR]; exact ⟨t, rfl⟩))
          · split at h
            · next q =>
              obtain rfl := sq_iff.mp q
              refine attr_one (attr := none) (p := p) (x := a) (y := b) ok r I' (by kernel_rfl) (by kernel_rfl) (by kernel_rfl) (by kernel_rfl) D'.mc rfl (post_tok r h ?_)
              simp only [VR]
              refine ⟨lm', o7, _, rfl, g7, g7', .one ?_⟩
              simp only [VR]
              refine ⟨t0, o8, _, rfl, g8, g8', .cons ?_ (.one ?_)⟩ <;> simp only [VR]
              · exact ⟨a8, rfl⟩
              · exact ⟨b8, rfl⟩
            · exact h.elim
  · exact h.elim
end
theorem vr_back {W : Wd} {x : SV} {u : Value} {s : Shared} {Q : Value → Shared → Prop} (hv : VR W x u) (h : Q u s) : PySem.W.CmpBack Q u s := by
  cases u <;> try exact h
  exfalso
  cases x <;> simp only [VR] at hv
  · obtain ⟨t, e⟩ := hv; cases e
  · obtain ⟨⟨t, e⟩, _⟩ := hv; cases e
  · obtain ⟨⟨t, e⟩, _⟩ := hv; cases e
  · cases hv
  · cases hv
  · cases hv
  · obtain ⟨t, e⟩ := hv; cases e
  · obtain ⟨_, _, _, e, _⟩ := hv; cases e
  · obtain ⟨_, e, _⟩ := hv; cases e
  · obtain ⟨_, _, _, e, _⟩ := hv; cases e
  · obtain ⟨_, _, _, e, _⟩ := hv; cases e
  · obtain ⟨_, e, _⟩ := hv; cases e
  · cases hv
  · next b => cases b <;> cases hv
  · next x =>
    rcases x with _ | l
    · cases hv
    · obtain ⟨_, _, _, e, _⟩ := hv; cases e
section
variable {n : Nat} {X : Fx} {W : Wd} {st : St} {A : Around} {E : Value → Shared → Prop} {s : Shared} {Q : Value → Shared → Prop} {C : Cx}
set_option tactic.hygienic false in
theorem post_back {r : SV × St} (h : Post X W s Q r) : Post X W s (PySem.W.CmpBack Q) r := fun s' W' u l rp sh hv => vr_back hv (h s' W' u l rp sh hv)
set_option tactic.hygienic false in
theorem holds_back {t : TS SV} (h : t.Holds (Post X W s Q) (PostX X W s E)) : t.Holds (Post X W s (PySem.W.CmpBack Q)) (PostX X W s E) := h.mono (fun _ => post_back) (fun _ h => h)
set_option tactic.hygienic false in
theorem op_info {op : Operator} {f : Nat} (e : opAddr op = some f) (P : Params) : findIn (kmk.heap_1 P) (.ref 242) (PySem.dunder op.info.2) = some (some (.ref f)) ∧ isFn (kmk.heap_1 P) (.ref f) = true ∧
    (∃ rc, findIn (kmk.heap_1 P) (.ref 242) (dunderR op.info.2) = some rc ∧ (rc = none ∨ ∃ g : Addr, rc = some (.ref g))) ∧ (∃ fo, findIn (kmk.heap_1 P) (.type "int") (PySem.dunder op.info.2) = some fo) ∧ (∃ ro, findIn (kmk.heap_1 P) (.type "int") (dunderR op.info.2) = some ro) := by
  cases op <;> (try exact none_neQ e) <;> obtain rfl := Option.some.inj e
  · exact ⟨by kernel_rfl, by kernel_rfl, ⟨none, by kernel_rfl, .inl rfl⟩, ⟨some (.builtin "int.__add__"), by kernel_rfl⟩, ⟨some (.builtin "int.__radd__"), by kernel_rfl⟩⟩
  · exact ⟨by kernel_rfl, by kernel_rfl, ⟨none, by kernel_rfl, .inl rfl⟩, ⟨some (.builtin "int.__sub__"), by kernel_rfl⟩, ⟨some (.builtin "int.__rsub__"), by kernel_rfl⟩⟩
  · exact ⟨by kernel_rfl, by kernel_rfl, ⟨some (.ref 140), by kernel_rfl, .inr ⟨_, rfl⟩⟩, ⟨some (.builtin "int.__mul__"), by kernel_rfl⟩, ⟨some (.builtin "int.__rmul__"), by kernel_rfl⟩⟩
  · exact ⟨by kernel_rfl, by kernel_rfl, ⟨none, by kernel_rfl, .inl rfl⟩, ⟨some (.builtin "int.__truediv__"), by kernel_rfl⟩, ⟨some (.builtin "int.__rtruediv__"), by kernel_rfl⟩⟩
  · exact ⟨by kernel_rfl, by kernel_rfl, ⟨none, by kernel_rfl, .inl rfl⟩, ⟨some (.builtin "int.__pow__"), by kernel_rfl⟩, ⟨some (.builtin "int.__rpow__"), by kernel_rfl⟩⟩
set_option tactic.hygienic false in
theorem bopEl_sound {op : Operator} {p a b : Int} {y : SV} {u v : Value} {f : Nat} (hF : FOK n C.F) (ok : FxOK X) (hA : OKA n A) (r : Rep X W st s.heap) (hx : VR W (.el p a b) u) (hy : VR W y v) (e : opAddr op = some f) (py : y.pl = true)
    (ty : (∃ q c d, y = .el q c d) ∨ (∃ z, asI y = some z))
    (h : (lift st (C.F f [.el p a b, y])).Holds (Post X W s Q) (PostX X W s E)) : wpAny (model PW X.w) A (binaryOp op u v) Q E s := by
  obtain ⟨i1, i2, ⟨rc, i3, i4⟩, ⟨fo, i5⟩, ⟨ro, i6⟩⟩ := op_info e X.w.params
  have args : toArgs st [.el p a b, y] = some [.el p a b, y] := by
    have : toArg st y = some y := by
      unfold toArg
      split
      · simp only [SV.pl] at py; cases py
      · rw [py]
    simp only [toArgs, this]
    simp only [toArg, SV.pl]
  have vs : VRs W [.el p a b, y] [u, v] := .cons hx (.one hy)
  have body := callF_sound hF ok hA r vs args (holds_back h)
  have hx' := hx
  simp only [VR] at hx'
  obtain ⟨ad, rfl, el⟩ := hx'
  obtain ⟨ox, es, k, lm, tc, tm, I, D⟩ := elInst r el
  obtain ⟨h₀, m, F, K₀⟩ := r.fr ok
  rcases ty with ⟨q, c, d, rfl⟩ | ⟨⟨k1, n1, b1⟩, hz⟩
  · simp only [VR] at hy
    obtain ⟨ad', rfl, el'⟩ := hy
    obtain ⟨ox', es', k', lm', tc', tm', I', D'⟩ := elInst r el'
    exact binop_K F K₀ I I'.type (by kernel_rfl) i1 i2 body
  · obtain ⟨⟨t, rfl⟩, _⟩ := asI_VR hy hz
    exact ksp_binT (T := "int") F K₀ I rfl (by kernel_rfl) i1 i2 i3 i4 i5 i6 (by kernel_rfl) body
end
/-- every object above the text's own, but the frame's -/
noncomputable def allNews (h : Heap) (L : Addr) : List (Addr × Obj) := (List.range h.objs.size).filterMap fun a => if a = L then none else match (trunc h).get? a with
  | some _ => none
  | none => (h.get? a).map fun o => (a, o)
theorem mem_allNews {h : Heap} {L a : Addr} {o : Obj} : (a, o) ∈ allNews h L ↔ a ≠ L ∧ (trunc h).get? a = none ∧ h.get? a = some o := by
  unfold allNews
  rw [List.mem_filterMap]
  constructor
  · rintro ⟨b, hb, e⟩
    split at e
    · cases e
    · next hL =>
      split at e
      · cases e
      · next hn =>
        rcases q : h.get? b with _ | o'
        · rw [q] at e; cases e
        · rw [q] at e; cases e; exact ⟨hL, hn, q⟩
  · rintro ⟨hL, hn, q⟩
    refine ⟨a, List.mem_range.mpr (Heap.lt_size q), ?_⟩
    rw [if_neg hL, hn, q]
    rfl
inductive Ledg (X : Fx) (W : Wd) (st : St) (h : Heap) : Prop
  | mk (h₀ : Heap) (m : Str → Option Value) (news : List (Addr × Obj)) (f : Fr h₀ X.L h m) (k : (kmk.heap_1 X.w.params).In h₀) (l : h₀.NoLimit) (n : News h₀ X.L h news) (back : ∀ h', Fr h₀ X.L h' m → News h₀ X.L h' news → Rep X W st h') (mem : ∀ D o, h₀.get? D = none → D ≠ X.L → h.get? D = some o → (D, o) ∈ news) : Ledg X W st h
set_option tactic.hygienic false in
theorem Rep.ledger {X : Fx} {W : Wd} {st : St} {h : Heap} (ok : FxOK X) (r : Rep X W st h) : Ledg X W st h := by
  obtain ⟨m, n, hv⟩ := r.n.ns
  have F : Fr (trunc h) X.L h m := ⟨n, fun b o e => (trunc_get e).1, by
    refine Nat.le_trans ?_ ok.big
    have : (h.objs.extract 0 372).size = min 372 h.objs.size := by rw [Array.size_extract]; omega
    show (h.objs.extract 0 372).size ≤ 372
    rw [this]; exact Nat.min_le_left _ _⟩
  have low : ∀ {a o}, h.get? a = some o → @LT.lt Nat _ a 372 → (trunc h).get? a = some o := fun e lt => get_trunc e lt
  have lim : (trunc h).NoLimit := let ⟨mc, a, b⟩ := (r.z.top ok).nolimit; ⟨mc, a.at' fun o e => low e (by decide), b⟩
  refine ⟨trunc h, m, allNews h X.L, F, fun a o e => get_trunc (r.z.kx ok a o e) (k_lt e), lim, fun p hp => ?_, fun h' F' N' => ?_, fun D o a b c => mem_allNews.mpr ⟨b, a, c⟩⟩
  · obtain ⟨a, b, c⟩ := mem_allNews.mp hp
    exact ⟨c, a, b⟩
  · have k : ∀ b o, b ≠ X.L → h.get? b = some o → h'.get? b = some o := fun b o hb e => by
      rcases q : (trunc h).get? b with _ | o'
      rotate_left
      · have := (trunc_get q).1; rw [e] at this; cases this; exact F'.keep b o q
      · exact (N' _ (mem_allNews.mpr ⟨hb, q, e⟩)).1
    refine ⟨r.z.change ok r.n.own k, ⟨r.n.own, m, F'.ns, hv⟩, ⟨fun y c e => ?_, r.c.inj, fun y v' e => ?_⟩, ⟨r.l.len, fun i fz l e => ?_, r.l.inj⟩⟩
    · obtain ⟨a, b, v', d⟩ := r.c.own y c e
      exact ⟨a, b, v', let ⟨o, p, q⟩ := d; ⟨o, k _ _ b p, q⟩⟩
    · obtain ⟨c, u', a, b, d⟩ := r.c.val y v' e
      exact ⟨c, u', a, let ⟨o, p, q⟩ := b; ⟨o, k _ _ (r.c.own _ _ a).2.1 p, q⟩, d⟩
    · obtain ⟨a, b, d⟩ := r.l.at_ i fz l e
      exact ⟨a, b, let ⟨o, it, p, q⟩ := d.at_; ⟨o, it, k _ _ d.nL p, q⟩, d.nL, d.nC, d.new, d.own⟩

set_option tactic.hygienic false in
theorem LstO.is {h : Heap} {a : Addr} {o : Obj} {items : Array Value} (e : h.get? a = some o) (l : LstO o items) : h.IsList a items := let ⟨n, q⟩ := l; ⟨o, e, by rw [q], n, by rw [q]⟩
set_option tactic.hygienic false in
theorem TupO.is {h : Heap} {a : Addr} {o : Obj} {items : Array Value} (e : h.get? a = some o) (l : TupO o items) : IsTup h a items := ⟨o, e, l.1, l.2.2⟩
/-- a row's object -/
inductive SeqAt' (W : Wd) (h : Heap) (l : List SV) (u : Value) : Prop
  | mk (a : Addr) (o : Obj) (items : Array Value) (e : u = .ref a) (g : h.get? a = some o) (v : VRs W l items.toList) (k : LstO o items ∨ TupO o items) : SeqAt' W h l u
theorem seq_at {X : Fx} {W : Wd} {st : St} {h : Heap} {v : SV} {u : Value} {l : List SV} (r : Rep X W st h) (hv : VR W v u) (e : seqOf st v = some l) : SeqAt' W h l u := by
  cases v <;> (try exact none_neQ e)
  case tup m =>
    obtain rfl := Option.some.inj e
    simp only [VR] at hv
    obtain ⟨a, o, items, e, h1, h2, h3⟩ := hv
    exact ⟨a, o, items, e, r.z.sub _ _ h1, h3, .inr h2⟩
  case sl m =>
    obtain rfl := Option.some.inj e
    simp only [VR] at hv
    obtain ⟨a, o, items, e, h1, h2, h3⟩ := hv
    exact ⟨a, o, items, e, r.z.sub _ _ h1, h3, .inl h2⟩
  case fl m =>
    obtain rfl := Option.some.inj e
    simp only [VR] at hv
    obtain ⟨a, o, items, e, h1, h2, h3⟩ := hv
    exact ⟨a, o, items, e, r.z.subL _ _ h1, h3, .inl h2⟩
  case ml i =>
    dsimp only [seqOf] at e
    rcases q : st.mls[i]? with _ | p
    · rw [q] at e; exact none_neQ e
    ·
      rw [q] at e
      obtain rfl := Option.some.inj e
      simp only [VR] at hv
      obtain ⟨a, rfl, ha⟩ := hv
      obtain ⟨a', ha', d⟩ := r.l.at_ _ _ _ q
      rw [ha] at ha'
      obtain rfl := Option.some.inj ha'
      obtain ⟨o, items, x, y, z, _⟩ := d.at_
      exact ⟨a, o, items, rfl, x, z, .inl y⟩
set_option tactic.hygienic false in
theorem VRs.rep {W : Wd} {l : List SV} {items : Array Value} (h : VRs W l items.toList) : ∀ n : Nat, VRs W (rep n l) (List.foldl (fun x1 x2 => x1 ++ x2) #[] (List.replicate n items)).toList := by
  have key : ∀ (n : Nat) (acc : Array Value), (List.foldl (fun x1 x2 => x1 ++ x2) acc (List.replicate n items)).toList = acc.toList ++ (List.foldl (fun x1 x2 => x1 ++ x2) #[] (List.replicate n items)).toList := by
    intro n
    induction n with
    | zero => intro acc; simp
    | succ n ih =>
      intro acc
      rw [List.replicate_succ, List.foldl_cons, List.foldl_cons, ih (acc ++ items), ih (#[] ++ items)]
      simp
  intro n
  induction n with
  | zero => simp [Mine.rep, VRs]
  | succ n ih =>
    rw [List.replicate_succ, List.foldl_cons, key]
    show VRs W (l ++ Mine.rep n l) _
    exact .append (by simpa using h) ih
section
variable {n : Nat} {X : Fx} {W : Wd} {st : St} {A : Around} {E : Value → Shared → Prop} {s : Shared} {Q : Value → Shared → Prop} {C : Cx}
set_option tactic.hygienic false in
theorem post_tup {h' : Heap} {a : Addr} {o : Obj} {items : Array Value} {l : List SV} {tk : Nat} (ok : FxOK X) (r : Rep X W st s.heap) (r' : Rep X W st h') (fr : s.heap.get? a = none) (e : h'.get? a = some o) (ho : TupO o items) (hv : VRs W l items.toList)
    (h : Post X W s Q (.tup l, st)) : Q (.ref a) { s with heap := h', toks := tk } := by
  obtain ⟨le, r₂⟩ := r.addH ok r' fr e
  refine h _ _ _ le r₂ (.heap s h' tk) ?_
  simp only [VR]
  exact ⟨a, o, items, rfl, .inr ⟨rfl, rfl⟩, ho, hv.mono le⟩
set_option tactic.hygienic false in
theorem post_lst {h' : Heap} {a : Addr} {o : Obj} {items : Array Value} {l : List SV} {tk : Nat} (r : Rep X W st s.heap) (r' : Rep X W st h') (fr : s.heap.get? a = none) (e : h'.get? a = some o) (ho : LstO o items) (hv : VRs W l items.toList)
    (h : Post X W s Q (newL st l)) : Q (.ref a) { s with heap := h', toks := tk } := by
  obtain ⟨le, r₂, v⟩ := Rep.newLU (r.untr fr) r' e ho hv
  exact h _ _ _ le r₂ (.heap s h' tk) v
set_option tactic.hygienic false in
theorem tupO'_eq {y : SV} {l : List SV} (h : tupO' y = some l) : y = .tup l := by
  cases y <;> (try exact none_neQ h)
  rw [Option.some.inj h]
set_option tactic.hygienic false in
theorem mlO_eq {y : SV} {l : Nat} (h : mlO y = some l) : y = .ml l := by
  cases y <;> (try exact none_neQ h)
  rw [Option.some.inj h]
set_option tactic.hygienic false in
theorem numO_eq {y : SV} {l : Int} (h : numO y = some l) : y = .num l := by
  cases y <;> (try exact none_neQ h)
  rw [Option.some.inj h]
set_option tactic.hygienic false in
theorem isAdd_eq {op : Operator} (h : isAdd op = true) : op = .Add := by
  cases op <;> (try exact Bool.noConfusion h)
  rfl
set_option tactic.hygienic false in
theorem isMul_eq {op : Operator} (h : isMul op = true) : op = .Mult := by
  cases op <;> (try exact Bool.noConfusion h)
  rfl
set_option tactic.hygienic false in
theorem isEl_eq {v : SV} (h : isEl v = true) : ∃ p x y, v = .el p x y := by
  cases v <;> (try exact Bool.noConfusion h)
  exact ⟨_, _, _, rfl⟩
set_option tactic.hygienic false in
theorem bopT_sound {op : Operator} {y : SV} {u v : Value} (ok : FxOK X) (hA : OKA n A) (r : Rep X W st s.heap) {l : List SV} (hx : VR W (.tup l) u) (hy : VR W y v) (h : (bopT op l y st).Holds (Post X W s Q) (PostX X W s E)) : wpAny (model PW X.w) A (binaryOp op u v) Q E s := by
  unfold bopT at h
  rcases e : tupO' y with _ | l'
  · rw [e] at h; exact h.elim
  rw [e] at h
  dsimp only at h
  rcases q : isAdd op && Nat.blt (l.length + l'.length) 1000 && Nat.blt 0 l.length && Nat.blt 0 l'.length with _ | _
  · rw [q] at h; exact h.elim
  rw [q] at h
  obtain ⟨q, p2⟩ := Bool.and_eq_true_iff.mp q
  obtain ⟨q, p1⟩ := Bool.and_eq_true_iff.mp q
  obtain ⟨q0, q⟩ := Bool.and_eq_true_iff.mp q
  obtain rfl := isAdd_eq q0
  obtain rfl := tupO'_eq e
  have p1 := Nat.le_of_ble_eq_true p1
  have p2 := Nat.le_of_ble_eq_true p2
  obtain ⟨h₀, m, news, F, K₀, lim, N, back, mem⟩ := r.ledger ok
  simp only [VR] at hx hy
  obtain ⟨a, o, items, rfl, h1, h2, h3⟩ := hx
  obtain ⟨a', o', items', rfl, h1', h2', h3'⟩ := hy
  have z1 := h3.length
  have z2 := h3'.length
  have q := Nat.le_of_ble_eq_true q
  refine add_tuples (vs := items.toList) (ws := items'.toList) F N (by simpa using h2.is (r.z.sub _ _ h1)) (by simpa using h2'.is (r.z.sub _ _ h1')) (fun z => by rw [z] at z1; exact absurd p1 (by rw [← z1]; exact Nat.lt_irrefl 0)) (fun _ z => by rw [z] at z2; exact absurd p2 (by rw [← z2]; exact Nat.lt_irrefl 0)) (fun _ _ h' F' N' => ?_) (by rw [sizeLine_eq]; omega)
  exact post_tup ok r (back h' F' (fun p hp => N' p (List.mem_cons_of_mem _ hp))) (fresh_none (Nat.le_refl _)) (N' _ List.mem_cons_self).1 ⟨rfl, rfl, _, rfl⟩ (by simpa using h3.append h3') h
set_option tactic.hygienic false in
theorem bopA_sound {op : Operator} {y : SV} {u v : Value} (ok : FxOK X) (hA : OKA n A) (r : Rep X W st s.heap) {i j : Nat} (hx : VR W (.ml i) u) (hy : VR W (.ml j) v) (h : (bopA i j st).Holds (Post X W s Q) (PostX X W s E)) : wpAny (model PW X.w) A (binaryOp .Add u v) Q E s := by
  unfold bopA at h
  cases e : st.mls[i]? with
  | none => rw [e] at h; exact h.elim
  | some p =>
  rw [e] at h
  dsimp only at h
  rcases e' : st.mls[j]? with _ | p'
  · rw [e'] at h; exact h.elim
  rw [e'] at h
  dsimp only at h
  rcases q : Nat.blt (p.2.length + p'.2.length) 1000 with _ | _
  · rw [q] at h; exact h.elim
  rw [q] at h
  obtain ⟨fz, l⟩ := p
  obtain ⟨fz', l'⟩ := p'
  dsimp only at q h
  obtain ⟨h₀, m, news, F, K₀, lim, N, back, mem⟩ := r.ledger ok
  simp only [VR] at hx hy
  obtain ⟨a, rfl, ha⟩ := hx
  obtain ⟨b, rfl, hb⟩ := hy
  obtain ⟨a', ha', d⟩ := r.l.at_ _ _ _ e
  rw [ha] at ha'
  cases ha'
  obtain ⟨b', hb', d'⟩ := r.l.at_ _ _ _ e'
  rw [hb] at hb'
  cases hb'
  obtain ⟨o, items, x, y, z, _⟩ := d.at_
  obtain ⟨o', items', x', y', z', _⟩ := d'.at_
  have z1 := z.length
  have z2 := z'.length
  have q := Nat.le_of_ble_eq_true q
  refine add_arrays F N (y.is x) (y'.is x') (fun h' F' N' => ?_) (by rw [sizeLine_eq, ← Array.length_toList, ← Array.length_toList]; omega)
  exact post_lst r (back h' F' (fun p hp => N' p (List.mem_cons_of_mem _ hp))) (fresh_none (Nat.le_refl _)) (N' _ List.mem_cons_self).1 ⟨_, rfl⟩ (by simpa using z.append z') h
set_option tactic.hygienic false in
theorem bopU_sound {op : Operator} {y : SV} {u v : Value} (ok : FxOK X) (hA : OKA n A) (r : Rep X W st s.heap) {i : Nat} {n' : Int} (hx : VR W (.ml i) u) (hy : VR W (.num n') v) (h : (bopU i n' st).Holds (Post X W s Q) (PostX X W s E)) : wpAny (model PW X.w) A (binaryOp .Mult u v) Q E s := by
  unfold bopU at h
  rcases e : st.mls[i]? with _ | p
  · rw [e] at h; exact h.elim
  rw [e] at h
  dsimp only at h
  rcases q : decide (0 ≤ n') && decide (n' < 100) && Nat.blt p.2.length 100 && Nat.blt 0 p.2.length with _ | _
  · rw [q] at h; exact h.elim
  rw [q] at h
  obtain ⟨fz, l⟩ := p
  dsimp only at q h
  simp only [Bool.and_eq_true, decide_eq_true_eq] at q
  obtain ⟨⟨⟨q1, q2⟩, q3⟩, q4⟩ := q
  have q3 := Nat.le_of_ble_eq_true q3
  have q4 := Nat.le_of_ble_eq_true q4
  obtain ⟨h₀, m, news, F, K₀, lim, N, back, mem⟩ := r.ledger ok
  simp only [VR] at hx hy
  obtain ⟨a, rfl, ha⟩ := hx
  obtain ⟨t, rfl⟩ := hy
  obtain ⟨a', ha', d⟩ := r.l.at_ _ _ _ e
  rw [ha] at ha'
  cases ha'
  obtain ⟨o, items, x, ⟨k, rfl⟩, z, _⟩ := d.at_
  have z1 := z.length
  rw [Array.length_toList] at z1
  have ne : items.isEmpty = false := by
    rw [Array.isEmpty_eq_false_iff]
    intro w
    subst w
    simp at z1
    omega
  refine mul_list F N x (by omega) (by omega) ?_ fun h' F' N' => ?_
  · rw [z1]
    exact Nat.le_trans (Nat.mul_le_mul (show _ ≤ 100 by omega) (show _ ≤ 100 by omega)) (by decide)
  · rw [ne] at N'
    exact post_lst r (back h' F' (fun p hp => N' p (List.mem_cons_of_mem _ hp))) (fresh_none (Nat.le_refl _)) (N' _ List.mem_cons_self).1 ⟨_, rfl⟩ (z.rep _) h
theorem bop_sound {op : Operator} {x y : SV} {u v : Value} (hF : FOK n C.F) (ok : FxOK X) (hA : OKA n A) (r : Rep X W st s.heap) (hx : VR W x u) (hy : VR W y v)
    (h : (bop C op x y st).Holds (Post X W s Q) (PostX X W s E)) : wpAny (model PW X.w) A (binaryOp op u v) Q E s := by
  unfold bop at h
  rcases e1 : asI x with _ | p
  rotate_left
  ·
    rw [e1] at h
    dsimp only at h
    rcases e2 : asI y with _ | q
    · rw [e2] at h; exact h.elim
    ·
      rw [e2] at h
      exact bopI_sound hx hy e1 e2 ((holds_liftS h).mono (fun a ha u' tk hv => post_tok r ha hv) fun _ z => z)
  ·
    rw [e1] at h
    clear e1
    replace h : (bopN C op x y st).Holds (Post X W s Q) (PostX X W s E) := h
    cases x <;> (try exact h.elim)
    · exact bopT_sound ok hA r hx hy h
    · rename_i p x1 y1
      replace h : (bopE C op (.el p x1 y1) y st).Holds (Post X W s Q) (PostX X W s E) := h
      unfold bopE at h
      rcases e : opAddr op with _ | f
      · rw [e] at h; exact h.elim
      ·
        rw [e] at h
        dsimp only at h
        cases q : isEl y || (asI y).isSome with
        | false => rw [q] at h; exact h.elim
        | true =>
          rw [q] at h
          rcases q1 : isEl y with _ | _
          rotate_left
          ·
            obtain ⟨a, b, c, rfl⟩ := isEl_eq q1
            exact bopEl_sound hF ok hA r hx hy e rfl (.inl ⟨_, _, _, rfl⟩) h
          ·
            rw [q1, Bool.false_or] at q
            obtain ⟨z, e'⟩ := Option.isSome_iff_exists.mp q
            refine bopEl_sound hF ok hA r hx hy e ?_ (.inr ⟨z, e'⟩) h
            cases y <;> (try exact none_neQ e') <;> rfl
    · rename_i i
      replace h : (bopM op i y st).Holds (Post X W s Q) (PostX X W s E) := h
      unfold bopM at h
      rcases q : isAdd op with _ | _
      rotate_left
      ·
        rw [q] at h
        dsimp only at h
        obtain rfl := isAdd_eq q
        rcases e : mlO y with _ | j
        · rw [e] at h; exact h.elim
        ·
          rw [e] at h
          obtain rfl := mlO_eq e
          exact bopA_sound (op := .Add) (y := .ml j) ok hA r hx hy h
      ·
        rw [q] at h
        dsimp only at h
        rcases q2 : isMul op with _ | _
        · rw [q2] at h; exact h.elim
        ·
          rw [q2] at h
          dsimp only at h
          obtain rfl := isMul_eq q2
          rcases e : numO y with _ | j
          · rw [e] at h; exact h.elim
          ·
            rw [e] at h
            obtain rfl := numO_eq e
            exact bopU_sound (op := .Mult) (y := .num j) ok hA r hx hy h
end
section
variable {n : Nat} {X : Fx} {W : Wd} {st : St} {A : Around} {E : Value → Shared → Prop} {s : Shared} {Q : Value → Shared → Prop} {C : Cx}
theorem isIntB_eq {v : SV} (h : isIntB v = true) : v = .bi .int := by
  cases v <;> (try exact Bool.noConfusion h)
  rename_i b
  cases b <;> (try exact Bool.noConfusion h)
  rfl
set_option tactic.hygienic false in
theorem isFQP_eq {v : SV} (h : isFQP v = true) : v = .fn 213 := by
  cases v <;> (try exact Bool.noConfusion h)
  rw [Nat.eq_of_beq_eq_true h]
theorem callB_sound {b : Bi} {args : List SV} {us : List Value} (ok : FxOK X) (r : Rep X W st s.heap) (hv : VRs W args us) (h : (callB b args st).Holds (Post X W s Q) (PostX X W s E)) : wpAny (model PW X.w) A (call b.val us) Q E s := by
  cases b <;> rcases args with _ | ⟨v, ar⟩ <;> (try exact h.elim)
  case len.cons =>
    rcases ar with _ | ⟨_, _⟩ <;> (try exact h.elim)
    dsimp only [callB] at h
    simp only [VRs] at hv
    obtain ⟨u, _, rfl, hv, rfl⟩ := hv
    split at h
    · next l e =>
      split at h
      · next q =>
        obtain ⟨a, o, items, rfl, x, z, y⟩ := seq_at r hv e
        have q := Nat.le_of_ble_eq_true q
        have z1 := z.length
        rw [Array.length_toList] at z1
        rcases y with y | y
        · exact len_list (y.is x) (by omega) (post_tok r h (by simp only [VR]; exact ⟨_, by rw [z1]⟩))
        · exact len_tuple (y.is x) (by omega) (post_tok r h (by simp only [VR]; exact ⟨_, by rw [z1]⟩))
      · exact h.elim
    · exact h.elim
  case int.cons =>
    rcases ar with _ | ⟨_, _⟩ <;> (try exact h.elim)
    dsimp only [callB] at h
    simp only [VRs] at hv
    obtain ⟨u, _, rfl, hv, rfl⟩ := hv
    split at h
    · next e =>
      obtain ⟨⟨t, rfl⟩, _⟩ := asI_VR hv e
      exact call_int_int (Post.same h r hv)
    · split at h
      · simp only [VR] at hv; subst hv
        exact call_int_bool (post_tok r h (by simp only [VR]; exact ⟨_, rfl⟩))
      · simp only [VR] at hv; subst hv
        refine call_int_bool (post_tok r h ?_)
        simp only [VR, bdd]
        exact ⟨⟨_, rfl⟩, by split <;> simp⟩
      · exact h.elim
  case bool.cons =>
    rcases ar with _ | ⟨_, _⟩ <;> (try exact h.elim)
    dsimp only [callB] at h
    simp only [VRs] at hv
    obtain ⟨u, _, rfl, hv, rfl⟩ := hv
    split at h
    · next e =>
      cases v <;> (try exact none_neQ e) <;> (have e' := Option.some.inj e; clear e; subst e'; simp only [VR] at hv)
      · obtain ⟨t, rfl⟩ := hv; exact call_bool_int (Post.same h r (by simp only [VR]))
      · obtain ⟨⟨t, rfl⟩, h1, h2⟩ := hv
        refine call_bool_int (Post.same h r ?_)
        simp only [VR]
        congr 1
        simpa using (show _ ≠ (0 : Int) from Int.ne_of_gt h1)
      · obtain ⟨⟨t, rfl⟩, _⟩ := hv; exact call_bool_int (Post.same h r (by simp only [VR]))
      · subst hv; exact call_bool_bool (Post.same h r (by simp only [VR]))
      · subst hv; exact call_bool_bool (Post.same h r (by simp only [VR]))
      · subst hv; exact call_bool_none (Post.same h r (by simp only [VR]))
    · exact h.elim
  case isinstance.cons =>
    rcases ar with _ | ⟨w, _ | ⟨_, _⟩⟩ <;> (try exact h.elim)
    replace h : (isInst v w st).Holds (Post X W s Q) (PostX X W s E) := h
    simp only [VRs] at hv
    obtain ⟨u, _, rfl, hv, u2, _, rfl, hv2, rfl⟩ := hv
    unfold isInst at h
    split at h
    · next ew =>
      obtain rfl := isIntB_eq ew
      simp only [VR] at hv2
      subst hv2
      split at h
      · next e =>
        obtain ⟨⟨t, rfl⟩, _⟩ := asI_VR hv e
        exact IsiPair.int_int (Post.same h r (by simp only [VR]))
      · split at h
        · next ev =>
          obtain ⟨p, x, y, rfl⟩ := isEl_eq ev
          simp only [VR] at hv
          obtain ⟨a, rfl, e⟩ := hv
          obtain ⟨ox, es, k, lm, tc, tm, I, D⟩ := elInst r e
          exact kin_callT (r.z.kx ok) I (by kernel_rfl) (by kernel_rfl) (by kernel_rfl) (by kernel_rfl) (by kernel_rfl) (by kernel_rfl) (by kernel_rfl) (by kernel_rfl) (post_tok r h (by simp only [VR]))
        · exact h.elim
    · split at h
      · next ew =>
        obtain ⟨e1, e2⟩ := Bool.and_eq_true_iff.mp ew
        obtain rfl := isFQP_eq e1
        obtain ⟨p, x, y, rfl⟩ := isEl_eq e2
        simp only [VR] at hv hv2
        subst hv2
        obtain ⟨a, rfl, e⟩ := hv
        obtain ⟨ox, es, k, lm, tc, tm, I, D⟩ := elInst r e
        exact isi_call (t := .ref 242) (r.z.kx ok) (fun M => I.type) (by kernel_rfl) (fun e => by cases e) (Post.same h r (by simp only [VR]))
      · exact h.elim
  case tuple.cons =>
    rcases ar with _ | ⟨_, _⟩ <;> (try exact h.elim)
    dsimp only [callB] at h
    simp only [VRs] at hv
    obtain ⟨u, _, rfl, hv, rfl⟩ := hv
    split at h
    · have hv' := hv
      simp only [VR] at hv'
      obtain ⟨a, o, items, rfl, h1, h2, h3⟩ := hv'
      exact call_tuple_tup (h2.is (r.z.sub _ _ h1)) (Post.same h r hv)
    · split at h
      · next e =>
        split at h
        · next q =>
          simp only [VR] at hv
          obtain ⟨a, rfl, ha⟩ := hv
          obtain ⟨a', ha', d⟩ := r.l.at_ _ _ _ e
          rw [ha] at ha'
          cases ha'
          obtain ⟨o, items, x, y, z, _⟩ := d.at_
          have q := Nat.le_of_ble_eq_true q
          have z1 := z.length
          rw [Array.length_toList] at z1
          refine call_tuple_list (y.is x) (fun h' hk => ?_) (by rw [sizeLine_eq]; omega)
          refine post_tup (tk := s.toks) ok r (r.grow fun b o e => Heap.get?_push_of_some _ (hk b o e)) ?_ (Heap.get?_push_size _ rfl) ⟨rfl, rfl, _, rfl⟩ z h
          rcases w : s.heap.get? h'.objs.size with _ | o'
          · rfl
          · exact absurd (Heap.lt_size (hk _ _ w)) (Nat.lt_irrefl _)
        · exact h.elim
      · exact h.elim
    · exact h.elim
  case list.cons =>
    rcases ar with _ | ⟨_, _⟩ <;> (try exact h.elim)
    dsimp only [callB] at h
    simp only [VRs] at hv
    obtain ⟨u, _, rfl, hv, rfl⟩ := hv
    split at h
    · next l e =>
      split at h
      · next q =>
        obtain ⟨a, o, items, rfl, x, z, y⟩ := seq_at r hv e
        have q := Nat.le_of_ble_eq_true q
        have z1 := z.length
        rw [Array.length_toList] at z1
        have key : ∀ (T : String) (k : Nat), (T = "list" ∨ T = "tuple") → o.cls = .type T → o.data = .seq items k → wpAny (model PW X.w) A (call (.type "list") [.ref a]) Q E s := fun T k hT hc hd =>
          call_list_seq a hT x hc hd (fun h' c' hk e' => post_lst (tk := s.toks) r (r.grow hk) (fresh_none (Nat.le_refl _)) e' ⟨_, rfl⟩ z h) (by rw [sizeLine_eq]; omega)
        rcases y with ⟨k, y⟩ | ⟨y1, y2, k, y3⟩
        · exact key "list" k (.inl rfl) (by rw [y]) (by rw [y])
        · exact key "tuple" k (.inr rfl) y1 y3
      · exact h.elim
    · exact h.elim
theorem callV_sound {f : SV} {args : List SV} {u : Value} {us : List Value} (hF : FOK n C.F) (ok : FxOK X) (hA : OKA n A) (r : Rep X W st s.heap) (hf : VR W f u) (hv : VRs W args us) (h : (callV C f args st).Holds (Post X W s Q) (PostX X W s E)) :
    wpAny (model PW X.w) A (call u us) Q E s := by
  unfold callV at h
  split at h
  · simp only [VR] at hf
    subst hf
    split at h
    · next e => exact callF_sound hF ok hA r hv e h
    · exact h.elim
  · simp only [VR] at hf
    subst hf
    exact callB_sound ok r hv h
  · exact h.elim
end
set_option tactic.hygienic false in
theorem isB_mkB {k b : Bool} : isB (mkB k b) b := by cases k; exact .inr rfl; exact .inl rfl
set_option tactic.hygienic false in
theorem isB_and {x y c : SV} {a b : Bool} (h : andB x y = some c) (hx : isB x a) (hy : isB y b) : isB c (a && b) := by
  rcases hx with rfl | rfl <;> rcases hy with rfl | rfl
  · cases a <;> (obtain rfl := Option.some.inj h) <;> exact .inl (by simp)
  · cases a <;> (obtain rfl := Option.some.inj h)
    · exact .inl (by simp)
    · exact .inr (by simp)
  · cases b <;> (obtain rfl := Option.some.inj h) <;> exact .inr (by simp)
  · obtain rfl := Option.some.inj h; exact .inr rfl
set_option tactic.hygienic false in
theorem pd_asI {x : SV} {k : Bool} {n : Int} {b : Option Nat} (h : asI x = some (k, n, b)) : pd x = some (.int n) := by
  cases x <;> (try exact none_neQ h) <;> exact congrArg (fun q : Bool × Int × Option Nat => some (PyData.int q.2.1)) (Option.some.inj h)
set_option tactic.hygienic false in
theorem pd_tup {l : List SV} {d : PyData} (h : pd (.tup l) = some d) : ∃ ds, pdL l = some ds ∧ d = .tuple ds := by
  simp only [pd] at h
  rcases e : pdL l with _ | ds
  · rw [e] at h; exact none_neQ h
  · rw [e] at h; exact ⟨ds, rfl, (Option.some.inj h).symm⟩
set_option tactic.hygienic false in
theorem eqNone_eqv {y c : SV} {e : PyData} (h : eqNone y = some c) (hy : pd y = some e) : isB c (PyData.none.eqv e) := by
  cases y <;> (try exact none_neQ h)
  · rw [← Option.some.inj h, ← Option.some.inj hy]; exact .inl (by simp [PyData.eqv])
  · rw [← Option.some.inj h, ← Option.some.inj hy]; exact .inl (by simp [PyData.eqv])
  · obtain ⟨ds, _, rfl⟩ := pd_tup hy
    rw [← Option.some.inj h]; exact .inl (by simp [PyData.eqv])
set_option tactic.hygienic false in
theorem eqStr_eqv {a : Str} {y c : SV} {e : PyData} (h : eqStr a y = some c) (hy : pd y = some e) : isB c ((PyData.str a).eqv e) := by
  cases y <;> (try exact none_neQ h)
  · rw [← Option.some.inj h, ← Option.some.inj hy]; exact .inl (by simp [PyData.eqv])
  · rw [← Option.some.inj h, ← Option.some.inj hy]
    refine .inl ?_
    simp only [PyData.eqv]
    congr 1
    rw [Bool.eq_iff_iff, sq_iff, beq_iff_eq]
  · obtain ⟨ds, _, rfl⟩ := pd_tup hy
    rw [← Option.some.inj h]; exact .inl (by simp [PyData.eqv])
set_option tactic.hygienic false in
theorem eqTup_eqv {ds : List PyData} {y c : SV} {e : PyData} (h : eqTup y = some c) (hy : pd y = some e) : isB c ((PyData.tuple ds).eqv e) := by
  cases y <;> (try exact none_neQ h)
  · rw [← Option.some.inj h, ← Option.some.inj hy]; exact .inl (by simp [PyData.eqv])
  · rw [← Option.some.inj h, ← Option.some.inj hy]; exact .inl (by simp [PyData.eqv])
set_option tactic.hygienic false in
theorem eqBo_eqv {k a : Bool} {y c : SV} {e : PyData} (h : eqBo k a y = some c) (hy : pd y = some e) : isB c ((PyData.bool a).eqv e) := by
  cases y <;> (try exact none_neQ h)
  · rw [← Option.some.inj h, ← Option.some.inj hy]; simp only [PyData.eqv]; exact isB_mkB
  · rw [← Option.some.inj h, ← Option.some.inj hy]; exact .inr (by simp [PyData.eqv])
set_option tactic.hygienic false in
theorem eqIn_eqv {x y c : SV} {d e : PyData} (h : eqIn x y = some c) (hx : pd x = some d) (hy : pd y = some e) : isB c (d.eqv e) := by
  unfold eqIn at h
  rcases e1 : asI x with _ | p
  · rw [e1] at h; exact none_neQ h
  rw [e1] at h
  dsimp only at h
  rcases e2 : asI y with _ | q
  · rw [e2] at h; exact none_neQ h
  rw [e2] at h
  obtain ⟨k1, a, b1⟩ := p
  obtain ⟨k2, b, b2⟩ := q
  rw [pd_asI e1] at hx
  rw [pd_asI e2] at hy
  rw [← Option.some.inj h, ← Option.some.inj hx, ← Option.some.inj hy]
  simp only [PyData.eqv]
  exact isB_mkB
set_option tactic.hygienic false in
theorem tupL_eq {y : SV} {b : List SV} (h : tupL y = some b) : y = .tup b := by
  cases y <;> (try exact none_neQ h)
  rw [Option.some.inj h]
mutual
theorem eqS_eqv : ∀ {x y c : SV} {d e : PyData}, eqS x y = some c → pd x = some d → pd y = some e → isB c (d.eqv e)
  | .none, y, c, d, e, h, hx, hy => by simp only [eqS, pd] at h hx; rw [← Option.some.inj hx]; exact eqNone_eqv h hy
  | .str _, y, c, d, e, h, hx, hy => by simp only [eqS, pd] at h hx; rw [← Option.some.inj hx]; exact eqStr_eqv h hy
  | .bool _, y, c, d, e, h, hx, hy => by simp only [eqS, pd] at h hx; rw [← Option.some.inj hx]; exact eqBo_eqv h hy
  | .sb _, y, c, d, e, h, hx, hy => by simp only [eqS, pd] at h hx; rw [← Option.some.inj hx]; exact eqBo_eqv h hy
  | .tup a, y, c, d, e, h, hx, hy => by
    obtain ⟨ds, h1, rfl⟩ := pd_tup hx
    simp only [eqS] at h
    rcases e1 : tupL y with _ | b
    · rw [e1] at h; exact eqTup_eqv h hy
    ·
      rw [e1] at h
      obtain rfl := tupL_eq e1
      obtain ⟨es, h2, rfl⟩ := pd_tup hy
      simp only [PyData.eqv]
      exact eqL_eqv h h1 h2
  | .num _, y, c, d, e, h, hx, hy | .md _, y, c, d, e, h, hx, hy | .int _ _, y, c, d, e, h, hx, hy => by simp only [eqS] at h; exact eqIn_eqv h hx hy
  | .el _ _ _, _, c, d, e, h, hx, hy | .sl _, _, c, d, e, h, hx, hy | .fl _, _, c, d, e, h, hx, hy | .ml _, _, c, d, e, h, hx, hy | .fn _, _, c, d, e, h, hx, hy | .bi _, _, c, d, e, h, hx, hy | .ty _, _, c, d, e, h, hx, hy => by
    simp only [pd] at hx; exact none_neQ hx
theorem eqL_eqv : ∀ {x y : List SV} {c : SV} {d e : List PyData}, eqS.eqL x y = some c → pdL x = some d → pdL y = some e → isB c (PyData.eqvAll d e)
  | [], [], c, d, e, h, hx, hy => by simp only [eqS.eqL, pdL] at h hx hy; cases h; cases hx; cases hy; exact .inl (by simp [PyData.eqvAll])
  | [], y :: b, c, d, e, h, hx, hy => by
    simp only [eqS.eqL, pdL] at h hx hy; cases h; cases hx
    split at hy <;> cases hy
    exact .inl (by simp [PyData.eqvAll])
  | x :: a, [], c, d, e, h, hx, hy => by
    simp only [eqS.eqL, pdL] at h hx hy; cases h; cases hy
    split at hx <;> cases hx
    exact .inl (by simp [PyData.eqvAll])
  | x :: a, y :: b, c, d, e, h, hx, hy => by
    simp only [eqS.eqL, pdL] at h hx hy
    split at h
    · next h1 h2 =>
      split at hx
      · next q1 q2 =>
        cases hx
        split at hy
        · next q3 q4 =>
          cases hy
          simp only [PyData.eqvAll]
          exact isB_and h (eqS_eqv h1 q1 q3) (eqL_eqv h2 q2 q4)
        · cases hy
      · cases hx
    · cases h
end
mutual
theorem VR_reads {W : Wd} {h : Heap} (sub : ∀ b o, W.H b o → h.get? b = some o) : ∀ {x : SV} {u : Value} {d : PyData}, VR W x u → pd x = some d → ∃ as, Reads h u d as
  | .num n, u, d, hv, e => by simp only [VR, pd] at hv e; cases e; obtain ⟨t, rfl⟩ := hv; exact ⟨_, .int _ _⟩
  | .md n, u, d, hv, e => by simp only [VR, pd] at hv e; cases e; obtain ⟨⟨t, rfl⟩, _⟩ := hv; exact ⟨_, .int _ _⟩
  | .int n _, u, d, hv, e => by simp only [VR, pd] at hv e; cases e; obtain ⟨⟨t, rfl⟩, _⟩ := hv; exact ⟨_, .int _ _⟩
  | .bool b, u, d, hv, e => by simp only [VR, pd] at hv e; cases e; subst hv; exact ⟨_, .bool _⟩
  | .sb b, u, d, hv, e => by simp only [VR, pd] at hv e; cases e; subst hv; exact ⟨_, .bool _⟩
  | .none, u, d, hv, e => by simp only [VR, pd] at hv e; cases e; subst hv; exact ⟨_, .none⟩
  | .str s, u, d, hv, e => by simp only [VR, pd] at hv e; cases e; obtain ⟨t, rfl⟩ := hv; exact ⟨_, .str _ _⟩
  | .tup l, u, d, hv, e => by
    simp only [VR, pd] at hv e
    split at e
    · next ds q =>
      cases e
      obtain ⟨a, o, items, rfl, h1, ⟨c1, c2, k, c3⟩, h3⟩ := hv
      obtain ⟨as, hr⟩ := VRs_reads sub h3 q
      exact ⟨as, .tuple (sub _ _ h1) c1 c3 hr⟩
    · cases e
  | .el _ _ _, u, d, hv, e | .sl _, u, d, hv, e | .fl _, u, d, hv, e | .ml _, u, d, hv, e | .fn _, u, d, hv, e | .bi _, u, d, hv, e | .ty _, u, d, hv, e => by simp only [pd] at e; cases e
theorem VRs_reads {W : Wd} {h : Heap} (sub : ∀ b o, W.H b o → h.get? b = some o) : ∀ {l : List SV} {us : List Value} {ds : List PyData}, VRs W l us → pdL l = some ds → ∃ as, ReadsAll h us ds as
  | [], us, ds, hv, e => by simp only [VRs, pdL] at hv e; cases e; subst hv; exact ⟨_, .nil⟩
  | x :: l, us, ds, hv, e => by
    simp only [VRs, pdL] at hv e
    obtain ⟨v, r, rfl, h1, h2⟩ := hv
    split at e
    · next q1 q2 =>
      cases e
      obtain ⟨as, ra⟩ := VR_reads sub h1 q1
      obtain ⟨bs, rb⟩ := VRs_reads sub h2 q2
      exact ⟨_, .cons ra rb⟩
    · cases e
end
theorem inS_any {x : SV} {d : PyData} (hd : pd x = some d) : ∀ {l : List SV} {ds : List PyData} {c : SV}, inS x l = some c → pdL l = some ds → isB c (ds.any fun y => y.eqv d)
  | [], ds, c, h, e => by simp only [inS, pdL] at h e; cases h; cases e; exact .inl rfl
  | y :: l, ds, c, h, e => by
    simp only [inS, pdL] at h e
    split at e
    · next q1 q2 =>
      cases e
      split at h
      · next a b h1 h2 =>
        split at h
        · next a' b' h3 h4 =>
          split at h
          · next h5 =>
            have i1 := isB_tN h3 (eqS_eqv h1 q1 hd)
            have i2 := isB_tN h4 (inS_any hd h2 q2)
            have i3 := isB_tN h (isB_and h5 i1 i2)
            rw [List.any_cons]
            rwa [Bool.not_and, Bool.not_not, Bool.not_not] at i3
          · cases h
        · cases h
      · cases h
    · cases e
section
variable {n : Nat} {X : Fx} {W : Wd} {st : St} {A : Around} {E : Value → Shared → Prop} {s : Shared} {Q : Value → Shared → Prop} {C : Cx}
set_option tactic.hygienic false in
theorem pdBoth_holds {x y : SV} {f : TS SV} {K : SV × St → Prop} {Z : St → Prop} (h : (pdBoth x y f).Holds K Z) : ∃ d e, pd x = some d ∧ pd y = some e ∧ SeqAt.shaped d = true ∧ SeqAt.shaped e = true ∧ f.Holds K Z := by
  unfold pdBoth at h
  cases e1 : pd x with
  | none => rw [e1] at h; exact h.elim
  | some d =>
  rw [e1] at h
  dsimp only at h
  rcases e2 : pd y with _ | e
  · rw [e2] at h; exact h.elim
  rw [e2] at h
  dsimp only at h
  rcases q : SeqAt.shaped d && SeqAt.shaped e with _ | _
  · rw [q] at h; exact h.elim
  rw [q] at h
  obtain ⟨q1, q2⟩ := Bool.and_eq_true_iff.mp q
  exact ⟨d, e, rfl, rfl, q1, q2, h⟩
set_option tactic.hygienic false in
theorem optS_holds {f : SV → TS SV} {o : Option SV} {K : SV × St → Prop} {Z : St → Prop} (h : (optS f o).Holds K Z) : ∃ b, o = some b ∧ (f b).Holds K Z := by
  rcases o with _ | b
  · exact h.elim
  · exact ⟨b, rfl, h⟩
set_option tactic.hygienic false in
theorem isNon_eq {v : SV} (h : isNon v = true) : v = .none := by
  cases v <;> (try exact Bool.noConfusion h)
  rfl
set_option tactic.hygienic false in
theorem cmpIs_sound {x y : SV} {u v : Value} (r : Rep X W st s.heap) (hx : VR W x u) (hy : VR W y v) (h : (cmpIs x y st).Holds (Post X W s Q) (PostX X W s E)) : wpAny (model PW X.w) A (compareOp .Is u v) Q E s := by
  unfold cmpIs at h
  rcases e1 : isNon y with _ | _
  · rw [e1] at h; exact h.elim
  rw [e1] at h
  dsimp only at h
  obtain rfl := isNon_eq e1
  simp only [VR] at hy
  subst hy
  refine is_none ?_
  rcases e2 : isNon x with _ | _
  rotate_left
  ·
    rw [e2] at h
    obtain rfl := isNon_eq e2
    simp only [VR] at hx
    subst hx
    exact Post.same h r (by simp only [VR]; rfl)
  ·
    rw [e2] at h
    dsimp only at h
    cases q : isTE x || (asI x).isSome with
    | false => rw [q] at h; exact h.elim
    | true =>
      rw [q] at h
      clear e2
      rcases e : asI x with _ | p
      rotate_left
      · obtain ⟨⟨t, rfl⟩, _⟩ := asI_VR hx (k := p.1) (n := p.2.1) (b := p.2.2) e; exact Post.same h r (by simp only [VR]; rfl)
      ·
        rw [e] at q
        clear e
        cases x <;> (try exact Bool.noConfusion q)
        · simp only [VR] at hx; obtain ⟨a, o, it, rfl, _⟩ := hx; exact Post.same h r (by simp only [VR]; rfl)
        · simp only [VR] at hx; obtain ⟨a, rfl, _⟩ := hx; exact Post.same h r (by simp only [VR]; rfl)
set_option tactic.hygienic false in
theorem cmpEq_sound {x y : SV} {u v : Value} (hF : FOK n C.F) (ok : FxOK X) (hA : OKA n A) (r : Rep X W st s.heap) (hx : VR W x u) (hy : VR W y v) (h : (cmpEq C x y st).Holds (Post X W s Q) (PostX X W s E)) : wpAny (model PW X.w) A (compareOp .Eq u v) Q E s := by
  have un : A.units + 65 < cLine := by have := hA.u; unfold cLine; omega
  unfold cmpEq at h
  rcases e1 : isEl x with _ | _
  rotate_left
  ·
    rw [e1] at h
    dsimp only at h
    rcases e2 : isEl y with _ | _
    · rw [e2] at h; exact h.elim
    ·
      rw [e2] at h
      obtain ⟨p, a0, b0, rfl⟩ := isEl_eq e1
      obtain ⟨p', a1, b1, rfl⟩ := isEl_eq e2
      have vs : VRs W [.el _ _ _, .el _ _ _] [u, v] := .cons hx (.one hy)
      have body := callF_sound hF ok hA r vs (by simp only [toArgs, toArg, SV.pl]) (holds_back h)
      simp only [VR] at hx hy
      obtain ⟨a, rfl, e⟩ := hx
      obtain ⟨a', rfl, e'⟩ := hy
      obtain ⟨ox, es, k, lm, tc, tm, I, D⟩ := elInst r e
      obtain ⟨ox', es', k', lm', tc', tm', I', D'⟩ := elInst r e'
      obtain ⟨h₀, m, F, K₀⟩ := r.fr ok
      refine cmp_ofEq ?_
      exact cmp_K (by omega) F K₀ I I'.type (by kernel_rfl) (f := 176) (by kernel_rfl) (by kernel_rfl) body
  ·
    rw [e1] at h
    obtain ⟨d, e, q1, q2, s1, s2, h⟩ := pdBoth_holds h
    obtain ⟨b, q3, h⟩ := optS_holds h
    obtain ⟨as, ra⟩ := VR_reads r.z.sub hx q1
    obtain ⟨bs, rb⟩ := VR_reads r.z.sub hy q2
    exact eq_dataH ra rb s1 s2 (by omega) (Post.same h r (VR_isB (eqS_eqv q3 q1 q2)))
set_option tactic.hygienic false in
theorem cmpNe_sound {x y : SV} {u v : Value} (hA : OKA n A) (r : Rep X W st s.heap) (hx : VR W x u) (hy : VR W y v) (h : (cmpNe x y st).Holds (Post X W s Q) (PostX X W s E)) : wpAny (model PW X.w) A (compareOp .NotEq u v) Q E s := by
  have un : A.units + 65 < cLine := by have := hA.u; unfold cLine; omega
  obtain ⟨d, e, q1, q2, s1, s2, h⟩ := pdBoth_holds h
  obtain ⟨b, q3, h⟩ := optS_holds h
  obtain ⟨c, q4, h⟩ := optS_holds h
  obtain ⟨as, ra⟩ := VR_reads r.z.sub hx q1
  obtain ⟨bs, rb⟩ := VR_reads r.z.sub hy q2
  exact ne_dataH ra rb s1 s2 (by omega) (Post.same h r (VR_isB (isB_tN q4 (eqS_eqv q3 q1 q2))))
theorem cmpInT_sound {x y : SV} {u v : Value} (hA : OKA n A) (r : Rep X W st s.heap) (hx : VR W x u) (hy : VR W y v) (h : (cmpInT x y st).Holds (Post X W s Q) (PostX X W s E)) : wpAny (model PW X.w) A (compareOp .In u v) Q E s := by
  have un : A.units + 65 < cLine := by have := hA.u; unfold cLine; omega
  unfold cmpInT at h
  rcases e0 : tupO' y with _ | l
  · rw [e0] at h; exact h.elim
  ·
    rw [e0] at h
    obtain rfl := tupO'_eq e0
    obtain ⟨d, e, q1, q2, s1, s2, h⟩ := pdBoth_holds h
    obtain ⟨b, q3, h⟩ := optS_holds h
    have sh : SeqAt.shaped d = true ∧ SeqAt.shaped e = true := ⟨s1, s2⟩
    obtain ⟨as, ra⟩ := VR_reads r.z.sub hx q1
    obtain ⟨bs, rb⟩ := VR_reads r.z.sub hy q2
    simp only [pd] at q2
    split at q2
    · next ds q5 =>
      cases q2
      have dd : d.depth ≤ 64 := by
        have := sh.1
        simp only [SeqAt.shaped, Bool.and_eq_true, decide_eq_true_eq] at this
        exact this.2
      have lay : d.canLay0 = true := by
        have := sh.1
        simp only [SeqAt.shaped, Bool.and_eq_true, decide_eq_true_eq] at this
        exact this.1
      have lay2 : PyData.canLayAll0 ds = true := by
        have := sh.2
        simp only [SeqAt.shaped, Bool.and_eq_true, decide_eq_true_eq, PyData.canLay0] at this
        exact this.1
      refine SeqAt.in_tuple_reads rb ra lay2 lay ?_ (Post.same h r (VR_isB (inS_any q1 q3 q5)))
      have := Nat.min_le_right (PyData.depthAll ds) d.depth
      omega
    · cases q2
set_option tactic.hygienic false in
theorem cmpV_sound {op : CmpOp} {x y : SV} {u v : Value} (hF : FOK n C.F) (ok : FxOK X) (hA : OKA n A) (r : Rep X W st s.heap) (hx : VR W x u) (hy : VR W y v) (h : (cmpV C op x y st).Holds (Post X W s Q) (PostX X W s E)) :
    wpAny (model PW X.w) A (compareOp op u v) Q E s := by
  unfold cmpV at h
  have un : A.units + 65 < cLine := by have := hA.u; unfold cLine; omega
  have D : (cmpN C op x y st).Holds (Post X W s Q) (PostX X W s E) → wpAny (model PW X.w) A (compareOp op u v) Q E s := fun h => by
    cases op <;> (try exact h.elim)
    · exact cmpEq_sound hF ok hA r hx hy h
    · exact cmpNe_sound hA r hx hy h
    · exact cmpIs_sound r hx hy h
    · exact cmpInT_sound hA r hx hy h
  rcases e1 : asI x with _ | p
  · rw [e1] at h; exact D h
  ·
    rw [e1] at h
    dsimp only at h
    rcases e2 : asI y with _ | p'
    · rw [e2] at h; exact D h
    ·
      rw [e2] at h
      obtain ⟨⟨t, rfl⟩, _⟩ := asI_VR hx (k := p.1) (n := p.2.1) (b := p.2.2) e1
      obtain ⟨⟨t', rfl⟩, _⟩ := asI_VR hy (k := p'.1) (n := p'.2.1) (b := p'.2.2) e2
      replace h : (cmpI op p p' st).Holds (Post X W s Q) (PostX X W s E) := h
      have vr : ∀ {b : Bool} {k : Bool}, VR W (mkB k b) (.bool b) := fun {b k} => VR_isB isB_mkB
      cases op <;> (try exact h.elim)
      · exact eq_int (Post.same h r vr)
      · exact ne_int (Post.same h r vr)
      · exact lt_int (Post.same h r vr)
      · exact le_int (Post.same h r vr)
      · exact gt_int (Post.same h r vr)
      · exact ge_int (Post.same h r vr)

theorem idx_seq {n : Nat} {k : Int} {j : Nat} (h : idx n k = some j) : seqIndex? k n = some j ∧ j < n ∧ -(n : Int) ≤ k ∧ k < n := by
  unfold idx at h
  unfold seqIndex?
  split at h
  · next q =>
    cases h
    simp only [Bool.and_eq_true, decide_eq_true_eq] at q
    have : ¬ k < 0 := by omega
    simp only [if_neg this]
    refine ⟨?_, by omega, by omega, q.2⟩
    rw [if_pos (by simp; omega)]
  · split at h
    · next q =>
      cases h
      simp only [Bool.and_eq_true, decide_eq_true_eq] at q
      simp only [if_pos q.1]
      refine ⟨?_, by omega, q.2, by omega⟩
      rw [if_pos (by simp; omega)]
    · cases h
theorem subV_sound {x i : SV} {u v : Value} {value slice : Expr} (ok : FxOK X) (r : Rep X W st s.heap) (hx : VR W x u) (hi : VR W i v) (hs : ∀ o i, subscripted slice false o i = operate [o, i] (getItem o i))
    (h : (subV x i st).Holds (Post X W s Q) (PostX X W s E)) : wpAny (model PW X.w) A (subscriptTail value slice u v) Q E s := by
  unfold subV at h
  split at h
  · next k =>
    simp only [VR] at hi
    obtain ⟨t, rfl⟩ := hi
    split at h
    · next l e =>
      obtain ⟨a, o, items, rfl, g, z, y⟩ := seq_at r hx e
      have z1 := z.length
      split at h
      case h_2 => exact h.elim
      next big =>
      have big := Nat.le_of_ble_eq_true big
      split at h
      · next j e1 =>
        split at h
        · next y' e2 =>
          obtain ⟨w, hw, vw⟩ := z.get e2
          obtain ⟨e3, e4, e5, e6⟩ := idx_seq e1
          rcases y with y | y
          · rcases Int.lt_or_le k 0 with neg | pos
            · refine tail_any (y.is g).typeIs PySem.slot_list_getitem.lookup (wpAny_getItem_list_neg (y.is g) neg ?_ (by omega) ?_ (Post.same h r vw)) (hs _ _)
              · rw [← Array.length_toList, z1]; exact e5
              · rw [← Array.getElem?_toList, ← Array.length_toList, z1]
                have : (k + ↑l.length).toNat = j := by
                  unfold idx at e1
                  rw [show (decide (0 ≤ k) && decide (k < (l.length : Int))) = false by simp; omega, show (decide (k < 0) && decide (-(l.length : Int) ≤ k)) = true by simp; omega] at e1
                  cases e1; rfl
                rw [this]; exact hw
            · refine tail_any (y.is g).typeIs PySem.slot_list_getitem.lookup (wpAny_getItem_list (y.is g) pos (by omega) ?_ (Post.same h r vw)) (hs _ _)
              rw [← Array.getElem?_toList]
              have : k.toNat = j := by
                unfold idx at e1
                rw [show (decide (0 ≤ k) && decide (k < (l.length : Int))) = true by simp; omega] at e1
                cases e1; rfl
              rw [this]; exact hw
          · exact item_tupleT (l := items.toList) (by simpa using y.is g) (by omega) (by omega) (by rw [z1]; exact e3) hw (Post.same h r vw) (hs _ _)
        · exact h.elim
      · exact h.elim
    · exact h.elim
  · exact h.elim
end
noncomputable def MK.is (k : MK) (a : Nat → Prop) (b : Prop) : Prop := match k with
  | .fn f => a f
  | .pop _ => b
section
variable {n : Nat} {X : Fx} {W : Wd} {st : St} {A : Around} {E : Value → Shared → Prop} {s : Shared} {Q : Value → Shared → Prop} {C : Cx}
set_option tactic.hygienic false in
theorem methAddr_cs {m : Str} {f : Nat} (q : methAddr m = some f) {M : Nat → Str → Prop} (h0 : M 231 (Str.ofString "made")) (h1 : M 203 (Str.ofString "one")) (h2 : M 210 (Str.ofString "zero")) (h3 : M 162 (Str.ofString "inv")) (h4 : M 157 (Str.ofString "optimized_poly_rounded_div")) : M f m := by
  unfold methAddr at q
  cases q0 : sq m (Str.ofString "made") with
  | true =>
    rw [q0] at q
    obtain rfl := sq_iff.mp q0
    obtain rfl := Option.some.inj q
    exact h0
  | false =>
  rw [q0] at q
  cases q1 : sq m (Str.ofString "one") with
  | true =>
    rw [q1] at q
    obtain rfl := sq_iff.mp q1
    obtain rfl := Option.some.inj q
    exact h1
  | false =>
  rw [q1] at q
  cases q2 : sq m (Str.ofString "zero") with
  | true =>
    rw [q2] at q
    obtain rfl := sq_iff.mp q2
    obtain rfl := Option.some.inj q
    exact h2
  | false =>
  rw [q2] at q
  rcases q3 : sq m (Str.ofString "inv") with _ | _
  rotate_left
  ·
    rw [q3] at q
    obtain rfl := sq_iff.mp q3
    obtain rfl := Option.some.inj q
    exact h3
  rw [q3] at q
  rcases q4 : sq m (Str.ofString "optimized_poly_rounded_div") with _ | _
  rotate_left
  ·
    rw [q4] at q
    obtain rfl := sq_iff.mp q4
    obtain rfl := Option.some.inj q
    exact h4
  rw [q4] at q
  exact none_neQ q
theorem methK_cs {x : SV} {m : Str} {k : MK} (e : methK x m = some k) : (∃ p a b f, x = .el p a b ∧ methAddr m = some f ∧ k = .fn f) ∨ ∃ i, x = .ml i ∧ sq m (Str.ofString "pop") = true ∧ k = .pop i := by
  cases x <;> (try exact none_neQ e)
  case el p a b =>
    dsimp only [methK] at e
    rcases q : methAddr m with _ | f
    · rw [q] at e; exact none_neQ e
    ·
      rw [q] at e
      exact .inl ⟨p, a, b, f, rfl, rfl, (Option.some.inj e).symm⟩
  case ml i =>
    dsimp only [methK] at e
    rcases q : sq m (Str.ofString "pop") with _ | _
    · rw [q] at e; exact none_neQ e
    ·
      rw [q] at e
      exact .inr ⟨i, rfl, rfl, (Option.some.inj e).symm⟩
set_option tactic.hygienic false in
theorem meth_get {x : SV} {m : Str} {k : MK} {u : Value} {pl : Sem Bool} {Q : Value × List Value → Shared → Prop} (ok : FxOK X) (r : Rep X W st s.heap) (hx : VR W x u) (e : methK x m = some k)
    (h : k.is (fun f => Q (.ref f, [u]) s) (Q (.builtin "list.pop", [u]) s)) : wpAny (model PW X.w) A (getMethod u m pl) Q E s := by
  rcases methK_cs e with ⟨p, a, b, f, rfl, q, rfl⟩ | ⟨i, rfl, q, rfl⟩
  · simp only [VR] at hx
    obtain ⟨a, rfl, el⟩ := hx
    obtain ⟨ox, es, k, lm, tc, tm, I, D⟩ := elInst r el
    obtain ⟨h₀, mm, F, K₀⟩ := r.fr ok
    refine methAddr_cs q (M := fun f m => Q (.ref f, [.ref a]) s → wpAny (model PW X.w) A (getMethod (.ref a) m pl) Q E s) ?_ ?_ ?_ ?_ ?_ h <;>
      exact fun h => method_inst F K₀ I (by kernel_rfl) (by kernel_rfl) (by kernel_rfl) (D.no _ (by simp [nmMeths])) h
  · obtain rfl := sq_iff.mp q
    simp only [VR] at hx
    obtain ⟨a, rfl, ha⟩ := hx
    have hlt : i < st.mls.length := r.l.len ▸ (List.getElem?_eq_some_iff.mp ha).1
    obtain ⟨c, hc, d⟩ := r.l.at_ i (st.mls[i]).1 (st.mls[i]).2 (List.getElem?_eq_getElem hlt)
    rw [ha] at hc
    cases hc
    obtain ⟨o, items, g, ⟨k, rfl⟩, _⟩ := d.at_
    exact getMethod_builtin ⟨_, g, rfl⟩ PySem.F.plainAttrs_list PySem.F.slot_list_pop (by kernel_rfl) (fun b e => by cases e; exact ⟨_, g, rfl⟩) h
set_option tactic.hygienic false in
theorem VRs.dropLast {W : Wd} : ∀ {l : List SV} {us : List Value}, VRs W l us → VRs W l.dropLast us.dropLast
  | [], _, h => by simp only [VRs] at h; subst h; simp [VRs]
  | [x], us, h => by
    simp only [VRs] at h
    obtain ⟨v, r, rfl, _, rfl⟩ := h
    simp [VRs]
  | x :: y :: l, us, h => by
    simp only [VRs] at h
    obtain ⟨v, r, rfl, h1, v2, r2, rfl, h2, h3⟩ := h
    rw [List.dropLast_cons₂, List.dropLast_cons₂]
    exact .cons h1 (VRs.dropLast (.cons h2 h3))
theorem methV_sound {x : SV} {k : MK} {m : Str} {args : List SV} {u : Value} {us : List Value} (hF : FOK n C.F) (ok : FxOK X) (hA : OKA n A) (r : Rep X W st s.heap) (hx : VR W x u) (hv : VRs W args us) (e : methK x m = some k) (h : (methV C k x args st).Holds (Post X W s Q) (PostX X W s E)) :
    k.is (fun f => wpAny (model PW X.w) A (call (.ref f) (u :: us)) Q E s) (wpAny (model PW X.w) A (call (.builtin "list.pop") (u :: us)) Q E s) := by
  unfold methV at h
  split at h
  · exact callV_sound hF ok hA r (by simp only [VR]) (.cons hx hv) h
  · next i =>
    split at h
    · simp only [VRs] at hv
      subst hv
      split at h
      · next l q =>
        split at h
        · next sz =>
          split at h
          · next v q2 =>
            have xi : x = .ml i := by
              rcases methK_cs e with ⟨_, _, _, _, _, _, hk⟩ | ⟨_, xi, _, hk⟩
              · exact nomatch hk
              · rw [xi, MK.pop.inj hk]
            subst xi
            simp only [VR] at hx
            obtain ⟨a, rfl, ha⟩ := hx
            obtain ⟨a', ha', d⟩ := r.l.at_ _ _ _ q
            rw [ha] at ha'
            cases ha'
            obtain ⟨o, items, g, ⟨k, rfl⟩, z, _⟩ := d.at_
            have z1 := z.length
            have sz := Nat.le_of_ble_eq_true sz
            have q3 : l[l.length - 1]? = some v := by rw [← List.getLast?_eq_getElem?]; exact q2
            obtain ⟨w, hw, vw⟩ := z.get q3
            have hsz : items.size = l.length := by rw [← Array.length_toList, z1]
            refine call_meets PySem.F.slot_list_pop ⟨_, g, rfl⟩ PySem.F.entry_list_pop (PySem.F.args_list_pop_1 _) (PySem.MeetsSeq.list_pop_last a items k w (by rw [hsz, ← Array.getElem?_toList]; exact hw) (by rw [sizeLine_eq]; omega)) ⟨g, ?_⟩
            have up := PySem.IsL.update (n := k) g (fun xs => xs.eraseIdxIfInBounds (items.size - 1))
            have pos : 0 < items.size := by
              rw [hsz]
              have := (List.getElem?_eq_some_iff.mp q3).1
              omega
            have er : (items.eraseIdxIfInBounds (items.size - 1)).toList = items.toList.dropLast := by
              unfold Array.eraseIdxIfInBounds
              rw [dif_pos (by omega), Array.toList_eraseIdx, ← Array.length_toList]
              have key : ∀ l : List Value, 0 < l.length → l.eraseIdx (l.length - 1) = l.dropLast := by
                intro l hl
                rw [List.eraseIdx_eq_take_drop_succ, List.dropLast_eq_take, show l.length - 1 + 1 = l.length by omega, List.drop_length, List.append_nil]
              exact key _ (by rw [Array.length_toList]; exact pos)
            exact h _ _ _ (.refl W) (r.setL (l' := l.dropLast) ok q ha ⟨_, up, _, rfl⟩ (Heap.SameBut.update ..) (by rw [er]; exact z.dropLast)) (.heap s _ s.toks) vw
          · exact h.elim
        · exact h.elim
      · exact h.elim
    · exact h.elim
end
/-- the globals that a run reads -/
noncomputable def GloOK (C : Cx) : Prop := ∀ x v, lk x C.glo = some v → ∀ P : Params, ∃ u, (nsIn (kmk.heap_1 P) mainGlobals x = some (some u) ∨ (nsIn (kmk.heap_1 P) mainGlobals x = some none ∧ bootBuiltins x = some u ∧ x ≠ "__name__")) ∧
  ∀ W : Wd, (∀ a o, (kmk.heap_1 P).lookup a = some o → W.H a o) → VR W v u
structure CxOK (n : Nat) (C : Cx) (X : Fx) : Prop where
  F : FOK n C.F
  glo : GloOK C
  names : ∀ x k, lk x C.names = some k → X.env.kindOf x = some k
noncomputable def PostL (X : Fx) (W : Wd) (s : Shared) (Q : List Value → Shared → Prop) (r : List SV × St) : Prop :=
  ∀ s' W' us, W.le W' → Rep X W' r.2 s'.heap → Sh s s' → VRs W' r.1 us → Q us s'
set_option tactic.hygienic false in
theorem PostL.step {X : Fx} {W W' : Wd} {s s' : Shared} {Q : List Value → Shared → Prop} {r : List SV × St} (p : PostL X W s Q r) (le : W.le W') (sh : Sh s s') : PostL X W' s' Q r :=
  fun s'' W'' u l r h v => p s'' W'' u (le.trans l) r (sh.trans h) v
noncomputable def SE (X : Fx) (A : Around) (f : Expr → St → TS SV) : Prop := ∀ x st W s Q E, Rep X W st s.heap → (f x st).Holds (Post X W s Q) (PostX X W s E) → wpAny (model PW X.w) A (eval x X.env) Q E s
noncomputable def STt (X : Fx) (A : Around) (f : Expr → St → TS SV) : Prop := ∀ x st W s Q E, Rep X W st s.heap → (f x st).Holds (PostT X W s Q) (PostX X W s E) → wpAny (model PW X.w) A (PySem.isTrue x X.env (eval x X.env)) Q E s
section
variable {n : Nat} {X : Fx} {W : Wd} {st : St} {A : Around} {E : Value → Shared → Prop} {s : Shared} {C : Cx} {r : Ev}
/-- the step from one part to the next -/
theorem se_bind {f : Expr → St → TS SV} {x : Expr} {β : Type} {g : SV × St → TS β} {K : β × St → Prop} {KX : St → Prop} {Q : Value → Shared → Prop} (hf : SE X A f) (rp : Rep X W st s.heap) (h : ((f x st).bind g).Holds K KX) (hE : ∀ st, KX st → PostX X W s E st)
    (k : ∀ a s' W' u, (g a).Holds K KX → W.le W' → Rep X W' a.2 s'.heap → Sh s s' → VR W' a.1 u → Q u s') : wpAny (model PW X.w) A (eval x X.env) Q E s :=
  hf x st W s Q E rp ((T.holds_bind h).mono (fun a ha s' W' u le r' sh hv => k a s' W' u ha le r' sh hv) hE)
theorem evL_sound {pos : Pos} (he : SE X A r.e) : ∀ (es : List Expr) (st : St) (W : Wd) (s : Shared) (Q : List Value → Shared → Prop) (E : Value → Shared → Prop), Rep X W st s.heap → (evL r es st).Holds (PostL X W s Q) (PostX X W s E) →
    wpAny (model PW X.w) A (spliced (backTo pos (starEach es X.env))) Q E s
  | [], st, W, s, Q, E, rp, h => PyProof.Rows.spliced_none (h s W [] (.refl W) rp (.refl s) (by simp only [VRs]))
  | x :: rest, st, W, s, Q, E, rp, h => by
    have key : (∀ y p, x ≠ .Starred y p) → starEach (x :: rest) X.env = (false, eval x X.env) :: starEach rest X.env := by
      intro hn
      cases x <;> first | rfl | exact absurd rfl (hn _ _)
    by_cases hs : ∃ y p, x = .Starred y p
    · obtain ⟨y, p, rfl⟩ := hs
      exact h.elim
    · have hn : ∀ y p, x ≠ .Starred y p := fun y p e => hs ⟨y, p, e⟩
      have h' : ((r.e x st).bind fun a => (evL r rest a.2).bind fun b => .ret (a.1 :: b.1, b.2)).Holds (PostL X W s Q) (PostX X W s E) := by
        revert h
        cases x <;> first | exact id | exact fun _ => absurd rfl (hn _ _)
      refine PyProof.Rows.spliced_more (se_bind he rp h' (fun _ z => z) fun a s' W' u ha le rp' sh hv => ?_) (key hn)
      refine evL_sound he rest a.2 W' s' _ E rp' ((T.holds_bind ha).mono (fun b hb s'' W'' us le' rp'' sh' hus => ?_) fun _ z => z.step le sh)
      exact hb s'' W'' (u :: us) (le.trans le') rp'' (sh.trans sh') (.cons (hv.mono le') hus)
theorem nameV_sound {x : Str} {pos : Pos} {Q : Value → Shared → Prop} (ok : FxOK X) (co : CxOK n C X) (rp : Rep X W st s.heap) (h : (nameV C x st).Holds (Post X W s Q) (PostX X W s E)) : wpAny (model PW X.w) A (eval (.Name x pos) X.env) Q E s := by
  unfold nameV at h
  split at h
  · exact h.elim
  · next hd =>
    have hd : (x == Str.ofString "__debug__") = false := by
      rw [Bool.eq_false_iff]
      intro w
      rw [sq_iff.mpr (beq_iff_eq.mp w)] at hd
      cases hd
    split at h
    · next q =>
      split at h
      · next v e =>
        obtain ⟨m, hm, hv⟩ := rp.n.ns
        obtain ⟨u, e1, e2⟩ := hv x v e
        exact wpAny_Name (wpAny_loadName_local ok.kind (co.names x _ q) hm e1 (Post.same h rp e2)) hd
      · exact h.elim
    · next q =>
      split at h
      · next v e =>
        obtain ⟨c, u, e1, e2, e3⟩ := rp.c.val x v e
        exact wpAny_Name (wpAny_loadName_cell ok.kind (co.names x _ q) e1 e2 (Post.same h rp e3)) hd
      · exact h.elim
    · next q =>
      split at h
      · next v e =>
        obtain ⟨u, e1, e2⟩ := co.glo x v e X.w.params
        have T := rp.z.top ok
        have K := rp.z.kx ok
        have vr := e2 W rp.z.kh
        rcases e1 with e1 | ⟨e1, e3, e4⟩
        · exact Name_function_global ok.kind (co.names x _ q) (loadGlobal_global (env := X.env) (by rw [ok.glob]; exact T.g) (mg_of K T.g e1) (Post.same h rp vr)) hd
        · exact Name_function_global ok.kind (co.names x _ q) (loadGlobal_builtin (env := X.env) (by rw [ok.glob]; exact T.g) (mg_none_of K T.g e1) (by rw [ok.blt]; exact T.b) ((T.builtins x e4).trans e3) (Post.same h rp vr)) hd
      · exact h.elim
    · exact h.elim
end
section
variable {n : Nat} {X : Fx} {A : Around} {C : Cx} {r : Ev}
set_option tactic.hygienic false in
theorem new_tup {W : Wd} {st : St} {s : Shared} {Q : Value → Shared → Prop} {us : List Value} {l : List SV} (ok : FxOK X) (rp : Rep X W st s.heap) (hv : VRs W l us) (h : Post X W s Q (.tup l, st)) :
    Q (.ref s.heap.objs.size) { s with heap := s.heap.push { cls := .type "tuple", data := .seq us.toArray } } :=
  post_tup (tk := s.toks) ok rp (rp.grow fun b o e => Heap.get?_push_of_some _ e) (fresh_none (Nat.le_refl _)) (Heap.get?_push_size _ rfl) ⟨rfl, rfl, _, rfl⟩ (by simpa using hv) h
set_option tactic.hygienic false in
theorem new_lst {W : Wd} {st : St} {s : Shared} {Q : Value → Shared → Prop} {us : List Value} {l : List SV} (rp : Rep X W st s.heap) (hv : VRs W l us) (h : Post X W s Q (newL st l)) :
    Q (.ref s.heap.objs.size) { s with heap := s.heap.push { cls := .type "list", data := .seq us.toArray } } :=
  post_lst (tk := s.toks) rp (rp.grow fun b o e => Heap.get?_push_of_some _ e) (fresh_none (Nat.le_refl _)) (Heap.get?_push_size _ rfl) ⟨_, rfl⟩ (by simpa using hv) h
set_option tactic.hygienic false in
theorem evL_len (r : Ev) : ∀ (es : List Expr) (st : St) {K : List SV × St → Prop} {KX : St → Prop}, (evL r es st).Holds K KX → (evL r es st).Holds (fun a => K a ∧ a.1.length = es.length) KX
  | [], st, K, KX, h => ⟨h, rfl⟩
  | x :: rest, st, K, KX, h => by
    by_cases hs : ∃ y p, x = .Starred y p
    · obtain ⟨y, p, rfl⟩ := hs
      exact h.elim
    · have hn : ∀ y p, x ≠ .Starred y p := fun y p e => hs ⟨y, p, e⟩
      have e : evL r (x :: rest) st = (r.e x st).bind fun a => (evL r rest a.2).bind fun b => .ret (a.1 :: b.1, b.2) := by
        cases x <;> first | rfl | exact absurd rfl (hn _ _)
      rw [e] at h ⊢
      have step : ∀ {α β : Type} {t : T St α} {f : α → T St β} {K : β → Prop} {KX : St → Prop}, t.Holds (fun a => (f a).Holds K KX) KX → (t.bind f).Holds K KX := by
        intro α β t f K KX
        induction t with
        | ret a => exact fun h => h
        | dec b t e i1 i2 => exact fun h => ⟨fun q => i1 (h.1 q), fun q => i2 (h.2 q)⟩
        | need b t i => exact fun h => ⟨h.1, i h.2⟩
        | exc x => exact fun h => h
        | stuck => exact fun h => h
      refine step ((T.holds_bind h).mono (fun a ha => ?_) fun _ z => z)
      refine step ((evL_len r rest a.2 (T.holds_bind ha)).mono (fun b hb => ?_) fun _ z => z)
      exact ⟨hb.1, by show (a.1 :: b.1).length = (x :: rest).length; rw [List.length_cons, List.length_cons, hb.2]⟩

set_option tactic.hygienic false in
theorem noStar_each : ∀ {es : List Expr} {env : Env}, noStar es = true → starEach es env = es.map fun e => (false, eval e env)
  | [], _, _ => rfl
  | x :: rest, env, h => by
    have h' : noStar rest = true ∧ starEach (x :: rest) env = (false, eval x env) :: starEach rest env := by
      cases x <;> first | exact ⟨h, rfl⟩ | cases h
    rw [h'.2, noStar_each h'.1]
    rfl
set_option tactic.hygienic false in
theorem noStar_cons {x : Expr} {rest : List Expr} {env : Env} {pos : Pos} (h : noStar (x :: rest) = true) : starEach (x :: rest) env = (false, eval x env) :: starEach rest env ∧ (backTo pos (starEach rest env)).any (·.1) = false := by
  have h' : noStar rest = true ∧ starEach (x :: rest) env = (false, eval x env) :: starEach rest env := by
    cases x <;> first | exact ⟨h, rfl⟩ | cases h
  refine ⟨h'.2, ?_⟩
  rw [noStar_each h'.1]
  unfold backTo
  rw [List.any_map, List.any_map]
  rw [List.any_eq_false]
  intro y _
  simp
set_option tactic.hygienic false in
theorem fns_keep (P : Params) : (fns.all fun a => keepIn (kmk.heap_1 P) (.ref a)) = true := by kernel_rfl
set_option tactic.hygienic false in
theorem fn_keep {P : Params} {a : Nat} (h : okFn (.fn a) = true) : keepIn (kmk.heap_1 P) (.ref a) = true := by
  simp only [okFn, List.any_eq_true] at h
  obtain ⟨b, hb, e⟩ := h
  have := Nat.eq_of_beq_eq_true e
  subst this
  exact List.all_eq_true.mp (fns_keep P) _ hb
/-- a call by a name -/
theorem call_sound {W : Wd} {st : St} {s : Shared} {Q E : Value → Shared → Prop} {pos : Pos} {f : SV} {u : Value} {args : List Expr} (ok : FxOK X) (co : CxOK n C X) (hA : OKA n A) (he : SE X A r.e) (rp : Rep X W st s.heap) (hf : VR W f u) (kf : okFn f = true) (ns : noStar args = true) (hb : ∀ b, f = .bi b → args ≠ [])
    (h : ((evL r args st).bind fun b => callV C f b.1 b.2).Holds (Post X W s Q) (PostX X W s E)) : wpAny (model PW X.w) A (callWith pos u [] (backTo pos (starEach args X.env)) []) Q E s := by
  have tail : ∀ (b : List SV × St) (s' : Shared) (W' : Wd) (us : List Value), (callV C f b.1 b.2).Holds (Post X W s Q) (PostX X W s E) → W.le W' → Rep X W' b.2 s'.heap → Sh s s' → VRs W' b.1 us → wpAny (model PW X.w) A (call u us) Q E s' :=
    fun b s' W' us hb le rp' sh hus => callV_sound co.F ok hA rp' (hf.mono le) hus (hb.mono (fun _ z => z.step le sh) (fun _ z => z.step le sh))
  cases f <;> first | (simp only [okFn] at kf; cases kf; done) | skip
  · simp only [VR] at hf
    subst hf
    have kk := fn_keep (P := X.w.params) kf
    rcases args with _ | ⟨x, rest⟩
    · exact callWith_K0 (rp.z.kx ok) kk (tail ([], st) s W [] (T.holds_bind h) (.refl W) rp (.refl s) (by simp only [VRs]))
    ·
      obtain ⟨e1, e2⟩ := noStar_cons (env := X.env) (pos := pos) ns
      refine callWith_K (rp.z.kx ok) kk ?_ e1 e2
      refine evL_sound he (x :: rest) st W s _ E rp ((T.holds_bind h).mono (fun b hb s' W' us le rp' sh hus => ⟨rp'.z.kx ok, ?_⟩) fun _ z => z)
      exact tail b s' W' us hb le rp' sh hus
  · next b =>
    simp only [VR] at hf
    subst hf
    rcases args with _ | ⟨x, rest⟩
    · exact absurd rfl (hb b rfl)
    ·
      obtain ⟨e1, e2⟩ := noStar_cons (env := X.env) (pos := pos) ns
      have main : wpAny (model PW X.w) A (spliced (backTo pos (starEach (x :: rest) X.env))) (fun vs s₁ => wpAny (model PW X.w) A (call b.val vs) Q E s₁) E s :=
        evL_sound he (x :: rest) st W s _ E rp ((T.holds_bind h).mono (fun b hb s' W' us le rp' sh hus => tail b s' W' us hb le rp' sh hus) fun _ z => z)
      cases b with
      | len => exact PyProof.Rows.callWith_builtin1 (id := "len") main e1 e2
      | int => exact PyProof.Rows.callWith_type1 (T := "int") main e1 e2
      | bool => exact PyProof.Rows.callWith_type1 (T := "bool") main e1 e2
      | isinstance => exact PyProof.Rows.callWith_builtin1 (id := "isinstance") main e1 e2
      | tuple => exact PyProof.Rows.callWith_type1 (T := "tuple") main e1 e2
      | list => exact PyProof.Rows.callWith_type1 (T := "list") main e1 e2
      | range => exact PyProof.Rows.callWith_type1 (T := "range") main e1 e2
      | pow => exact PyProof.Rows.callWith_builtin1 (id := "pow") main e1 e2
      | enumerate => exact PyProof.Rows.callWith_type1 (T := "enumerate") main e1 e2
      | zip => exact PyProof.Rows.callWith_type1 (T := "zip") main e1 e2
set_option tactic.hygienic false in
/-- a method's call -/
theorem mcall_sound {W : Wd} {st : St} {s : Shared} {Q E : Value → Shared → Prop} {pos : Pos} {x : SV} {k : MK} {m : Str} {u : Value} {args : List Expr} {pl : Sem Bool} (ok : FxOK X) (co : CxOK n C X) (hA : OKA n A) (he : SE X A r.e) (rp : Rep X W st s.heap) (hx : VR W x u) (ns : noStar args = true)
    (ek : methK x m = some k) (h : ((evL r args st).bind fun b => methV C k x b.1 b.2).Holds (Post X W s Q) (PostX X W s E)) :
    wpAny (model PW X.w) A (getMethod u m pl) (fun fx s₂ => wpAny (model PW X.w) A (callWith pos fx.1 fx.2 (backTo pos (starEach args X.env)) []) Q E s₂) E s := by
  refine meth_get ok rp hx ek ?_
  have tail : ∀ (b : List SV × St) (s' : Shared) (W' : Wd) (us : List Value), (methV C k x b.1 b.2).Holds (Post X W s Q) (PostX X W s E) → W.le W' → Rep X W' b.2 s'.heap → Sh s s' → VRs W' b.1 us →
      k.is (fun f => wpAny (model PW X.w) A (call (.ref f) (u :: us)) Q E s') (wpAny (model PW X.w) A (call (.builtin "list.pop") (u :: us)) Q E s') :=
    fun b s' W' us hb le rp' sh hus => methV_sound co.F ok hA rp' (hx.mono le) hus ek (hb.mono (fun _ z => z.step le sh) (fun _ z => z.step le sh))
  cases k with
  | fn f =>
    have kf : okFn (.fn f) = true := by
      rcases methK_cs ek with ⟨_, _, _, _, _, q, hk⟩ | ⟨_, _, _, hk⟩
      · obtain rfl := MK.fn.inj hk
        exact methAddr_cs q (M := fun f _ => okFn (.fn f) = true) rfl rfl rfl rfl rfl
      · exact nomatch hk
    have kk := fn_keep (P := X.w.params) kf
    show wpAny _ _ (callWith pos (.ref f) [u] _ []) _ _ _
    rcases args with _ | ⟨y, rest⟩
    · exact callWith_K0 (rp.z.kx ok) kk (tail ([], st) s W [] (T.holds_bind h) (.refl W) rp (.refl s) (by simp only [VRs]))
    ·
      obtain ⟨e1, e2⟩ := noStar_cons (env := X.env) (pos := pos) ns
      refine callWith_K (rp.z.kx ok) kk ?_ e1 e2
      refine evL_sound he (y :: rest) st W s _ E rp ((T.holds_bind h).mono (fun b hb s' W' us le rp' sh hus => ⟨rp'.z.kx ok, ?_⟩) fun _ z => z)
      exact tail b s' W' us hb le rp' sh hus
  | pop i =>
    show wpAny _ _ (callWith pos (.builtin "list.pop") [u] _ []) _ _ _
    rcases args with _ | ⟨y, rest⟩
    · exact callWith_method0 (tail ([], st) s W [] (T.holds_bind h) (.refl W) rp (.refl s) (by simp only [VRs]))
    ·
      obtain ⟨e1, e2⟩ := noStar_cons (env := X.env) (pos := pos) ns
      refine callWith_method1 ?_ e1 e2
      exact evL_sound he (y :: rest) st W s _ E rp ((T.holds_bind h).mono (fun b hb s' W' us le rp' sh hus => tail b s' W' us hb le rp' sh hus) fun _ z => z)
end
section
variable {n : Nat} {X : Fx} {A : Around} {C : Cx} {r : Ev}
set_option tactic.hygienic false in
theorem isB_truth {v c : SV} (e : truth v = some c) : ∃ b, isB c b := by
  cases v <;> (try exact none_neQ e) <;> obtain rfl := Option.some.inj e
  all_goals first | exact ⟨_, .inl rfl⟩ | exact ⟨_, .inr rfl⟩
set_option tactic.hygienic false in
theorem sub_plain {i : Expr} (h : ∀ a b c d, i ≠ .Slice a b c d) (o v : Value) : subscripted i false o v = operate [o, v] (getItem o v) := by
  cases i <;> first | rfl | exact absurd rfl (h _ _ _ _)
set_option tactic.hygienic false in
theorem bdd_neg {n : Int} {b : Option Nat} (h : bdd n b) : bdd (-n) b := by
  rcases b with _ | b
  · trivial
  · simp only [bdd] at h ⊢; rwa [Int.natAbs_neg]
set_option tactic.hygienic false in
theorem mcall_form {W : Wd} {s : Shared} {Q E : Value → Shared → Prop} {o : Expr} {m : Str} {ap pos : Pos} {args : List Expr} (hn : ∀ a b c d, o ≠ .Call a b c d) (ns : noStar args = true) (len : args.length < 29) (hl : ap.endLine = pos.line)
    (h : wpAny (model PW X.w) A (eval o X.env) (fun ov s₁ => ∀ pl, wpAny (model PW X.w) A (getMethod ov m pl) (fun fx s₂ => wpAny (model PW X.w) A (callWith pos fx.1 fx.2 (backTo pos (starEach args X.env)) []) Q E s₂) E s₁) E s) :
    wpAny (model PW X.w) A (eval (.Call (.Attribute o m ap) args [] pos) X.env) Q E s := by
  have e1 : attributeBase o m X.env (eval o X.env) = eval o X.env := by
    cases o <;> first | rfl | exact absurd rfl (hn _ _ _ _)
  show wpAny _ _ (attributeBase o m X.env (eval o X.env) >>= fun ov => standAt ap.atName >>= fun _ => methodCall o m ap pos X.env ov (args.length + 0) (backTo pos (starEach args X.env)) (backToKw pos (keywordEach [] X.env))) _ _ _
  rw [e1]
  refine wpAny_bind (wpAny_mono h (fun ov s₁ h₁ => wpAny_bind (wpAny_standAt ?_)) fun _ _ z => z)
  have form : methodCallForm (args.length + 0) (backTo pos (starEach args X.env)) (backToKw pos (keywordEach [] X.env)) = true := by
    unfold methodCallForm
    rw [noStar_each ns]
    unfold backTo
    rw [List.all_map, List.all_map]
    simp only [Bool.and_eq_true, decide_eq_true_eq]
    refine ⟨⟨?_, rfl⟩, ?_⟩
    · rw [List.all_eq_true]; intro y _; rfl
    · show args.length + 0 + 0 < 30
      omega
  unfold methodCall
  rw [form]
  refine wpAny_bind (wpAny_holding ?_)
  show wpAny _ _ (getMethod ov m _) _ _ _
  refine wpAny_mono (h₁ _) (fun fx s₂ h₂ => ?_) fun _ _ z => z
  show wpAny _ _ (methodCallPos true o X.env ap pos >>= fun cp => callWith cp fx.1 fx.2 _ _) _ _ _
  have e2 : methodCallPos true o X.env ap pos = pure pos := by
    unfold methodCallPos
    rw [hl, beq_self_eq_true]
    rfl
  rw [e2]
  exact wpAny_bind (wpAny_pure h₂)
set_option tactic.hygienic false in
theorem negV_cs {x c : SV} (h : negV x = some c) : (∃ n, x = .num n ∧ c = .num (-n)) ∨ ∃ n b, x = .int n b ∧ c = .int (-n) b := by
  cases x <;> (try exact none_neQ h)
  · exact .inl ⟨_, rfl, (Option.some.inj h).symm⟩
  · exact .inr ⟨_, _, rfl, (Option.some.inj h).symm⟩
theorem evE_cs {C : Cx} {r : Ev} {st : St} {M : Expr → Prop} (hd : ∀ x, evE C r x st = .stuck → M x) (c1 : ∀ c a b, M (.Constant c a b)) (c2 : ∀ x p, M (.Name x p)) (c3 : ∀ l op y p, M (.BinOp l op y p)) (c4 : ∀ y p, M (.UnaryOp .Not y p)) (c5 : ∀ y p, M (.UnaryOp .USub y p))
    (c6 : ∀ y z p, M (.BoolOp .And [y, z] p)) (c7 : ∀ y z p, M (.BoolOp .Or [y, z] p)) (c8 : ∀ t y z p, M (.IfExp t y z p)) (c9 : ∀ l op y p, M (.Compare l [op] [y] p)) (c10 : ∀ o m ap args pos, M (.Call (.Attribute o m ap) args [] pos)) (c11 : ∀ f fp args pos, M (.Call (.Name f fp) args [] pos))
    (c12 : ∀ o m p, M (.Attribute o m p)) (c13 : ∀ o i p, M (.Subscript o i p)) (c14 : ∀ es p, M (.List es p)) (c15 : ∀ es k p, M (.Tuple es k p)) (x : Expr) : M x := by
  cases x <;> (try exact hd _ rfl)
  case Constant => exact c1 _ _ _
  case Name => exact c2 _ _
  case BinOp => exact c3 _ _ _ _
  case UnaryOp op y p =>
    cases op <;> (try exact hd _ rfl)
    case Not => exact c4 _ _
    case USub => exact c5 _ _
  case BoolOp op vs p =>
    cases op
    case And => rcases vs with _ | ⟨y, _ | ⟨z, _ | ⟨_, _⟩⟩⟩ <;> (try exact hd _ rfl); exact c6 _ _ _
    case Or => rcases vs with _ | ⟨y, _ | ⟨z, _ | ⟨_, _⟩⟩⟩ <;> (try exact hd _ rfl); exact c7 _ _ _
  case IfExp => exact c8 _ _ _ _
  case Compare l ops ys p =>
    rcases ops with _ | ⟨op, _ | ⟨_, _⟩⟩ <;> (try exact hd _ rfl)
    rcases ys with _ | ⟨y, _ | ⟨_, _⟩⟩ <;> (try exact hd _ rfl)
    exact c9 _ _ _ _
  case Call f args kws pos =>
    cases f <;> (try exact hd _ rfl)
    case Name =>
      rcases kws with _ | ⟨_, _⟩
      · exact c11 _ _ _ _
      · exact hd _ rfl
    case Attribute =>
      rcases kws with _ | ⟨_, _⟩
      · exact c10 _ _ _ _ _
      · exact hd _ rfl
  case Attribute => exact c12 _ _ _
  case Subscript => exact c13 _ _ _
  case List => exact c14 _ _
  case Tuple => exact c15 _ _ _
theorem evE_sound (ok : FxOK X) (co : CxOK n C X) (hA : OKA n A) (he : SE X A r.e) (ht : STt X A r.t) : SE X A (evE C r) := by
  intro x st W s Q E rp
  refine evE_cs (C := C) (r := r) (st := st) (M := fun x => (evE C r x st).Holds (Post X W s Q) (PostX X W s E) → wpAny (model PW X.w) A (eval x X.env) Q E s) (fun x e h => by rw [e] at h; exact h.elim) ?_ ?_ ?_ ?_ ?_ ?_ ?_ ?_ ?_ ?_ ?_ ?_ ?_ ?_ ?_ x
  · intro c _ _ h
    dsimp only [evE] at h
    split at h
    · next v e =>
      cases c <;> (try exact none_neQ e) <;> obtain rfl := Option.some.inj e
      · exact wpAny_Constant_none (Post.same h rp (by simp only [VR]))
      · exact wpAny_Constant_bool (Post.same h rp (by simp only [VR]))
      · exact wpAny_Constant_int (post_tok rp h (by simp only [VR]; exact ⟨_, rfl⟩))
      · exact wpAny_Constant_str (post_tok rp h (by simp only [VR]; exact ⟨_, rfl⟩))
    · exact h.elim
  · intro x p h
    exact nameV_sound ok co rp h
  · intro l op y _ h
    rw [eval_BinOp]
    refine wpAny_bind (se_bind he rp h (fun _ z => z) fun a s' W' u ha le rp' sh hv => ?_)
    refine wpAny_bind (wpAny_holding (se_bind he rp' ha (fun _ z => z.step le sh) fun b s'' W'' u' hb le' rp'' sh' hv' => ?_))
    refine wpAny_bind (wpAny_standAt (wpAny_operateT ?_))
    exact bop_sound co.F ok hA rp'' (hv.mono le') hv' (hb.mono (fun _ z => z.step (le.trans le') (sh.trans sh')) (fun _ z => z.step (le.trans le') (sh.trans sh')))
  · intro y p h
    dsimp only [evE] at h
    refine wpAny_UnaryOp (se_bind he rp h (fun _ z => z) fun a s' W' u ha le rp' sh hv => ?_)
    split at ha
    · next b e =>
      split at ha
      · next c e2 =>
        refine not_of (truth_sound hv e fun b hb => ?_)
        exact ha s' W' (.bool !b) le rp' sh (VR_isB (isB_tN e2 hb))
      · exact ha.elim
    · exact ha.elim
  · intro y p h
    dsimp only [evE] at h
    refine wpAny_UnaryOp (se_bind he rp h (fun _ z => z) fun a s' W' u ha le rp' sh hv => ?_)
    have ha := T.Holds.mono (fun _ z => Post.step z le sh) (fun _ z => PostX.step z le sh) ha
    split at ha
    · next p x y e1 =>
      rw [e1] at hv ha
      have vs : VRs W' [.el p x y] [u] := .one hv
      have body := callF_sound co.F ok hA rp' vs (by simp only [toArgs, toArg, SV.pl]) ha
      simp only [VR] at hv
      obtain ⟨ad, rfl, el⟩ := hv
      obtain ⟨ox, es, k, lm, tc, tm, I, D⟩ := elInst rp' el
      obtain ⟨h₀, m, F, K₀⟩ := rp'.fr ok
      exact ksp_neg F K₀ I (f := 188) (by kernel_rfl) (by kernel_rfl) body
    · split at ha
      · next c e =>
        rcases negV_cs e with ⟨n, e1, rfl⟩ | ⟨n, b, e1, rfl⟩
        · rw [e1] at hv; simp only [VR] at hv; obtain ⟨t, rfl⟩ := hv; exact neg_int (post_tok rp' ha (by simp only [VR]; exact ⟨_, rfl⟩))
        · rw [e1] at hv; simp only [VR] at hv; obtain ⟨⟨t, rfl⟩, hb⟩ := hv
          refine neg_int (post_tok rp' ha ?_)
          simp only [VR]
          refine ⟨⟨_, rfl⟩, ?_⟩
          exact bdd_neg hb
      · exact ha.elim
  · intro y z p h
    dsimp only [evE] at h
    refine wpAny_And2 (se_bind he rp h (fun _ z => z) fun a s' W' u ha le rp' sh hv => ?_)
    have ha := T.Holds.mono (fun _ z => Post.step z le sh) (fun _ z => PostX.step z le sh) ha
    split at ha
    · next b e =>
      refine truth_sound hv e fun t ht => ?_
      have hh := holds_br ha ht
      rcases t with _ | _
      rotate_left
      · exact he _ _ _ _ _ _ rp' hh
      · exact Post.same hh rp' hv
    · exact ha.elim
  · intro y z p h
    dsimp only [evE] at h
    refine wpAny_Or2 (se_bind he rp h (fun _ z => z) fun a s' W' u ha le rp' sh hv => ?_)
    have ha := T.Holds.mono (fun _ z => Post.step z le sh) (fun _ z => PostX.step z le sh) ha
    split at ha
    · next b e =>
      refine truth_sound hv e fun t ht => ?_
      have hh := holds_br ha ht
      rcases t with _ | _
      rotate_left
      · exact Post.same hh rp' hv
      · exact he _ _ _ _ _ _ rp' hh
    · exact ha.elim
  · intro t y z p h
    dsimp only [evE] at h
    refine wpAny_IfExp (ht _ _ W s _ _ rp ((T.holds_bind h).mono (fun c hc s' W' b le rp' sh hb => ?_) fun _ z => z))
    have hh := holds_br hc hb
    rcases b with _ | _
    rotate_left
    · exact he _ _ _ _ _ _ rp' (hh.mono (fun _ z => z.step le sh) fun _ z => z.step le sh)
    · exact he _ _ _ _ _ _ rp' (hh.mono (fun _ z => z.step le sh) fun _ z => z.step le sh)
  · intro l op y p h
    dsimp only [evE] at h
    have key : isSetE y = false → behindInMarks op y = false := by
      intro hn
      cases y <;> first | rfl | exact Bool.noConfusion hn
    split at h
    · exact h.elim
    · next hn =>
      refine wpAny_Compare1 (se_bind he rp h (fun _ z => z) fun a s' W' u ha le rp' sh hv => ?_) (key hn)
      refine se_bind he rp' ha (fun _ z => z.step le sh) fun b s'' W'' u' hb le' rp'' sh' hv' => ?_
      exact cmpV_sound co.F ok hA rp'' (hv.mono le') hv' (hb.mono (fun _ z => z.step (le.trans le') (sh.trans sh')) (fun _ z => z.step (le.trans le') (sh.trans sh')))
  · intro o m ap args pos h
    dsimp only [evE] at h
    split at h
    · next q =>
      simp only [Bool.and_eq_true] at q
      obtain ⟨⟨q1, q2⟩, q3⟩ := q
      have q1 := Nat.eq_of_beq_eq_true q1
      have q2 := Nat.le_of_ble_eq_true q2
      split at h
      · exact h.elim
      · next hn =>
        refine mcall_form (W := W) (isCallE_ne hn) q3 (by omega) q1 (se_bind he rp h (fun _ z => z) fun a s' W' u ha le rp' sh hv pl => ?_)
        have ha := T.Holds.mono (fun _ z => Post.step z le sh) (fun _ z => PostX.step z le sh) ha
        split at ha
        · next k ek => exact mcall_sound ok co hA he rp' hv q3 ek ha
        · exact ha.elim
    · exact h.elim
  · intro f fp args pos h
    dsimp only [evE] at h
    split at h
    · exact h.elim
    · next ns =>
      refine wpAny_Call_NameR (nameV_sound ok co rp ((T.holds_bind h).mono (fun a ha s' W' u le rp' sh hv => ?_) fun _ z => z))
      have ha := T.Holds.mono (fun _ z => Post.step z le sh) (fun _ z => PostX.step z le sh) ha
      split at ha
      · exact ha.elim
      · next kf =>
        split at ha
        · exact ha.elim
        · rename_i hb _
          exact call_sound ok co hA he rp' hv kf ns (fun b e1 e2 => hb b e1 e2) ha
  · intro o m pos h
    dsimp only [evE] at h
    split at h
    · exact h.elim
    · next hn =>
      have e1 : attributeBase o m X.env (eval o X.env) = eval o X.env := by
        cases o <;> first | rfl | exact Bool.noConfusion hn
      refine Attribute_any_ (se_bind he rp h (fun _ z => z) fun a s' W' u ha le rp' sh hv => ?_) ?_
      · exact attrV_sound ok rp' hv (ha.mono (fun _ z => z.step le sh) fun _ z => z.step le sh)
      · show (attributeBase o m X.env (eval o X.env) >>= fun o' => _) = _
        rw [e1]
  · intro o i pos h
    dsimp only [evE] at h
    split at h
    · exact h.elim
    · next hn =>
      refine Subscript_ (se_bind he rp h (fun _ z => z) fun a s' W' u ha le rp' sh hv => ?_)
      refine se_bind he rp' ha (fun _ z => z.step le sh) fun b s'' W'' u' hb le' rp'' sh' hv' => ?_
      exact subV_sound ok rp'' (hv.mono le') hv' (sub_plain (isSlcE_ne hn)) (hb.mono (fun _ z => z.step (le.trans le') (sh.trans sh')) (fun _ z => z.step (le.trans le') (sh.trans sh')))
  · intro es p h
    dsimp only [evE] at h
    split at h
    · next q =>
      have q := Nat.le_of_ble_eq_true q
      refine wpAny_List (evL_sound he _ st W s _ E rp ((evL_len r _ st (T.holds_bind h)).mono (fun a ha s' W' us le rp' sh hus => ?_) fun _ z => z))
      have ln := hus.length
      rw [ha.2] at ln
      exact ⟨by rw [ln, sizeLine_eq]; omega, new_lst rp' hus (Post.step ha.1 le sh)⟩
    · exact h.elim
  · intro es p _ h
    dsimp only [evE] at h
    split at h
    · next q =>
      have q := Nat.le_of_ble_eq_true q
      refine wpAny_Tuple (evL_sound he _ st W s _ E rp ((evL_len r _ st (T.holds_bind h)).mono (fun a ha s' W' us le rp' sh hus => ?_) fun _ z => z))
      have ln := hus.length
      rw [ha.2] at ln
      exact ⟨by rw [ln, sizeLine_eq]; omega, new_tup ok rp' hus (Post.step ha.1 le sh)⟩
    · exact h.elim

set_option backward.match.sparseCases true in
set_option tactic.hygienic false in
theorem allT_sound (ht : STt X A r.t) (isAnd : Bool) : ∀ (es : List Expr) (st : St) (W : Wd) (s : Shared) (Q : Bool → Shared → Prop) (E : Value → Shared → Prop), Rep X W st s.heap → (allT r isAnd es st).Holds (PostT X W s Q) (PostX X W s E) →
    wpAny (model PW X.w) A (allTrue (if isAnd then .And else .Or) es X.env) Q E s
  | [], st, W, s, Q, E, rp, h => by
    have := h s W isAnd (.refl W) rp (.refl s) (.inl rfl)
    cases isAnd <;> exact wpAny_pure this
  | x :: rest, st, W, s, Q, E, rp, h => by
    rcases isAnd with _ | _
    rotate_left
    ·
      show wpAny _ _ (PySem.isTrue x X.env (eval x X.env) >>= fun b => match BoolOp.And, b with | .And, false => pure false | .Or, true => pure true | _, _ => allTrue .And rest X.env) _ _ _
      refine wpAny_bind (ht x st W s _ E rp ((T.holds_bind h).mono (fun a ha s' W' b le rp' sh hb => ?_) fun _ z => z))
      have hh := holds_br ha hb
      rcases b with _ | _
      rotate_left
      · exact allT_sound ht true rest _ W' s' Q E rp' (hh.mono (fun _ z => z.step le sh) fun _ z => z.step le sh)
      · exact wpAny_pure (hh s' W' false le rp' sh (.inl rfl))
    ·
      show wpAny _ _ (PySem.isTrue x X.env (eval x X.env) >>= fun b => match BoolOp.Or, b with | .And, false => pure false | .Or, true => pure true | _, _ => allTrue .Or rest X.env) _ _ _
      refine wpAny_bind (ht x st W s _ E rp ((T.holds_bind h).mono (fun a ha s' W' b le rp' sh hb => ?_) fun _ z => z))
      have hh := holds_br ha hb
      rcases b with _ | _
      · exact allT_sound ht false rest _ W' s' Q E rp' (hh.mono (fun _ z => z.step le sh) fun _ z => z.step le sh)
      · exact wpAny_pure (hh s' W' true le rp' sh (.inl rfl))
theorem evT_sound (ok : FxOK X) (co : CxOK n C X) (hA : OKA n A) (he : SE X A r.e) (ht : STt X A r.t) : STt X A (evT C r) := by
  intro x st W s Q E rp h
  have plain : ∀ {x : Expr}, ((r.e x st).bind fun a => match truth a.1 with | some c => .ret (c, a.2) | none => .stuck).Holds (PostT X W s Q) (PostX X W s E) →
      (PySem.isTrue x X.env (eval x X.env) = (do let v ← eval x X.env; standAt x.pos; holding [v] (truthy v))) → wpAny (model PW X.w) A (PySem.isTrue x X.env (eval x X.env)) Q E s := by
    intro x h e
    refine wpAny_isTrue_value (se_bind he rp h (fun _ z => z) fun a s' W' u ha le rp' sh hv => ?_) e
    split at ha
    · next c q => exact truth_sound hv q fun b hb => ha s' W' b le rp' sh hb
    · exact ha.elim
  cases x <;> (try exact h.elim)
  case UnaryOp op y p =>
    cases op <;> (try exact h.elim)
    dsimp only [evT] at h
    refine wpAny_isTrue_Not (ht _ st W s _ E rp ((T.holds_bind h).mono (fun a ha s' W' b le rp' sh hb => ?_) fun _ z => z))
    split at ha
    · next c q => exact ha s' W' (!b) le rp' sh (isB_tN q hb)
    · exact ha.elim
  case BoolOp op vs p =>
    dsimp only [evT] at h
    refine wpAny_isTrue_BoolOp ?_
    cases op with
    | And => exact allT_sound ht true vs st W s Q E rp h
    | Or => exact allT_sound ht false vs st W s Q E rp h
  case Compare l ops ys p =>
    rcases ops with _ | ⟨op, _ | ⟨_, _⟩⟩ <;> rcases ys with _ | ⟨y, _ | ⟨_, _⟩⟩ <;> (try exact h.elim)
    dsimp only [evT] at h
    have key : isSetE y = false → behindInMarks op y = false := by
      intro hn
      cases y <;> first | rfl | exact Bool.noConfusion hn
    split at h
    · exact h.elim
    · next hn =>
      refine wpAny_isTrue_Compare1 (se_bind he rp h (fun _ z => z) fun a s' W' u ha le rp' sh hv => ?_) (key hn)
      refine se_bind he rp' ha (fun _ z => z.step le sh) fun b s'' W'' u' hb le' rp'' sh' hv' => ?_
      refine cmpV_sound co.F ok hA rp'' (hv.mono le') hv' ((T.holds_bind hb).mono (fun c hc s3 W3 u3 le3 rp3 sh3 hv3 => ?_) fun _ z => z.step (le.trans le') (sh.trans sh'))
      split at hc
      · next d q => exact truth_sound hv3 q fun b hb => hc s3 W3 b ((le.trans le').trans le3) rp3 ((sh.trans sh').trans sh3) hb
      · exact hc.elim
  case Name => exact plain h rfl
  case Call => exact plain h rfl
  case BinOp => exact plain h rfl
set_option tactic.hygienic false in
theorem ev_sound (ok : FxOK X) (co : CxOK n C X) (hA : OKA n A) : ∀ k, SE X A (ev C k).e ∧ STt X A (ev C k).t
  | 0 => ⟨fun _ _ _ _ _ _ _ h => h.elim, fun _ _ _ _ _ _ _ h => h.elim⟩
  | k + 1 => ⟨evE_sound ok co hA (ev_sound ok co hA k).1 (ev_sound ok co hA k).2, evT_sound ok co hA (ev_sound ok co hA k).1 (ev_sound ok co hA k).2⟩
end
/-- the names of a tuple of names -/
noncomputable def tgts : List Expr → Option (List Str)
  | [] => some []
  | .Name x _ :: r => match tgts r with
    | some l => some (x :: l)
    | none => none
  | _ => none
noncomputable def stoN (C : Cx) (x : Str) (v : SV) (st : St) : TS Unit := match lk x C.names with
  | some .local => .ret ((), { st with loc := up x v st.loc })
  | some .cell => .ret ((), { st with cel := up x v st.cel })
  | _ => .stuck
noncomputable def stoL (C : Cx) : List Str → List SV → St → TS Unit
  | [], [], st => .ret ((), st)
  | x :: xs, v :: vs, st => (stoN C x v st).bind fun a => stoL C xs vs a.2
  | _, _, _ => .stuck
noncomputable def setV (x i v : SV) (st : St) : TS Unit := match x, i with
  | .ml j, .num k => match st.mls[j]? with
    | some (false, l) => match Nat.blt l.length 1000 && decide (0 ≤ k) && decide (k < l.length) with
      | true => .ret ((), { st with mls := st.mls.set j (false, l.set k.toNat v) })
      | false => .stuck
    | _ => .stuck
  | _, _ => .stuck
/-- an operation in place: on ints alone -/
noncomputable def iopB (op : Operator) (t : T St SV) : T St SV := match op with
  | .Add | .Sub | .Mod | .RShift => t
  | _ => .stuck
noncomputable def iop (op : Operator) (x y : SV) : T St SV := match asI x with
  | some q => match asI y with
    | some r => iopB op (bopI op y q.1 q.2.1 q.2.2 r.1 r.2.1 r.2.2)
    | none => .stuck
  | none => .stuck
noncomputable def isComp : Expr → Bool
  | .ListComp _ _ _ _ | .SetComp _ _ _ _ | .DictComp _ _ _ _ _ => true
  | _ => false
/-- how a tuple of names takes the value: in the order, or from behind -/
inductive Sw where
  | fore
  | back
noncomputable def sameLine (line : Nat) : List Expr → Bool
  | [] => true
  | e :: r => Nat.beq e.pos.line line && sameLine line r
noncomputable def locs (C : Cx) : List Str → Bool
  | [] => true
  | x :: r => match lk x C.names with
    | some .local => locs C r
    | _ => false
noncomputable def nodupS : List Str → Bool
  | [] => true
  | x :: r => !(r.any (sq x)) && nodupS r
noncomputable def swOf (C : Cx) (ts : List Expr) (xs : List Str) (value : Expr) : Option Sw := match value with
  | .Tuple vs _ _ => match Nat.beq ts.length 2 || Nat.beq ts.length 3 with
    | false => some .fore
    | true => match vs.all (foldedForSure 8) with
      | true => some .fore
      | false => match Nat.beq vs.length ts.length && noStar vs && locs C xs && nodupS xs && !(vs.all (constantsAlone 8)) && sameLine ((ts.head?.map (·.pos.line)).getD 0) ts with
        | true => some .back
        | false => none
  | _ => some .fore
noncomputable def noExc {α : Type} : TS α → TS α
  | .ret a => .ret a
  | .dec b t e => .dec b (noExc t) (noExc e)
  | .need b t => .need b (noExc t)
  | .exc _ => .stuck
  | .stuck => .stuck
/-- a while, turn by turn -/
noncomputable def whl (r : Ev) (xs : List Stmt → St → TS Fl) (test : Expr) (body : List Stmt) : Nat → St → TS Fl
  | 0, _ => .stuck
  | k + 1, st => (r.t test st).bind fun c => br c.1 ((xs body c.2).bind fun f => match f.1 with
    | .next => whl r xs test body k f.2
    | .ret v => .ret (.ret v, f.2)) (.ret (.next, c.2))
noncomputable def exS (C : Cx) (r : Ev) (xs : List Stmt → St → TS Fl) (s : Stmt) (st : St) : TS Fl := match s with
  | .Return (some e) _ => (r.e e st).bind fun a => .ret (.ret a.1, a.2)
  | .Expr e _ => match isComp e with
    | true => .stuck
    | false => (r.e e st).bind fun a => .ret (.next, a.2)
  | .Assign [.Name x _] value _ => match isComp value with
    | true => .stuck
    | false => (r.e value st).bind fun a => (stoN C x a.1 a.2).bind fun b => .ret (.next, b.2)
  | .Assign [.Tuple ts _ _] value _ => match isComp value, tgts ts with
    | false, some xs => match swOf C ts xs value with
      | some w => (r.e value st).bind fun a => match a.1 with
        | .tup l => match Nat.beq l.length ts.length with
          | true => (match w with
            | .fore => stoL C xs l a.2
            | .back => stoL C xs.reverse l.reverse a.2).bind fun b => .ret (.next, b.2)
          | false => .stuck
        | _ => .stuck
      | none => .stuck
    | _, _ => .stuck
  | .Assign [.Subscript o i _] value _ => match isComp value || isSlcE i with
    | true => .stuck
    | false => (r.e value st).bind fun a => (r.e o a.2).bind fun b => (r.e i b.2).bind fun c => (setV b.1 c.1 a.1 c.2).bind fun d => .ret (.next, d.2)
  | .AugAssign (.Name x np) op value _ => match lk x C.names with
    | some .local => (nameV C x st).bind fun a => (r.e value a.2).bind fun b => (liftS b.2 (iop op a.1 b.1)).bind fun c => (stoN C x c.1 c.2).bind fun d => .ret (.next, d.2)
    | _ => .stuck
  | .AugAssign (.Subscript o i _) op value _ => match isSlcE i with
    | true => .stuck
    | false => (r.e o st).bind fun a => (r.e i a.2).bind fun b => (subV a.1 b.1 b.2).bind fun c => (r.e value c.2).bind fun d => (liftS d.2 (iop op c.1 d.1)).bind fun e => (setV a.1 b.1 e.1 e.2).bind fun f => .ret (.next, f.2)
  | .If test b o _ => (r.t test st).bind fun c => br c.1 (xs b c.2) (xs o c.2)
  | .While test b [] _ => noExc (whl r xs test b 200 st)
  | _ => .stuck
noncomputable def PostU (X : Fx) (W : Wd) (s : Shared) (Q : Unit → Shared → Prop) (r : Unit × St) : Prop := ∀ s' W', W.le W' → Rep X W' r.2 s'.heap → Sh s s' → Q () s'
set_option tactic.hygienic false in
theorem PostU.step {X : Fx} {W W' : Wd} {s s' : Shared} {Q : Unit → Shared → Prop} {r : Unit × St} (p : PostU X W s Q r) (le : W.le W') (sh : Sh s s') : PostU X W' s' Q r :=
  fun s'' W'' l r h => p s'' W'' (le.trans l) r (sh.trans h)
noncomputable def PostF (X : Fx) (W : Wd) (s : Shared) (Q : Flow → Shared → Prop) (r : Fl × St) : Prop := ∀ s' W', W.le W' → Rep X W' r.2 s'.heap → Sh s s' → match r.1 with
  | .next => Q .next s'
  | .ret v => ∀ u, VR W' v u → Q (.ret u) s'
set_option tactic.hygienic false in
theorem PostF.step {X : Fx} {W W' : Wd} {s s' : Shared} {Q : Flow → Shared → Prop} {r : Fl × St} (p : PostF X W s Q r) (le : W.le W') (sh : Sh s s') : PostF X W' s' Q r :=
  fun s'' W'' l r h => p s'' W'' (le.trans l) r (sh.trans h)
noncomputable def CellsOK (C : Cx) (X : Fx) : Prop := ∀ x, lk x C.names = some .cell → X.ro = false ∧ ∃ c, X.cs.lookup x = some c
section
variable {n : Nat} {X : Fx} {W : Wd} {st : St} {A : Around} {E : Value → Shared → Prop} {s : Shared} {C : Cx} {r : Ev}
theorem stoN_sound {x : Str} {v : SV} {u : Value} {Q : Unit → Shared → Prop} (ok : FxOK X) (co : CxOK n C X) (hc : CellsOK C X) (rp : Rep X W st s.heap) (hv : VR W v u) (h : (stoN C x v st).Holds (PostU X W s Q) (PostX X W s E)) :
    wpAny (model PW X.w) A (storeName X.env x u) Q E s := by
  unfold stoN at h
  split at h
  · next q =>
    obtain ⟨m, hm, hval⟩ := rp.n.ns
    refine wpAny_storeName_local (co.names x _ q) hm (fun h' hn hs => ?_) ?_
    · exact h _ W (.refl W) (rp.storeL ok hval hn hs hv) (.heap s h' (s.toks + 1))
    · show (X.scope.kind == .class || (X.scope.kind == .module && X.L != X.env.globals)) = false
      rw [ok.kind]; rfl
  · next q =>
    obtain ⟨ro, c, e⟩ := hc x q
    obtain ⟨_, _, v0, ic⟩ := rp.c.own x c e
    refine wpAny_storeName_cell ok.kind (co.names x _ q) e ic fun h' hn hs => ?_
    exact h _ W (.refl W) (rp.storeC ok ro e hn hs hv) (.heap s h' s.toks)
  · exact h.elim
set_option tactic.hygienic false in
theorem stoL_sound (ok : FxOK X) (co : CxOK n C X) (hc : CellsOK C X) (f : Str → Value → Sem Unit) (hf : ∀ x u W st s Q E, Rep X W st s.heap → wpAny (model PW X.w) A (storeName X.env x u) Q E s → wpAny (model PW X.w) A (f x u) Q E s) :
    ∀ (xs : List Str) (vs : List SV) (us : List Value) (st : St) (W : Wd) (s : Shared) (Q : Unit → Shared → Prop) (E : Value → Shared → Prop), Rep X W st s.heap → VRs W vs us → (stoL C xs vs st).Holds (PostU X W s Q) (PostX X W s E) →
    wpAny (model PW X.w) A (assignInOrder (xs.map f) us) Q E s
  | [], [], us, st, W, s, Q, E, rp, hv, h => by
    simp only [VRs] at hv
    subst hv
    exact wpAny_pure (h s W (.refl W) rp (.refl s))
  | x :: xs, v :: vs, us, st, W, s, Q, E, rp, hv, h => by
    simp only [VRs] at hv
    obtain ⟨u, rs, rfl, h1, h2⟩ := hv
    show wpAny _ _ (assignInOrder (f x :: xs.map f) (u :: rs)) _ _ _
    show wpAny _ _ (holding rs (f x u) >>= fun _ => assignInOrder (xs.map f) rs) _ _ _
    refine wpAny_bind (wpAny_holding (hf x u W st s _ E rp (stoN_sound ok co hc rp h1 ((T.holds_bind h).mono (fun a ha s' W' le rp' sh => ?_) fun _ z => z))))
    exact stoL_sound ok co hc f hf xs vs rs a.2 W' s' Q E rp' (h2.mono le) (ha.mono (fun _ z => z.step le sh) fun _ z => z.step le sh)
  | [], _ :: _, _, _, _, _, _, _, _, _, h => h.elim
  | _ :: _, [], _, _, _, _, _, _, _, _, h => h.elim

theorem subV_get {x i : SV} {u v : Value} {Q : Value → Shared → Prop} (rp : Rep X W st s.heap) (hx : VR W x u) (hi : VR W i v)
    (h : (subV x i st).Holds (Post X W s Q) (PostX X W s E)) : wpAny (model PW X.w) A (getItem u v) Q E s := by
  unfold subV at h
  split at h
  · next k =>
    simp only [VR] at hi
    obtain ⟨t, rfl⟩ := hi
    split at h
    · next l e =>
      obtain ⟨a, o, items, rfl, g, z, y⟩ := seq_at rp hx e
      have z1 := z.length
      split at h
      case h_2 => exact h.elim
      next big =>
      have big := Nat.le_of_ble_eq_true big
      split at h
      · next j e1 =>
        split at h
        · next y' e2 =>
          obtain ⟨w, hw, vw⟩ := z.get e2
          obtain ⟨e3, e4, e5, e6⟩ := idx_seq e1
          rcases y with y | y
          · rcases Int.lt_or_le k 0 with neg | pos
            · refine wpAny_getItem_list_neg (y.is g) neg ?_ (by omega) ?_ (Post.same h rp vw)
              · rw [← Array.length_toList, z1]; exact e5
              · rw [← Array.getElem?_toList, ← Array.length_toList, z1]
                have : (k + ↑l.length).toNat = j := by
                  unfold idx at e1
                  rw [show (decide (0 ≤ k) && decide (k < (l.length : Int))) = false by simp; omega, show (decide (k < 0) && decide (-(l.length : Int) ≤ k)) = true by simp; omega] at e1
                  cases e1; rfl
                rw [this]; exact hw
            · refine wpAny_getItem_list (y.is g) pos (by omega) ?_ (Post.same h rp vw)
              rw [← Array.getElem?_toList]
              have : k.toNat = j := by
                unfold idx at e1
                rw [show (decide (0 ≤ k) && decide (k < (l.length : Int))) = true by simp; omega] at e1
                cases e1; rfl
              rw [this]; exact hw
          · exact getItem_tuple (y.is g) (by omega) (by omega) (by rw [← Array.length_toList, z1]; exact e3) (by rw [← Array.getElem?_toList]; exact hw) (Post.same h rp vw)
        · exact h.elim
      · exact h.elim
    · exact h.elim
  · exact h.elim
theorem setV_sound {x i v : SV} {u ui uv : Value} {Q : Unit → Shared → Prop} (ok : FxOK X) (rp : Rep X W st s.heap) (hx : VR W x u) (hi : VR W i ui) (hv : VR W v uv) (h : (setV x i v st).Holds (PostU X W s Q) (PostX X W s E)) :
    wpAny (model PW X.w) A (setItem u ui uv) Q E s := by
  unfold setV at h
  split at h
  · next j k =>
    split at h
    · next l e =>
      split at h
      · next q =>
        simp only [Bool.and_eq_true, decide_eq_true_eq] at q
        obtain ⟨⟨q1, q2⟩, q3⟩ := q
        have q1 := Nat.le_of_ble_eq_true q1
        simp only [VR] at hx hi
        obtain ⟨a, rfl, ha⟩ := hx
        obtain ⟨t, rfl⟩ := hi
        obtain ⟨a', ha', d⟩ := rp.l.at_ _ _ _ e
        rw [ha] at ha'
        cases ha'
        obtain ⟨o, items, g, ⟨m, rfl⟩, z, _⟩ := d.at_
        have z1 := z.length
        rw [Array.length_toList] at z1
        refine PySem.W.ki_setAt g q2 (by omega) (by omega) ?_
        have up := PySem.IsL.update (n := m) g (fun xs => xs.setIfInBounds k.toNat uv)
        exact h _ W (.refl W) (rp.setL (l' := l.set k.toNat v) ok e ha ⟨_, up, _, rfl⟩ (Heap.SameBut.update ..) (by rw [Array.toList_setIfInBounds]; exact z.set hv)) (.heap s _ s.toks)
      · exact h.elim
    · exact h.elim
  · exact h.elim
set_option tactic.hygienic false in
theorem bdd_md {a p : Int} (_ : True) (h : 0 < p) (h' : p < 100) : bdd (a.fmod p) (some 100) := by
  have := bdd_fmod (a := a) h
  simp only [bdd] at this ⊢
  omega
theorem iop_sound {op : Operator} {x y : SV} {u v : Value} {Q : Value → Shared → Prop} (hx : VR W x u) (hy : VR W y v) (h : (iop op x y).Holds (fun r => ∀ u' tk, VR W r u' → Q u' { s with toks := tk }) (fun _ => False)) :
    wpAny (model PW X.w) A (inplaceOp op u v) Q E s := by
  unfold iop at h
  rcases e1 : asI x with _ | q
  · rw [e1] at h; exact h.elim
  rw [e1] at h
  rcases e2 : asI y with _ | r
  · rw [e2] at h; exact h.elim
  rw [e2] at h
  obtain ⟨⟨t, rfl⟩, hb1⟩ := asI_VR hx e1
  obtain ⟨⟨t', rfl⟩, hb2⟩ := asI_VR hy e2
  cases op <;> (try exact h.elim)
  case Add => exact PyProof.Rows.iadd_int (h _ _ (VR_mkI (bdd_add hb1 hb2)))
  case Sub => exact PyProof.Rows.isub_int (h _ _ (VR_mkI (bdd_sub hb1 hb2)))
  case Mod =>
    cases y <;> (try exact h.elim)
    case md p =>
      obtain rfl := Option.some.inj e2
      dsimp only at hb2 ⊢
      simp only [VR] at hy
      refine imod_int (by omega) (h _ _ ?_)
      simp only [VR]
      exact ⟨⟨_, rfl⟩, bdd_md trivial hy.2.1 hy.2.2⟩
    case num m =>
      obtain rfl := Option.some.inj e2
      dsimp only at hb2 ⊢
      dsimp only [iopB, bopI] at h
      split at h
      · exact h.elim
      · next q =>
        have q := of_decide_eq_true q
        exact imod_int (by omega) (h _ _ (VR_mkI (bdd_fmod q)))
  case RShift =>
    cases y <;> (try exact h.elim)
    case num m =>
      obtain rfl := Option.some.inj e2
      dsimp only [iopB, bopI] at h
      split at h
      · next q =>
        simp only [Bool.and_eq_true, decide_eq_true_eq] at q
        exact irshift_int q.1 (h _ _ (VR_mkI (bdd_fdiv (Int.pow_pos (by decide)) hb1)))
      · exact h.elim
set_option tactic.hygienic false in
theorem holds_noExc {α : Type} {K : α × St → Prop} {KX : St → Prop} : ∀ {t : TS α}, (noExc t).Holds K KX → t.Holds K (fun _ => False)
  | .ret _, h => h
  | .dec _ _ _, h => ⟨fun q => holds_noExc (h.1 q), fun q => holds_noExc (h.2 q)⟩
  | .need _ _, h => ⟨h.1, holds_noExc h.2⟩
  | .exc _, h => h
  | .stuck, h => h
end
noncomputable def SX (X : Fx) (A : Around) (f : List Stmt → St → TS Fl) : Prop := ∀ b st W s Q E, Rep X W st s.heap → (f b st).Holds (PostF X W s Q) (PostX X W s E) → wpAny (model PW X.w) A (execs b X.env) Q E s
section
variable {n : Nat} {X : Fx} {A : Around} {C : Cx} {r : Ev} {xs : List Stmt → St → TS Fl}
set_option tactic.hygienic false in
theorem swap_pure {value : Expr} {t : Option Expr} {line : Nat} {env : Env} (h : isComp value = false) : swapsWith value t line env = pure false := by
  cases value <;> first | rfl | cases h
theorem whl_sound {W : Wd} {st : St} {s : Shared} {Q : Flow → Shared → Prop} {E : Value → Shared → Prop} {test : Expr} {body : List Stmt} {pos : Pos} (ht : STt X A r.t) (hx : SX X A xs) (rp : Rep X W st s.heap) (k : Nat)
    (h : (whl r xs test body k st).Holds (PostF X W s Q) (fun _ => False)) : wpAny (model PW X.w) A (exec (.While test body [] pos) X.env) Q E s := by
  refine wpAny_While (codeAny_whileLoop (fun k s' => ∃ st' W', W.le W' ∧ Rep X W' st' s'.heap ∧ Sh s s' ∧ (whl r xs test body k st').Holds (PostF X W s Q) (fun _ => False)) ?_ k ⟨st, W, .refl W, rp, .refl s, h⟩)
  rintro k s' ⟨st', W', le, rp', sh, h⟩
  cases k with
  | zero => exact h.elim
  | succ k =>
    refine ht test st' W' s' _ _ rp' ((T.holds_bind h).mono (fun c hc s₂ W₂ b le₂ rp₂ sh₂ hb => ?_) fun _ z => z.elim)
    have hh := holds_br hc hb
    rcases b with _ | _
    rotate_left
    ·
      refine hx body _ W₂ s₂ _ _ rp₂ ((T.holds_bind hh).mono (fun f hf s₃ W₃ le₃ rp₃ sh₃ => ?_) fun _ z => z.elim)
      split at hf
      · next e => (try rw [e]); exact ⟨k, Nat.lt_succ_self _, f.2, W₃, (le.trans le₂).trans le₃, rp₃, (sh.trans sh₂).trans sh₃, hf⟩
      · next v e => (try rw [e]); intro u hu; exact hf s₃ W₃ ((le.trans le₂).trans le₃) rp₃ ((sh.trans sh₂).trans sh₃) u hu
    · exact wpAny_execs_nil (hh s₂ W₂ (le.trans le₂) rp₂ (sh.trans sh₂))
theorem tgts_each {env : Env} : ∀ {ts : List Expr} {l : List Str}, tgts ts = some l → ts.length = l.length ∧ (∃ ps : List (Str × Pos), ts = ps.map (fun p => Expr.Name p.1 p.2) ∧ l = ps.map (·.1))
  | [], l, h => by simp only [tgts] at h; cases h; exact ⟨rfl, [], rfl, rfl⟩
  | t :: ts, l, h => by
    cases t <;> (try exact none_neQ h)
    simp only [tgts] at h
    split at h
    · next l' e =>
      cases h
      obtain ⟨a, ps, e1, e2⟩ := tgts_each (env := env) e
      exact ⟨by rw [List.length_cons, List.length_cons, a], (_, _) :: ps, by rw [List.map_cons, ← e1], by rw [List.map_cons, ← e2]⟩
    · cases h
set_option tactic.hygienic false in
theorem each_names {env : Env} : ∀ ps : List (Str × Pos), assignEach (ps.map fun p => Expr.Name p.1 p.2) env = ps.map fun p => (false, assign (Expr.Name p.1 p.2) env)
  | [] => rfl
  | p :: ps => by
    show (false, assign (Expr.Name p.1 p.2) env) :: assignEach (ps.map fun p => Expr.Name p.1 p.2) env = _
    rw [each_names ps]
    rfl

set_option tactic.hygienic false in
theorem nodupS_iff : ∀ {l : List Str}, nodupS l = true → l.Nodup
  | [], _ => List.nodup_nil
  | x :: r, h => by
    simp only [nodupS, Bool.and_eq_true, Bool.not_eq_true'] at h
    refine List.nodup_cons.mpr ⟨fun hm => ?_, nodupS_iff h.2⟩
    have := List.any_eq_false.mp h.1 x hm
    exact this (sq_iff.mpr rfl)
theorem locs_all {n : Nat} {X : Fx} {C : Cx} (co : CxOK n C X) : ∀ {l : List Str}, locs C l = true → ∀ x ∈ l, X.env.kindOf x = some .local
  | [], _, _, hx => nomatch hx
  | y :: r, h, x, hx => by
    simp only [locs] at h
    split at h
    · next q =>
      rcases List.mem_cons.mp hx with rfl | hx
      · exact co.names _ _ q
      · exact locs_all co h x hx
    · cases h
set_option tactic.hygienic false in
theorem sameLine_all {line : Nat} : ∀ {ps : List (Str × Pos)}, sameLine line (ps.map fun p => Expr.Name p.1 p.2) = true → ∀ p ∈ ps, p.2.line = line
  | [], _, _, hp => nomatch hp
  | q :: ps, h, p, hp => by
    simp only [List.map_cons, sameLine, Bool.and_eq_true] at h
    rcases List.mem_cons.mp hp with rfl | hp
    · exact Nat.eq_of_beq_eq_true h.1
    · exact sameLine_all h.2 p hp
set_option backward.match.sparseCases true in
noncomputable def isStar : Expr → Bool
  | .Starred .. => true
  | _ => false
set_option backward.match.sparseCases true in
set_option tactic.hygienic false in
theorem noStar_any : ∀ {vs : List Expr}, noStar vs = true → vs.any isStar = false
  | [], _ => rfl
  | x :: r, h => by
    have h' : noStar r = true ∧ isStar x = false := by
      cases x <;> first | exact ⟨h, rfl⟩ | cases h
    rw [List.any_cons, h'.2, Bool.false_or]
    exact noStar_any h'.1
set_option tactic.hygienic false in
theorem beq23 {n : Nat} : (n == 2 || n == 3) = (Nat.beq n 2 || Nat.beq n 3) := by
  have key : ∀ a b : Nat, (a == b) = Nat.beq a b := fun a b => by rw [Bool.eq_iff_iff, beq_iff_eq, Nat.beq_eq]
  rw [key, key]
set_option tactic.hygienic false in
theorem eraseDups_nodup : ∀ (l : List Str), l.Nodup → l.eraseDups = l := by
  intro l
  induction l with
  | nil => intro _; simp
  | cons a l ih =>
    intro h
    obtain ⟨h1, h2⟩ := List.nodup_cons.mp h
    rw [List.eraseDups_cons]
    have : l.filter (fun b => !b == a) = l := by
      rw [List.filter_eq_self]
      intro b hb
      have : b ≠ a := fun e => h1 (e ▸ hb)
      simp [this]
    rw [this, ih h2]
theorem sw_fore {X : Fx} {C : Cx} {ts : List Expr} {l : List Str} {k : Nat} {tpos : Pos} {value : Expr} (h : swOf C ts l value = some .fore) : swappedStores [.Tuple ts k tpos] value X.env = pure none := by
  cases value <;> (try exact rfl)
  case Tuple vs _ _ =>
    dsimp only [swOf] at h
    split at h
    · next q =>
      unfold swappedStores
      refine if_pos ?_
      rw [beq23, q]
      rfl
    · split at h
      · next q =>
        unfold swappedStores
        have key : ∀ (c1 c2 c3 : Prop) [Decidable c1] [Decidable c2] [Decidable c3] (z : Sem (Option (List Str))), (if c1 then (pure none : Sem (Option (List Str))) else if c2 then pure none else if c3 then pure none else if vs.all (foldedForSure 8) = true then pure none else z) = pure none := by
          intro c1 c2 c3 _ _ _ z
          split
          · rfl
          · split
            · rfl
            · split
              · rfl
              · first | rw [if_pos q] | rfl
        exact key _ _ _ _
      · split at h <;> cases h
set_option tactic.hygienic false in
theorem fbQ {P : Prop} (h : some Sw.fore = some Sw.back) : P := nomatch h
set_option backward.match.sparseCases true in
theorem sw_back {X : Fx} {C : Cx} {n : Nat} {ts : List Expr} {l : List Str} {k : Nat} {tpos : Pos} {value : Expr} (ok : FxOK X) (co : CxOK n C X) (ht : tgts ts = some l) (h : swOf C ts l value = some .back) : swappedStores [.Tuple ts k tpos] value X.env = pure (some l) := by
  cases value <;> (try exact fbQ h)
  case Tuple vs _ _ =>
    dsimp only [swOf] at h
    split at h
    · cases h
    · next q =>
      split at h
      · cases h
      · next q2 =>
        split at h
        · next q3 =>
          simp only [Bool.and_eq_true, Bool.not_eq_true'] at q3
          obtain ⟨⟨⟨⟨⟨c1, c2⟩, c3⟩, c4⟩, c5⟩, c6⟩ := q3
          obtain ⟨_, ps, rfl, rfl⟩ := tgts_each (env := X.env) ht
          have hl := locs_all co c3
          have hline := sameLine_all c6
          have e2 : (vs.length != (ps.map fun p => Expr.Name p.1 p.2).length) = false := by
            have := Nat.eq_of_beq_eq_true c1
            rw [this]; simp
          have e3 : (X.env.blockKind != .function) = false := by
            have : X.env.blockKind = .function := by
              show (if X.scope.kind.isAnnotationScope then .function else X.scope.kind) = _
              rw [ok.kind]; rfl
            rw [this]; rfl
          have e4 := noStar_any c2
          have nd : (ps.map (·.1)).eraseDups.length = (ps.map (·.1)).length := by
            rw [eraseDups_nodup _ (nodupS_iff c4)]
          have key : ∀ (names : List Str) (c1 c2 : Bool) (h1 : c1 = false) (h2 : c2 = false), names = ps.map (·.1) → (if c1 = true then (pure none : Sem (Option (List Str))) else if c2 = true then pure none else
              if (names.length != (ps.map fun p => Expr.Name p.1 p.2).length || names.eraseDups.length != names.length) = true then pure none else if vs.all (foldedForSure 8) = true then pure none else
              if vs.all (constantsAlone 8) = true then unsupported "assign.tuple-of-constant-expressions:order-of-the-stores" else pure (some names)) = pure (some (ps.map (·.1))) := by
            rintro names _ _ rfl rfl rfl
            rw [if_neg (by simp), if_neg (by simp), if_neg (by rw [nd]; simp), if_neg (by rw [q2]; simp), if_neg (by rw [c5]; simp)]
          have e5 : ((ps.map fun p => Expr.Name p.1 p.2).filterMap fun e => match e with
              | .Name id pos => if (X.env.kindOf id == some .local && pos.line == (((ps.map fun p => Expr.Name p.1 p.2).head?.map (·.pos.line)).getD 0)) = true then some id else none
              | _ => none) = ps.map (·.1) := by
            rw [List.filterMap_map]
            have : ∀ qs : List (Str × Pos), (∀ p ∈ qs, X.env.kindOf p.1 = some .local ∧ p.2.line = ((ps.map fun p => Expr.Name p.1 p.2).head?.map (·.pos.line)).getD 0) →
                qs.filterMap ((fun e => match e with
                  | .Name id pos => if (X.env.kindOf id == some .local && pos.line == (((ps.map fun p => Expr.Name p.1 p.2).head?.map (·.pos.line)).getD 0)) = true then some id else none
                  | _ => none) ∘ fun p => Expr.Name p.1 p.2) = qs.map (·.1) := by
              intro qs
              induction qs with
              | nil => intro _; rfl
              | cons p qs ih =>
                intro hq
                obtain ⟨a, b⟩ := hq p List.mem_cons_self
                rw [List.filterMap_cons]
                simp only [Function.comp_apply, a, b, beq_self_eq_true, Bool.and_self, if_true, List.map_cons]
                rw [← ih fun p hp => hq p (List.mem_cons_of_mem _ hp)]
            exact this ps fun p hp => ⟨hl p.1 (List.mem_map.mpr ⟨p, hp, rfl⟩), hline p hp⟩
          unfold swappedStores
          refine key _ _ _ ?_ e4 e5
          rw [beq23, q, e2, e3]
          rfl
        · cases h
end
section
variable {n : Nat} {X : Fx} {A : Around} {C : Cx} {r : Ev} {xs : List Stmt → St → TS Fl}
set_option tactic.hygienic false in
theorem assign_tup {W : Wd} {st : St} {s : Shared} {Q : Unit → Shared → Prop} {E : Value → Shared → Prop} {ts : List Expr} {l : List Str} {k : Nat} {tpos : Pos} {vs : List SV} {u : Value} (ok : FxOK X) (co : CxOK n C X) (hc : CellsOK C X) (hA : OKA n A) (rp : Rep X W st s.heap) (hv : VR W (.tup vs) u) (ht : tgts ts = some l) (hl : vs.length = ts.length)
    (h : (stoL C l vs st).Holds (PostU X W s Q) (PostX X W s E)) : wpAny (model PW X.w) A (assign (.Tuple ts k tpos) X.env u) Q E s := by
  simp only [VR] at hv
  obtain ⟨a, o, items, rfl, h1, h2, h3⟩ := hv
  obtain ⟨hlen, ps, rfl, rfl⟩ := tgts_each (env := X.env) ht
  have z := h3.length
  rw [Array.length_toList] at z
  have hn : (assignEach (ps.map fun p => Expr.Name p.1 p.2) X.env).length = items.size := by rw [each_names, List.length_map, z, hl, List.length_map]
  have hs : (assignEach (ps.map fun p => Expr.Name p.1 p.2) X.env).findIdx? (·.1) = none := by
    rw [each_names, List.findIdx?_map]
    rw [List.findIdx?_eq_none_iff]
    intro x _
    rfl
  refine wpAny_assign_Tuple hA.h (h2.is (rp.z.sub _ _ h1)) hn hs fun h' hk => ?_
  have rp' : Rep X W st h' := rp.grow fun b o e => hk b o (fun q => by rw [q] at e; exact absurd (Heap.lt_size e) (Nat.lt_irrefl _)) e
  rw [each_names, List.map_map]
  have key : ∀ qs : List (Str × Pos), qs.map ((fun x : Bool × (Value → Sem Unit) => x.2) ∘ fun p => (false, assign (Expr.Name p.1 p.2) X.env)) = qs.map fun p => assign (Expr.Name p.1 p.2) X.env := fun qs => rfl
  have main : ∀ (qs : List (Str × Pos)) (vs : List SV) (us : List Value) (st : St) (W : Wd) (s : Shared) (Q : Unit → Shared → Prop) (E : Value → Shared → Prop), Rep X W st s.heap → VRs W vs us → (stoL C (qs.map (·.1)) vs st).Holds (PostU X W s Q) (PostX X W s E) →
      wpAny (model PW X.w) A (assignInOrder (qs.map fun p => assign (Expr.Name p.1 p.2) X.env) us) Q E s := by
    intro qs
    induction qs with
    | nil =>
      intro vs us st W s Q E rp hv h
      rcases vs with _ | ⟨v, vs⟩
      · simp only [VRs] at hv; subst hv; exact wpAny_pure (h s W (.refl W) rp (.refl s))
      · exact h.elim
    | cons q qs ih =>
      intro vs us st W s Q E rp hv h
      rcases vs with _ | ⟨v, vs⟩
      · exact h.elim
      ·
        simp only [VRs] at hv
        obtain ⟨u, rs, rfl, g1, g2⟩ := hv
        show wpAny _ _ (holding rs (assign (Expr.Name q.1 q.2) X.env u) >>= fun _ => assignInOrder (qs.map fun p => assign (Expr.Name p.1 p.2) X.env) rs) _ _ _
        refine wpAny_bind (wpAny_holding (PyProof.Rows.assign_Name (stoN_sound ok co hc rp g1 ((T.holds_bind h).mono (fun a ha s' W' le rp' sh => ?_) fun _ z => z))))
        exact ih vs rs a.2 W' s' Q E rp' (g2.mono le) (ha.mono (fun _ z => z.step le sh) fun _ z => z.step le sh)
  exact main ps vs items.toList st W _ Q E rp' h3 (h.mono (fun _ z => z.step (.refl W) (.heap s h' s.toks)) fun _ z => z.step (.refl W) (.heap s h' s.toks))
set_option tactic.hygienic false in
theorem assign_back {W : Wd} {st : St} {s : Shared} {Q : Unit → Shared → Prop} {E : Value → Shared → Prop} {l : List Str} {vs : List SV} {u : Value} (ok : FxOK X) (co : CxOK n C X) (hc : CellsOK C X) (hA : OKA n A) (rp : Rep X W st s.heap) (hv : VR W (.tup vs) u) (hl : vs.length = l.length)
    (h : (stoL C l.reverse vs.reverse st).Holds (PostU X W s Q) (PostX X W s E)) : wpAny (model PW X.w) A (unpackItems u l.length none) (fun items s₂ => wpAny (model PW X.w) A (assignInOrder (l.reverse.map fun n => bindName X.env n) items.reverse) Q E s₂) E s := by
  simp only [VR] at hv
  obtain ⟨a, o, items, rfl, h1, h2, h3⟩ := hv
  have z := h3.length
  rw [Array.length_toList] at z
  rw [← hl, ← z]
  refine wpAny_unpackItems_tuple hA.h (h2.is (rp.z.sub _ _ h1)) fun h' hk => ?_
  have rp' : Rep X W st h' := rp.grow fun b o e => hk b o (fun q => by rw [q] at e; exact absurd (Heap.lt_size e) (Nat.lt_irrefl _)) e
  have rev : ∀ {vs : List SV} {us : List Value}, VRs W vs us → VRs W vs.reverse us.reverse := by
    intro vs
    induction vs with
    | nil => intro us h; simp only [VRs] at h; subst h; simp [VRs]
    | cons v vs ih =>
      intro us h
      simp only [VRs] at h
      obtain ⟨u, rs, rfl, g1, g2⟩ := h
      rw [List.reverse_cons, List.reverse_cons]
      exact (ih g2).append (.one g1)
  exact stoL_sound ok co hc (fun x u => bindName X.env x u) (fun x u W st s Q E _ h => wpAny_bindName h) _ _ _ st W _ Q E rp' (rev h3) (h.mono (fun _ z => z.step (.refl W) (.heap s h' s.toks)) fun _ z => z.step (.refl W) (.heap s h' s.toks))
theorem exS_cs {C : Cx} {r : Ev} {xs : List Stmt → St → TS Fl} {st : St} {M : Stmt → Prop} (hd : ∀ x, exS C r xs x st = .stuck → M x) (c1 : ∀ e p, M (.Return (some e) p)) (c2 : ∀ e p, M (.Expr e p)) (c3 : ∀ x p value pos, M (.Assign [.Name x p] value pos)) (c4 : ∀ ts k tpos value pos, M (.Assign [.Tuple ts k tpos] value pos))
    (c5 : ∀ o i tpos value pos, M (.Assign [.Subscript o i tpos] value pos)) (c6 : ∀ y np op value pos, M (.AugAssign (.Name y np) op value pos)) (c7 : ∀ o i tpos op value pos, M (.AugAssign (.Subscript o i tpos) op value pos)) (c8 : ∀ test b o pos, M (.If test b o pos)) (c9 : ∀ test b pos, M (.While test b [] pos)) (x : Stmt) : M x := by
  cases x <;> (try exact hd _ rfl)
  case Return e p =>
    rcases e with _ | e
    · exact hd _ rfl
    · exact c1 _ _
  case Expr => exact c2 _ _
  case Assign ts value pos =>
    rcases ts with _ | ⟨tg, tl⟩
    · exact hd _ rfl
    cases tg <;> (try exact hd _ rfl)
    case Name =>
      rcases tl with _ | ⟨_, _⟩
      · exact c3 _ _ _ _
      · exact hd _ rfl
    case Tuple =>
      rcases tl with _ | ⟨_, _⟩
      · exact c4 _ _ _ _ _
      · exact hd _ rfl
    case Subscript =>
      rcases tl with _ | ⟨_, _⟩
      · exact c5 _ _ _ _ _
      · exact hd _ rfl
  case AugAssign tg op value pos =>
    cases tg <;> (try exact hd _ rfl)
    case Name => exact c6 _ _ _ _ _
    case Subscript => exact c7 _ _ _ _ _ _
  case If => exact c8 _ _ _ _
  case While test b o pos =>
    rcases o with _ | ⟨_, _⟩
    · exact c9 _ _ _
    · exact hd _ rfl
theorem exS_sound (ok : FxOK X) (co : CxOK n C X) (hc : CellsOK C X) (hA : OKA n A) (he : SE X A r.e) (ht : STt X A r.t) (hx : SX X A xs) (x : Stmt) (st : St) (W : Wd) (s : Shared) (Q : Flow → Shared → Prop) (E : Value → Shared → Prop) (rp : Rep X W st s.heap) :
    (exS C r xs x st).Holds (PostF X W s Q) (PostX X W s E) → wpAny (model PW X.w) A (exec x X.env) Q E s := by
  refine exS_cs (C := C) (r := r) (xs := xs) (st := st) (M := fun x => (exS C r xs x st).Holds (PostF X W s Q) (PostX X W s E) → wpAny (model PW X.w) A (exec x X.env) Q E s) (fun x e h => by rw [e] at h; exact h.elim) ?_ ?_ ?_ ?_ ?_ ?_ ?_ ?_ ?_ x
  · intro e p h
    exact wpAny_Return_some (se_bind he rp h (fun _ z => z) fun a s' W' u ha le rp' sh hv => ha s' W' le rp' sh u hv)
  · intro e p h
    dsimp only [exS] at h
    split at h
    · exact h.elim
    · next q =>
      refine wpAny_Expr_any (se_bind he rp h (fun _ z => z) fun a s' W' u ha le rp' sh hv => ha s' W' le rp' sh) ?_ (swap_pure q)
      show (X.scope.kind == .module && _) = false
      rw [ok.kind]; rfl
  · intro x p value pos h
    dsimp only [exS] at h
    split at h
    · exact h.elim
    · next q =>
      refine wpAny_Assign_Name (se_bind he rp h (fun _ z => z) fun a s' W' u ha le rp' sh hv => ?_) (swap_pure q)
      exact stoN_sound ok co hc rp' hv ((T.holds_bind ha).mono (fun b hb s'' W'' le' rp'' sh' => hb s'' W'' (le.trans le') rp'' (sh.trans sh')) fun _ z => z.step le sh)
  · intro ts k tpos value pos h
    dsimp only [exS] at h
    split at h
    · next l q ht' =>
      split at h
      · next w hw =>
        have main : ∀ (a : SV × St) (s' : Shared) (W' : Wd) (u : Value) (vs : List SV), a.1 = .tup vs → W.le W' → Rep X W' a.2 s'.heap → Sh s s' → VR W' a.1 u → True := fun _ _ _ _ _ _ _ _ _ _ => trivial
        cases w with
        | fore =>
          refine Assign_Tuple (se_bind he rp h (fun _ z => z) fun a s' W' u ha le rp' sh hv => ?_) (by unfold swapsWithSole; exact swap_pure q) (sw_fore hw)
          split at ha
          · next vs e =>
            split at ha
            · next q2 =>
              rw [e] at hv
              exact assign_tup ok co hc hA rp' hv ht' (Nat.eq_of_beq_eq_true q2) ((T.holds_bind ha).mono (fun b hb s'' W'' le' rp'' sh' => hb s'' W'' (le.trans le') rp'' (sh.trans sh')) fun _ z => z.step le sh)
            · exact ha.elim
          · exact ha.elim
        | back =>
          refine Assign_Tuple_swapped (names := l) (se_bind he rp h (fun _ z => z) fun a s' W' u ha le rp' sh hv => ?_) (by unfold swapsWithSole; exact swap_pure q) (sw_back ok co ht' hw)
          split at ha
          · next vs e =>
            split at ha
            · next q2 =>
              rw [e] at hv
              have := (tgts_each (env := X.env) ht').1
              exact assign_back ok co hc hA rp' hv ((Nat.eq_of_beq_eq_true q2).trans this) ((T.holds_bind ha).mono (fun b hb s'' W'' le' rp'' sh' => hb s'' W'' (le.trans le') rp'' (sh.trans sh')) fun _ z => z.step le sh)
            · exact ha.elim
          · exact ha.elim
      · exact h.elim
    · exact h.elim
  · intro o i tpos value pos h
    dsimp only [exS] at h
    split at h
    · exact h.elim
    · next qn =>
      obtain ⟨q, hn⟩ := Bool.or_eq_false_iff.mp qn
      refine wpAny_Assign_Subscript (se_bind he rp h (fun _ z => z) fun a s' W' u ha le rp' sh hv => ?_) (swap_pure q)
      refine se_bind he rp' ha (fun _ z => z.step le sh) fun b s₂ W₂ u₂ hb le₂ rp₂ sh₂ hv₂ => ?_
      refine se_bind he rp₂ hb (fun _ z => z.step (le.trans le₂) (sh.trans sh₂)) fun c s₃ W₃ u₃ hcc le₃ rp₃ sh₃ hv₃ => ?_
      exact setV_sound ok rp₃ (hv₂.mono le₃) hv₃ (hv.mono (le₂.trans le₃)) ((T.holds_bind hcc).mono (fun d hd s₄ W₄ le₄ rp₄ sh₄ => hd s₄ W₄ (((le.trans le₂).trans le₃).trans le₄) rp₄ (((sh.trans sh₂).trans sh₃).trans sh₄)) fun _ z => z.step ((le.trans le₂).trans le₃) ((sh.trans sh₂).trans sh₃))
  · intro y np op value pos h
    dsimp only [exS] at h
    split at h
    · next q =>
      have load : ∀ {Q' : Value → Shared → Prop}, (nameV C y st).Holds (Post X W s Q') (PostX X W s E) → wpAny (model PW X.w) A (loadName X.env y) Q' E s := by
        intro Q' h
        unfold nameV at h
        split at h
        · exact h.elim
        · rw [q] at h
          simp only at h
          split at h
          · next v e =>
            obtain ⟨m, hm, hv⟩ := rp.n.ns
            obtain ⟨u, e1, e2⟩ := hv y v e
            exact wpAny_loadName_local ok.kind (co.names y _ q) hm e1 (Post.same h rp e2)
          · exact h.elim
      refine wpAny_AugAssign_Name (load ((T.holds_bind h).mono (fun a ha s' W' u le rp' sh hv => ?_) fun _ z => z))
      refine se_bind he rp' ha (fun _ z => z.step le sh) fun b s₂ W₂ u₂ hb le₂ rp₂ sh₂ hv₂ => ?_
      refine iop_sound (hv.mono le₂) hv₂ ((holds_liftS (T.holds_bind hb)).mono (fun c hcc u' tk hv₃ => ?_) fun _ z => z)
      exact stoN_sound ok co hc (s := { s₂ with toks := tk }) rp₂ hv₃ ((T.holds_bind hcc).mono (fun d hd s₄ W₄ le₄ rp₄ sh₄ => hd s₄ W₄ ((le.trans le₂).trans le₄) rp₄ (((sh.trans sh₂).trans (.heap s₂ s₂.heap tk)).trans sh₄)) fun _ z => z.step (le.trans le₂) ((sh.trans sh₂).trans (.heap s₂ s₂.heap tk)))
    · exact h.elim
  · intro o i tpos op value pos h
    dsimp only [exS] at h
    split at h
    · exact h.elim
    · next hn =>
      refine wpAny_AugAssign_SubscriptAny (se_bind he rp h (fun _ z => z) fun a s' W' u ha le rp' sh hv => ?_) ?_
      · refine se_bind he rp' ha (fun _ z => z.step le sh) fun b s₂ W₂ u₂ hb le₂ rp₂ sh₂ hv₂ => ?_
        refine subV_get rp₂ (hv.mono le₂) hv₂ ((T.holds_bind hb).mono (fun c hcc s₃ W₃ u₃ le₃ rp₃ sh₃ hv₃ => ?_) fun _ z => z.step (le.trans le₂) (sh.trans sh₂))
        refine se_bind he rp₃ hcc (fun _ z => z.step ((le.trans le₂).trans le₃) ((sh.trans sh₂).trans sh₃)) fun d s₄ W₄ u₄ hd le₄ rp₄ sh₄ hv₄ => ?_
        refine iop_sound (hv₃.mono le₄) hv₄ ((holds_liftS (T.holds_bind hd)).mono (fun e hee u' tk hv₅ => ?_) fun _ z => z)
        exact setV_sound ok (s := { s₄ with toks := tk }) rp₄ (hv.mono ((le₂.trans le₃).trans le₄)) (hv₂.mono (le₃.trans le₄)) hv₅ ((T.holds_bind hee).mono (fun f hf s₆ W₆ le₆ rp₆ sh₆ => hf s₆ W₆ ((((le.trans le₂).trans le₃).trans le₄).trans le₆) rp₆ (((((sh.trans sh₂).trans sh₃).trans sh₄).trans (.heap s₄ s₄.heap tk)).trans sh₆)) fun _ z => z.step (((le.trans le₂).trans le₃).trans le₄) ((((sh.trans sh₂).trans sh₃).trans sh₄).trans (.heap s₄ s₄.heap tk)))
      · intro ov iv new
        cases i <;> first | rfl | exact Bool.noConfusion hn
  · intro test b o pos h
    dsimp only [exS] at h
    refine wpAny_If (ht _ st W s _ _ rp ((T.holds_bind h).mono (fun c hcc s' W' b le rp' sh hb => ?_) fun _ z => z))
    have hh := holds_br hcc hb
    rcases b with _ | _
    rotate_left
    · exact hx _ _ W' s' Q E rp' (hh.mono (fun _ z => z.step le sh) fun _ z => z.step le sh)
    · exact hx _ _ W' s' Q E rp' (hh.mono (fun _ z => z.step le sh) fun _ z => z.step le sh)
  · intro test b pos h
    exact whl_sound ht hx rp 200 (holds_noExc h)
end
/-- the frame data while a source's own objects must stay -/
noncomputable def Fx.hold (X : Fx) (h : Heap) (fp wr : List Addr) : Fx := { X with R := fun b o => X.R b o ∨ (b ∈ fp ∧ h.get? b = some o), N := fun b => X.N b ∨ b ∈ wr }
/-- the footprint of a source -/
structure FpOK (X : Fx) (W : Wd) (st : St) (h : Heap) (fp wr : List Addr) : Prop where
  sub : ∀ b ∈ wr, b ∈ fp
  here : ∀ b ∈ fp, ∃ o, h.get? b = some o
  nPT : ∀ b ∈ fp, b ≠ PT
  nL : ∀ b ∈ fp, b ≠ X.L
  nC : ∀ b ∈ fp, ∀ x, X.cs.lookup x ≠ some b
  nM : ∀ b ∈ fp, ∀ (i : Nat) l, st.mls[i]? = some (false, l) → W.eta[i]? ≠ some b
  wr : ∀ b ∈ wr, Untr X W b
set_option tactic.hygienic false in
theorem FxOK.hold {X : Fx} {h : Heap} {fp wr : List Addr} (ok : FxOK X) (sub : ∀ b ∈ wr, b ∈ fp) (here : ∀ b ∈ fp, ∃ o, h.get? b = some o) : FxOK (X.hold h fp wr) where
  kx := ok.kx
  top := ok.top
  pt := ok.pt
  bm := ok.bm
  nR := fun b hb => by
    rcases hb with hb | hb
    · obtain ⟨o, ho⟩ := ok.nR b hb; exact ⟨o, .inl ho⟩
    · obtain ⟨o, ho⟩ := here b (sub b hb); exact ⟨o, .inr ⟨sub b hb, ho⟩⟩
  kind := ok.kind
  glob := ok.glob
  blt := ok.blt
  big := ok.big
set_option tactic.hygienic false in
theorem Rep.hold {X : Fx} {W : Wd} {st : St} {h : Heap} {fp wr : List Addr} (r : Rep X W st h) (f : FpOK X W st h fp wr) : Rep (X.hold h fp wr) W st h := by
  have keep : ∀ b, b ∉ fp → Own X W b → Own (X.hold h fp wr) W b := fun b hb q => ⟨q.1, fun o => ⟨fun w => by
    rcases w with w | w
    · exact (q.2 o).1 w
    · exact hb w.1, (q.2 o).2⟩⟩
  refine ⟨⟨r.z.tab, r.z.base, fun b o q => ?_, r.z.sub, r.z.subL, r.z.kh, r.z.solid, fun o => ⟨fun q => ?_, (r.z.npt o).2⟩, fun b hb o => ?_⟩, ⟨keep _ (fun q => f.nL _ q rfl) r.n.own, r.n.ns⟩,
    ⟨fun x c e => ?_, r.c.inj, r.c.val⟩, ⟨r.l.len, fun i fz l q => ?_, r.l.inj⟩⟩
  · rcases q with q | q
    · exact r.z.prot b o q
    · exact q.2
  · rcases q with q | q
    · exact (r.z.npt o).1 q
    · exact f.nPT _ q.1 rfl
  · rcases hb with hb | hb
    · exact r.z.nos b hb o
    · exact ((f.wr b hb).own.2 o).2
  · obtain ⟨a, b, d⟩ := r.c.own x c e
    refine ⟨?_, b, d⟩
    have nf : c ∉ fp := fun q => f.nC c q x e
    unfold OwnC at a ⊢
    show (match X.ro with | false => _ | true => _)
    rcases e' : X.ro with _ | _
    · rw [e'] at a; exact keep c nf a
    · rw [e'] at a; exact a
  · obtain ⟨b, hb, d⟩ := r.l.at_ i fz l q
    refine ⟨b, hb, d.at_, d.nL, d.nC, d.new, fun e => ?_⟩
    subst e
    exact keep b (fun q' => f.nM b q' i l q hb) (d.own rfl)
set_option tactic.hygienic false in
/-- back to the frame data, the source's objects let go -/
theorem Rep.unhold {X : Fx} {W : Wd} {st : St} {h h' : Heap} {fp wr : List Addr} (r : Rep (X.hold h fp wr) W st h') : Rep X W st h' := by
  have keep : ∀ b, Own (X.hold h fp wr) W b → Own X W b := fun b q => ⟨q.1, fun o => ⟨fun w => (q.2 o).1 (.inl w), (q.2 o).2⟩⟩
  refine ⟨⟨r.z.tab, r.z.base, fun b o q => r.z.prot b o (.inl q), r.z.sub, r.z.subL, r.z.kh, r.z.solid, fun o => ⟨fun q => (r.z.npt o).1 (.inl q), (r.z.npt o).2⟩, fun b hb => r.z.nos b (.inl hb)⟩, ⟨keep _ r.n.own, r.n.ns⟩,
    ⟨fun x c e => ?_, r.c.inj, r.c.val⟩, ⟨r.l.len, fun i fz l q => ?_, r.l.inj⟩⟩
  · obtain ⟨a, b, d⟩ := r.c.own x c e
    refine ⟨?_, b, d⟩
    unfold OwnC at a ⊢
    change (match X.ro with | false => _ | true => _) at a
    rcases e' : X.ro with _ | _
    · rw [e'] at a; exact keep c a
    · rw [e'] at a; exact a
  · obtain ⟨b, hb, d⟩ := r.l.at_ i fz l q
    exact ⟨b, hb, d.at_, d.nL, d.nC, d.new, fun e => keep b (d.own e)⟩
set_option tactic.hygienic false in
/-- the footprint still lies apart after a turn -/
theorem FpOK.after {X : Fx} {W W' : Wd} {st st' : St} {h h' : Heap} {fp wr : List Addr} (ok : FxOK X) (f : FpOK X W st h fp wr) (r : Rep (X.hold h fp wr) W' st' h') : FpOK X W' st' h' fp wr := by
  have ap : ∀ b ∈ fp, ∀ c, Own (X.hold h fp wr) W' c → b ≠ c := fun b hb c q e => by
    obtain ⟨o, ho⟩ := f.here b hb
    exact (q.2 o).1 (.inr ⟨e ▸ hb, e ▸ ho⟩)
  refine ⟨f.sub, fun b hb => let ⟨o, ho⟩ := f.here b hb; ⟨o, r.z.prot b o (.inr ⟨hb, ho⟩)⟩, f.nPT, f.nL, f.nC, fun b hb i l q e => ?_, fun b hb => ⟨⟨(f.wr b hb).own.1, fun o => ⟨((f.wr b hb).own.2 o).1, r.z.nos b (.inr hb) o⟩⟩, (f.wr b hb).nL, (f.wr b hb).nC, fun i e => ?_⟩⟩
  · obtain ⟨c, hc, d⟩ := r.l.at_ i false l q
    rw [e] at hc
    cases hc
    exact ap b hb b (d.own rfl) rfl
  · have hlt : i < st'.mls.length := r.l.len ▸ (List.getElem?_eq_some_iff.mp e).1
    obtain ⟨c, hc, d⟩ := r.l.at_ i (st'.mls[i]).1 (st'.mls[i]).2 (List.getElem?_eq_getElem hlt)
    rw [e] at hc
    cases hc
    rcases q : (st'.mls[i]).1 with _ | _
    · exact ap b (f.sub b hb) b (d.own q) rfl
    ·
      obtain ⟨o, _, _, _, _, w⟩ := d.at_
      exact (r.z.nos b (.inr hb) o).2 (w q)
set_option tactic.hygienic false in
/-- the source's own objects are turned -/
theorem Rep.turn {X : Fx} {W : Wd} {st : St} {h h' : Heap} {fp wr : List Addr} (r : Rep X W st h) (f : FpOK X W st h fp wr) (k : ∀ b o, b ∉ wr → h.get? b = some o → h'.get? b = some o) : Rep X W st h' := by
  have kk : ∀ b o, (b ∈ wr → False) → h.get? b = some o → h'.get? b = some o := fun b o hb e => k b o hb e
  refine ⟨⟨r.z.tab.at fun o e => kk _ o (fun q => f.nPT _ (f.sub _ q) rfl) e, fun b o hb e => kk b o (fun q => by rw [(f.wr b q).own.1] at e; cases e) (r.z.base b o hb e), fun b o e => kk b o (fun q => ((f.wr b q).own.2 o).1 e) (r.z.prot b o e),
    fun b o e => kk b o (fun q => ((f.wr b q).own.2 o).2.1 e) (r.z.sub b o e), fun b o e => kk b o (fun q => ((f.wr b q).own.2 o).2.2 e) (r.z.subL b o e), r.z.kh, r.z.solid, r.z.npt, r.z.nos⟩,
    ⟨r.n.own, let ⟨m, a, b⟩ := r.n.ns; ⟨m, a.at' fun o e => kk _ o (fun q => (f.wr _ q).nL rfl) e, b⟩⟩,
    ⟨fun x c e => let ⟨a, b, v, o, p, q⟩ := r.c.own x c e; ⟨a, b, v, o, kk c o (fun q => (f.wr c q).nC x e) p, q⟩, r.c.inj, fun x v e => let ⟨c, u, a, ⟨o, p, q⟩, d⟩ := r.c.val x v e; ⟨c, u, a, ⟨o, kk c o (fun q => (f.wr c q).nC x a) p, q⟩, d⟩⟩,
    ⟨r.l.len, fun i fz l q => ?_, r.l.inj⟩⟩
  obtain ⟨b, hb, d⟩ := r.l.at_ i fz l q
  exact ⟨b, hb, let ⟨o, it, p, w⟩ := d.at_; ⟨o, it, kk b o (fun q => (f.wr b q).nE i hb) p, w⟩, d.nL, d.nC, d.new, d.own⟩
set_option tactic.hygienic false in
theorem FpOK.turn {X : Fx} {W : Wd} {st : St} {h h' : Heap} {fp wr : List Addr} (f : FpOK X W st h fp wr) (here : ∀ b ∈ fp, ∃ o, h'.get? b = some o) : FpOK X W st h' fp wr := ⟨f.sub, here, f.nPT, f.nL, f.nC, f.nM, f.wr⟩
/-- what a source hands on: a value, or a pair that is opened at once -/
inductive It where
  | one (x : SV)
  | two (x y : SV)
noncomputable def PI (W : Wd) (it : It) (v : Value) (h : Heap) : Prop := match it with
  | .one x => VR W x v
  | .two x y => ∃ T a b, v = .ref T ∧ h.IsTuple T #[a, b] ∧ VR W x a ∧ VR W y b
set_option tactic.hygienic false in
theorem PI.mono {W W' : Wd} {it : It} {v : Value} {h : Heap} (k : W.le W') (p : PI W it v h) : PI W' it v h := by
  cases it with
  | one x => exact VR.mono k p
  | two x y => obtain ⟨T, a, b, e, t, p, q⟩ := p; exact ⟨T, a, b, e, t, VR.mono k p, VR.mono k q⟩
noncomputable def openT (C : Cx) (ts : List Expr) (v : SV) (st : St) : TS Unit := match tgts ts, v with
  | some l, .tup vs => match Nat.beq vs.length ts.length with
    | true => stoL C l vs st
    | false => .stuck
  | _, _ => .stuck
noncomputable def asgI (C : Cx) (tg : Expr) (it : It) (st : St) : TS Unit := match tg, it with
  | .Name x _, .one v => stoN C x v st
  | .Tuple [.Name x _, .Name y _] _ _, .two v w => stoL C [x, y] [v, w] st
  | .Tuple ts _ _, .one v => openT C ts v st
  | _, _ => .stuck
noncomputable def forL (C : Cx) (xs : List Stmt → St → TS Fl) (tg : Expr) (body : List Stmt) : List It → St → TS Fl
  | [], st => .ret (.next, st)
  | it :: r, st => (asgI C tg it st).bind fun a => (xs body a.2).bind fun f => match f.1 with
    | .next => forL C xs tg body r f.2
    | .ret v => .ret (.ret v, f.2)
structure KinX (n : Nat) (C : Cx) (X X' : Fx) : Prop where
  ok : FxOK X'
  co : CxOK n C X'
  hc : CellsOK C X'
  env : X'.env = X.env
  w : X'.w = X.w
section
variable {n : Nat} {X : Fx} {A : Around} {C : Cx} {xs : List Stmt → St → TS Fl}
set_option tactic.hygienic false in
theorem asgNames (ok : FxOK X) (co : CxOK n C X) (hc : CellsOK C X) : ∀ (qs : List (Str × Pos)) (vs : List SV) (us : List Value) (st : St) (W : Wd) (s : Shared) (Q : Unit → Shared → Prop) (E : Value → Shared → Prop), Rep X W st s.heap → VRs W vs us → (stoL C (qs.map (·.1)) vs st).Holds (PostU X W s Q) (PostX X W s E) →
      wpAny (model PW X.w) A (assignInOrder (qs.map fun p => assign (Expr.Name p.1 p.2) X.env) us) Q E s := by
  intro qs
  induction qs with
  | nil =>
    intro vs us st W s Q E rp hv h
    rcases vs with _ | ⟨v, vs⟩
    · simp only [VRs] at hv; subst hv; exact wpAny_pure (h s W (.refl W) rp (.refl s))
    · exact h.elim
  | cons q qs ih =>
    intro vs us st W s Q E rp hv h
    rcases vs with _ | ⟨v, vs⟩
    · exact h.elim
    ·
      simp only [VRs] at hv
      obtain ⟨u, rs, rfl, g1, g2⟩ := hv
      show wpAny _ _ (holding rs (assign (Expr.Name q.1 q.2) X.env u) >>= fun _ => assignInOrder (qs.map fun p => assign (Expr.Name p.1 p.2) X.env) rs) _ _ _
      refine wpAny_bind (wpAny_holding (PyProof.Rows.assign_Name (stoN_sound ok co hc rp g1 ((T.holds_bind h).mono (fun a ha s' W' le rp' sh => ?_) fun _ z => z))))
      exact ih vs rs a.2 W' s' Q E rp' (g2.mono le) (ha.mono (fun _ z => z.step le sh) fun _ z => z.step le sh)
theorem asgI_cs {C : Cx} {st : St} {M : Expr → It → Prop} (hd : ∀ x it, asgI C x it st = .stuck → M x it) (c1 : ∀ x p v, M (.Name x p) (.one v)) (c2 : ∀ x p y q k tp v w, M (.Tuple [.Name x p, .Name y q] k tp) (.two v w)) (c3 : ∀ ts k tp v, asgI C (.Tuple ts k tp) (.one v) st = openT C ts v st → M (.Tuple ts k tp) (.one v)) (x : Expr) (it : It) : M x it := by
  cases it with
  | one v =>
    cases x <;> (try exact hd _ _ rfl)
    case Name => exact c1 _ _ _
    case Tuple ts k tp =>
      refine c3 _ _ _ _ ?_
      rcases ts with _ | ⟨t1, r⟩
      · rfl
      cases t1 <;> (try rfl)
      rcases r with _ | ⟨t2, r⟩
      · rfl
      cases t2 <;> (try rfl)
      cases r <;> rfl
  | two v w =>
    cases x <;> (try exact hd _ _ rfl)
    rename_i ts k tp
    rcases ts with _ | ⟨t1, r⟩
    · exact hd _ _ rfl
    cases t1 <;> (try exact hd _ _ rfl)
    rcases r with _ | ⟨t2, r⟩
    · exact hd _ _ rfl
    cases t2 <;> (try exact hd _ _ rfl)
    rcases r with _ | ⟨_, _⟩
    · exact c2 _ _ _ _ _ _ _ _
    · exact hd _ _ rfl
theorem asgI_sound {W : Wd} {st : St} {s : Shared} {Q : Unit → Shared → Prop} {E : Value → Shared → Prop} {tg : Expr} {it : It} {v : Value} (ok : FxOK X) (co : CxOK n C X) (hc : CellsOK C X) (hA : OKA n A) (rp : Rep X W st s.heap) : PI W it v s.heap → (asgI C tg it st).Holds (PostU X W s Q) (PostX X W s E) →
    wpAny (model PW X.w) A (assign tg X.env v) Q E s := by
  refine asgI_cs (C := C) (st := st) (M := fun tg it => PI W it v s.heap → (asgI C tg it st).Holds (PostU X W s Q) (PostX X W s E) → wpAny (model PW X.w) A (assign tg X.env v) Q E s) (fun x it e _ h => by rw [e] at h; exact h.elim) ?_ ?_ ?_ tg it
  · intro x p v' hv h
    exact PyProof.Rows.assign_Name (stoN_sound ok co hc rp hv h)
  · intro x p y q _ _ a b hv h
    obtain ⟨T, ua, ub, rfl, ht, h1, h2⟩ := hv
    refine wpAny_assign_Tuple hA.h ht rfl rfl fun h' hk => ?_
    have rp' : Rep X W st h' := rp.grow fun b o e => hk b o (fun q => by rw [q] at e; exact absurd (Heap.lt_size e) (Nat.lt_irrefl _)) e
    exact asgNames ok co hc [(x, p), (y, q)] [a, b] [ua, ub] st W _ Q E rp' (.cons h1 (.one h2)) (h.mono (fun _ z => z.step (.refl W) (.heap s h' s.toks)) fun _ z => z.step (.refl W) (.heap s h' s.toks))
  · intro ts k tp v0 e0 hv h
    rw [e0] at h
    unfold openT at h
    split at h
    · next l vs e =>
      split at h
      · next q => exact assign_tup ok co hc hA rp hv e (Nat.eq_of_beq_eq_true q) h
      · exact h.elim
    · exact h.elim
inductive FInv (X : Fx) (W : Wd) (s : Shared) (fp wr : List Addr) (len : Nat) (S : Nat → Heap → Prop) (Kc : Nat → St → Prop) (k : Nat) (s' : Shared) : Prop
  | mk (i : Nat) (st' : St) (W' : Wd) (le : W.le W') (rp : Rep X W' st' s'.heap) (sh : Sh s s') (f : FpOK X W' st' s'.heap fp wr) (hi : i ≤ len) (e : k = len - i + 1) (hS : S i s'.heap) (h : Kc i st') : FInv X W s fp wr len S Kc k s'
theorem forL_sound {W : Wd} {st : St} {s : Shared} {R : Result → Shared → Prop} {Q : Flow → Shared → Prop} {tg : Expr} {body : List Stmt} {its : List It} {I : Addr} {fp wr : List Addr} {P Md : Nat → Value → Heap → Prop} {St : Nat → Heap → Prop} (hA : OKA n A) (kx : KinX n C X X)
    (hx : ∀ X', KinX n C X X' → SX X' A xs) (K : KTurns PW X.w A tg I fp wr its.length P Md St) (hP : ∀ i v h, i < its.length → P i v h → ∃ it, its[i]? = some it ∧ PI W it v h) (hl : ∀ i h, St i h → ∀ b ∈ wr, ∃ o, h.get? b = some o)
    (hst : St 0 s.heap) (rp : Rep X W st s.heap) (f : FpOK X W st s.heap fp wr) (h : (forL C xs tg body its st).Holds (PostF X W s Q) (fun _ => False)) (hR : ∀ fl s', Q fl s' → R (.ok fl) s') :
    codeAny (model PW X.w) A (.forLoop tg (.ref I) body [] X.env) R s := by
  refine codeAny_forLoop_any (FInv X W s fp wr its.length St fun i st' => (forL C xs tg body (its.drop i) st').Holds (PostF X W s Q) (fun _ => False)) ?_ (its.length - 0 + 1)
    ⟨0, st, W, .refl W, rp, .refl s, f, Nat.zero_le _, rfl, hst, h⟩
  rintro k s' ⟨i, st', W', le, rp', sh, f', hi, rfl, hst', h'⟩
  by_cases hlt : i < its.length
  · have hd : its.drop i = its[i] :: its.drop (i + 1) := List.drop_eq_getElem_cons hlt
    rw [hd] at h'
    refine K.item i s' _ _ hlt hst' fun v h₁ tk₁ hMd hk₁ => ?_
    refine K.go i v _ _ _ hMd fun h₂ hPv hst₂ hk₂ => ?_
    have kk : ∀ b o, b ∉ wr → s'.heap.get? b = some o → h₂.get? b = some o := fun b o hb e => hk₂ b o hb (hk₁ b o hb e)
    have here : ∀ b ∈ fp, ∃ o, h₂.get? b = some o := fun b hb => by
      by_cases q : b ∈ wr
      · exact hl _ _ hst₂ b q
      · obtain ⟨o, ho⟩ := f'.here b hb; exact ⟨o, kk b o q ho⟩
    have rp₂ := rp'.turn f' kk
    have f₂ : FpOK X W' st' h₂ fp wr := f'.turn here
    obtain ⟨it, hit, hPI⟩ := hP i v h₂ hlt hPv
    have : it = its[i] := by rw [List.getElem?_eq_getElem hlt] at hit; exact (Option.some.inj hit).symm
    subst this
    have ok₂ : FxOK (X.hold h₂ fp wr) := kx.ok.hold f₂.sub f₂.here
    have kx₂ : KinX n C X (X.hold h₂ fp wr) := ⟨ok₂, ⟨kx.co.F, kx.co.glo, kx.co.names⟩, kx.hc, rfl, rfl⟩
    have rh := rp₂.hold f₂
    have sh₂ : Sh s { s' with heap := h₂, toks := tk₁ } := sh.trans (.heap s' h₂ tk₁)
    refine asgI_sound (X := X.hold h₂ fp wr) (W := W') (st := st') (s := { s' with heap := h₂, toks := tk₁ }) ok₂ kx₂.co kx₂.hc hA rh (hPI.mono le) ((T.holds_bind h').mono (fun a ha s₃ W₃ le₃ rp₃ sh₃ => ?_) fun _ z => z.elim)
    refine hx (X.hold h₂ fp wr) kx₂ body a.2 W₃ s₃ _ _ rp₃ ((T.holds_bind ha).mono (fun g hg s₄ W₄ le₄ rp₄ sh₄ => ?_) fun _ z => z.elim)
    split at hg
    · next e =>
      try rw [e]
      have f₄ := FpOK.after kx.ok f₂ rp₄
      refine ⟨its.length - (i + 1) + 1, by omega, i + 1, g.2, W₄, (le.trans le₃).trans le₄, rp₄.unhold, (sh₂.trans sh₃).trans sh₄, f₄, hlt, rfl, ?_, hg⟩
      exact K.frame _ _ _ hst₂ fun b hb o e => rp₄.z.prot b o (.inr ⟨hb, e⟩)
    · next v' e =>
      try rw [e]
      intro u hu
      exact hR _ _ (hg s₄ W₄ ((le.trans le₃).trans le₄) rp₄.unhold ((sh₂.trans sh₃).trans sh₄) u hu)
  · have hin : i = its.length := Nat.le_antisymm hi (Nat.not_lt.mp hlt)
    subst hin
    rw [List.drop_length] at h'
    refine K.done s' _ _ hst' fun h₁ tk₁ hk₁ => wpAny_execs_nil (hR _ _ ?_)
    exact h' _ W' le (rp'.turn f' hk₁) (sh.trans (.heap s' h₁ tk₁))
end
/-- a source, its iterator made -/
inductive Src (X : Fx) (A : Around) (W : Wd) (st : St) (tg : Expr) (its : List It) (it : Value) (s : Shared) : Prop
  | mk (I : Addr) (fp wr : List Addr) (P Md : Nat → Value → Heap → Prop) (St : Nat → Heap → Prop) (e : it = .ref I) (K : KTurns PW X.w A tg I fp wr its.length P Md St) (hP : ∀ i v h, i < its.length → P i v h → ∃ it, its[i]? = some it ∧ PI W it v h) (hl : ∀ i h, St i h → ∀ b ∈ wr, ∃ o, h.get? b = some o) (h0 : St 0 s.heap) (f : FpOK X W st s.heap fp wr) (g : ∀ (s : Shared) (Q : Value → Shared → Prop) (E : Value → Shared → Prop), St 0 s.heap → Q (.ref I) s → wpAny (model PW X.w) A (pyIter (.ref I)) Q E s) : Src X A W st tg its it s
section
variable {n : Nat} {X : Fx} {A : Around} {C : Cx}
set_option backward.match.sparseCases true in
set_option tactic.hygienic false in
theorem go_plain {W : World} {I : Addr} {o : Obj} {tg : Expr} {v : Value} {s : Shared} {Q : Unit → Shared → Prop} {E : Value → Shared → Prop} {T : String} {vs : Array Value} (ho : s.heap.get? I = some o) (hc : o.cls = .type T) (hd : o.data = .fields vs)
    (hT : ["enumerate", "zip", "dict_itemiterator", "dict_reverseitemiterator", "odict_iterator", "itertools.zip_longest", "itertools.pairwise"].contains T = false) (h : Q () s) : wpAny (model PW W) A (letOwnedTupleGo tg (.ref I) v) Q E s := by
  have key : wpAny (model PW W) A (do
      let (.ref r, .ref a) := ((Value.ref I, v) : Value × Value) | return
      let o ← load r
      match o.cls, o.data with
      | .type n, .fields vs =>
        if ["enumerate", "zip", "dict_itemiterator", "dict_reverseitemiterator", "odict_iterator", "itertools.zip_longest", "itertools.pairwise"].contains n && vs[0]? == some (rawInt a) then
          rule "for.unpacks-the-owned-tuple"
          updateField r 0 .none
      | _, _ => pure () : Sem Unit) Q E s := by
    cases v <;> try exact wpAny_pure h
    refine wpAny_bind (wpAny_load ho ?_)
    rw [hc, hd]
    simp only [hT, Bool.false_and, Bool.false_eq_true, if_false]
    exact wpAny_pure h
  cases tg <;> first | exact key | exact wpAny_pure h
theorem src_seq {W : Wd} {st : St} {s : Shared} {Q : Value → Shared → Prop} {E : Value → Shared → Prop} {v : SV} {u : Value} {l : List SV} {tg : Expr} (ok : FxOK X) (hA : OKA n A) (rp : Rep X W st s.heap) (hv : VR W v u) (e : seqOf st v = some l) (fz : ∀ i, v = .ml i → ∃ l, st.mls[i]? = some (true, l))
    (h : ∀ it s', Src X A W st tg (l.map .one) it s' → Rep X W st s'.heap → Sh s s' → (∀ b o, s.heap.get? b = some o → s'.heap.get? b = some o) → Q it s') : wpAny (model PW X.w) A (pyIter u) Q E s := by
  obtain ⟨a, o, items, rfl, g, z, y⟩ := seq_at rp hv e
  have fact : W.H a o ∨ W.HL a o := by
    cases v <;> (try exact none_neQ e)
    · simp only [VR] at hv; obtain ⟨a', o', it', e1, e2, _⟩ := hv; cases e1; have := rp.z.sub _ _ e2; rw [g] at this; cases this; exact .inl e2
    · simp only [VR] at hv; obtain ⟨a', o', it', e1, e2, _⟩ := hv; cases e1; have := rp.z.sub _ _ e2; rw [g] at this; cases this; exact .inl e2
    · simp only [VR] at hv; obtain ⟨a', o', it', e1, e2, _⟩ := hv; cases e1; have := rp.z.subL _ _ e2; rw [g] at this; cases this; exact .inr e2
    · next i =>
      obtain ⟨l', q⟩ := fz i rfl
      simp only [VR] at hv
      obtain ⟨a', e1, e2⟩ := hv
      cases e1
      obtain ⟨c, hc, d⟩ := rp.l.at_ _ _ _ q
      rw [e2] at hc
      cases hc
      obtain ⟨o', it', g', _, _, w⟩ := d.at_
      rw [g] at g'
      cases g'
      exact .inr (w rfl)
  have ap : ∀ b, Own X W b → a ≠ b := fun b q e => by
    rcases fact with f | f
    · exact (q.2 o).2.1 (e ▸ f)
    · exact (q.2 o).2.2 (e ▸ f)
  have aPT : a ≠ PT := fun e => by
    rcases fact with f | f
    · exact (rp.z.npt o).2.1 (e ▸ f)
    · exact (rp.z.npt o).2.2 (e ▸ f)
  have notCell : ∀ x, X.cs.lookup x ≠ some a := fun x q => by
    obtain ⟨_, _, v', o', g', d'⟩ := rp.c.own x a q
    rw [g] at g'
    cases g'
    rcases y with ⟨k, y⟩ | ⟨_, _, k, y⟩
    · rw [y] at d'; cases d'
    · rw [y] at d'; cases d'
  have alt : @LT.lt Nat _ a s.heap.objs.size := Heap.lt_size g
  have aI : a ≠ s.heap.objs.size := Nat.ne_of_lt alt
  have fpok : ∀ (h' : Heap), (∀ b o, s.heap.get? b = some o → h'.get? b = some o) → (∃ o, h'.get? s.heap.objs.size = some o) → FpOK X W st h' [s.heap.objs.size, a] [s.heap.objs.size] := fun h' hk hI => by
    have nn := rp.z.none_of (fresh_none (h := s.heap) (Nat.le_refl _))
    have exI : ∀ {b o}, s.heap.get? b = some o → b ≠ s.heap.objs.size := fun e => Nat.ne_of_lt (Heap.lt_size e)
    have iL : s.heap.objs.size ≠ X.L := by
      obtain ⟨m, hm, _⟩ := rp.n.ns
      obtain ⟨o', e'⟩ := Ns_some hm
      exact (exI e').symm
    have iC : ∀ x, X.cs.lookup x ≠ some s.heap.objs.size := fun x q => by
      obtain ⟨_, _, v, o', e', _⟩ := rp.c.own x _ q
      exact exI e' rfl
    have iE : ∀ i : Nat, W.eta[i]? ≠ some s.heap.objs.size := fun i e => by
      have hlt : i < st.mls.length := rp.l.len ▸ (List.getElem?_eq_some_iff.mp e).1
      obtain ⟨c, hc, d⟩ := rp.l.at_ i (st.mls[i]).1 (st.mls[i]).2 (List.getElem?_eq_getElem hlt)
      rw [e] at hc
      cases hc
      obtain ⟨o, _, q, _⟩ := d.at_
      exact exI q rfl
    have two : ∀ {p : Addr → Prop}, p s.heap.objs.size → p a → ∀ b ∈ [s.heap.objs.size, a], p b := fun h1 h2 b hb => by
      rcases List.mem_cons.mp hb with rfl | hb
      · exact h1
      · rw [List.mem_singleton.mp hb]; exact h2
    refine ⟨fun b hb => by rw [List.mem_singleton.mp hb]; simp, two hI ⟨o, hk _ _ g⟩, two nn.2.1 aPT, two iL (ap _ rp.n.own), two iC notCell, two (fun i l _ => iE i) (fun i l q e => ?_), fun b hb => ?_⟩
    · obtain ⟨c, hc, d⟩ := rp.l.at_ i false l q
      rw [e] at hc
      cases hc
      exact ap a (d.own rfl) rfl
    · rw [List.mem_singleton.mp hb]
      exact ⟨⟨nn.1, nn.2.2⟩, iL, iC, iE⟩
  have hlen : items.size = (l.map It.one).length := by rw [← Array.length_toList, z.length, List.length_map]
  have hPI : ∀ i v (h : Heap), items[i]? = some v → ∃ it, (l.map It.one)[i]? = some it ∧ PI W it v h := fun i v h q => by
    rw [← Array.getElem?_toList] at q
    have hlt : i < l.length := by rw [← z.length]; exact (List.getElem?_eq_some_iff.mp q).1
    obtain ⟨v', hv', vr⟩ := z.get (List.getElem?_eq_getElem hlt)
    rw [q] at hv'
    cases hv'
    exact ⟨.one l[i], by rw [List.getElem?_map, List.getElem?_eq_getElem hlt]; rfl, vr⟩
  rcases y with y | y
  · refine wpAny_pyIter_list (y.is g) ?_
    have hk : ∀ b o', s.heap.get? b = some o' → (s.heap.push { cls := .type "list_iterator", data := .fields #[.ref a, .int 0 0] }).get? b = some o' := fun b o' e => Heap.get?_push_of_some _ e
    have KT := KTurns.ofWalks (target := tg) (Walks.list (prog := PW) (w := X.w) hA.h s.heap.objs.size a aI items) (fun i v s' Q E st' hQ => by
      obtain ⟨⟨o', g1, g2, g3⟩, _⟩ := st'
      exact go_plain g1 g2 g3 (by decide) hQ)
    rw [hlen] at KT
    refine h _ _ ⟨s.heap.objs.size, [s.heap.objs.size, a], [s.heap.objs.size], _, _, _, rfl, KT, fun i v h' _ q => hPI i v h' q, fun i h' st' b hb => ?_, ⟨⟨_, Heap.get?_push_size _ rfl, rfl, rfl⟩, (y.is g).push _⟩, fpok _ hk ⟨_, Heap.get?_push_size _ rfl⟩, fun s' Q E st' hQ => (Walks.list hA.h s.heap.objs.size a aI items).self 0 s' Q E st' hQ⟩ (rp.grow hk) (.heap s _ s.toks) hk
    · obtain ⟨⟨o', g1, _⟩, _⟩ := st'
      rw [List.mem_singleton.mp hb]; exact ⟨o', g1⟩
  · refine wpAny_pyIter_tuple (y.is g) ?_
    have hk : ∀ b o', s.heap.get? b = some o' → (s.heap.push { cls := .type "tuple_iterator", data := .fields #[.ref a, .int 0 0] }).get? b = some o' := fun b o' e => Heap.get?_push_of_some _ e
    have KT := KTurns.ofWalks (target := tg) (Walks.tuple (prog := PW) (w := X.w) hA.h s.heap.objs.size a aI items) (fun i v s' Q E st' hQ => by
      obtain ⟨⟨o', g1, g2, g3⟩, _⟩ := st'
      exact go_plain g1 g2 g3 (by decide) hQ)
    rw [hlen] at KT
    refine h _ _ ⟨s.heap.objs.size, [s.heap.objs.size, a], [s.heap.objs.size], _, _, _, rfl, KT, fun i v h' _ q => hPI i v h' q, fun i h' st' b hb => ?_, ⟨⟨_, Heap.get?_push_size _ rfl, rfl, rfl⟩, (show s.heap.IsTuple a items from y.is g).push _⟩, fpok _ hk ⟨_, Heap.get?_push_size _ rfl⟩, fun s' Q E st' hQ => (Walks.tuple hA.h s.heap.objs.size a aI items).self 0 s' Q E st' hQ⟩ (rp.grow hk) (.heap s _ s.toks) hk
    · obtain ⟨⟨o', g1, _⟩, _⟩ := st'
      rw [List.mem_singleton.mp hb]; exact ⟨o', g1⟩
end
noncomputable def rngIts (a c : Int) : Nat → Nat → List It
  | 0, _ => []
  | n + 1, i => .one (.num (a + (i : Int) * c)) :: rngIts a c n (i + 1)
set_option tactic.hygienic false in
theorem rngIts_len {a c : Int} : ∀ {n i : Nat}, (rngIts a c n i).length = n
  | 0, _ => rfl
  | n + 1, i => by rw [rngIts, List.length_cons, rngIts_len]
set_option tactic.hygienic false in
theorem rngIts_get {a c : Int} : ∀ {n i j : Nat}, j < n → (rngIts a c n i)[j]? = some (.one (.num (a + ((i + j : Nat) : Int) * c)))
  | 0, _, _, h => absurd h (Nat.not_lt_zero _)
  | n + 1, i, 0, _ => by rw [rngIts]; rfl
  | n + 1, i, j + 1, h => by
    rw [rngIts, List.getElem?_cons_succ, rngIts_get (Nat.lt_of_succ_lt_succ h), show i + 1 + j = i + (j + 1) by omega]
set_option tactic.hygienic false in
/-- one fresh object of a source -/
theorem fp_one {X : Fx} {W : Wd} {st : St} {h h' : Heap} (rp : Rep X W st h) (hI : ∃ o, h'.get? h.objs.size = some o) : FpOK X W st h' [h.objs.size] [h.objs.size] := by
  have nn := rp.z.none_of (fresh_none (h := h) (Nat.le_refl _))
  have exI : ∀ {b o}, h.get? b = some o → b ≠ h.objs.size := fun e => Nat.ne_of_lt (Heap.lt_size e)
  have iL : h.objs.size ≠ X.L := by
    obtain ⟨m, hm, _⟩ := rp.n.ns
    obtain ⟨o', e'⟩ := Ns_some hm
    exact (exI e').symm
  have iC : ∀ x, X.cs.lookup x ≠ some h.objs.size := fun x q => by
    obtain ⟨_, _, v, o', e', _⟩ := rp.c.own x _ q
    exact exI e' rfl
  have iE : ∀ i : Nat, W.eta[i]? ≠ some h.objs.size := fun i e => by
    have hlt : i < st.mls.length := rp.l.len ▸ (List.getElem?_eq_some_iff.mp e).1
    obtain ⟨c, hc, d⟩ := rp.l.at_ i (st.mls[i]).1 (st.mls[i]).2 (List.getElem?_eq_getElem hlt)
    rw [e] at hc
    cases hc
    obtain ⟨o, _, q, _⟩ := d.at_
    exact exI q rfl
  have one : ∀ {p : Addr → Prop}, p h.objs.size → ∀ b ∈ [h.objs.size], p b := fun h1 b hb => by rw [List.mem_singleton.mp hb]; exact h1
  exact ⟨fun b hb => hb, one hI, one nn.2.1, one iL, one iC, one fun i l _ => iE i, one ⟨⟨nn.1, nn.2.2⟩, iL, iC, iE⟩⟩
set_option tactic.hygienic false in
theorem src_rng {n : Nat} {X : Fx} {A : Around} {W : Wd} {st : St} {s : Shared} {Q : Value → Shared → Prop} {E : Value → Shared → Prop} {a b c : Int} {t u v : Tok} {r : Addr} {k : Nat} {tg : Expr} (hA : OKA n A) (rp : Rep X W st s.heap) (hr : IsRange s.heap r a b c t u v) (hs : Builtin.Range.small a b c = true) (hn : Builtin.Range.rangeSize a b c = (k : Int))
    (h : ∀ it s', Src X A W st tg (rngIts a c k 0) it s' → Rep X W st s'.heap → Sh s s' → (∀ b o, s.heap.get? b = some o → s'.heap.get? b = some o) → Q it s') : wpAny (model PW X.w) A (pyIter (.ref r)) Q E s := by
  refine wpAny_pyIter_range hr hs ?_
  rw [hn]
  have hk : ∀ b o', s.heap.get? b = some o' → (s.heap.push { cls := .type "range_iterator", data := .fields #[rawInt a, rawInt (k : Int), rawInt c] }).get? b = some o' := fun b o' e => Heap.get?_push_of_some _ e
  have KT := KTurns.ofWalks (target := tg) (Walks.range (prog := PW) (w := X.w) hA.h s.heap.objs.size a c k) (fun i v s' Q E st' hQ => go_plain st' rfl rfl (by decide) hQ)
  rw [show k = (rngIts a c k 0).length from rngIts_len.symm] at KT
  refine h _ _ ⟨s.heap.objs.size, [s.heap.objs.size], [s.heap.objs.size], _, _, _, rfl, KT, fun i v h' hi q => ?_, fun i h' st' b hb => ?_, ?_, fp_one rp ⟨_, Heap.get?_push_size _ rfl⟩, fun s' Q E st' hQ => ?_⟩ (rp.grow hk) (.heap s _ s.toks) hk
  · obtain ⟨t', rfl⟩ := q
    rw [rngIts_len] at hi
    refine ⟨_, rngIts_get hi, ?_⟩
    show VR W (.num _) _
    simp only [VR]
    exact ⟨t', by rw [Nat.zero_add]⟩
  · rw [List.mem_singleton.mp hb]; exact ⟨_, st'⟩
  · rw [rngIts_len]
    simpa [IsRangeIter] using Heap.get?_push_size s.heap (o := { cls := .type "range_iterator", data := .fields #[rawInt a, rawInt (k : Int), rawInt c] }) rfl
  · exact (Walks.range (prog := PW) (w := X.w) hA.h s.heap.objs.size a c _).self 0 s' Q E st' hQ
end Mine
open PySem.Sem (wp)
namespace Mine
section
variable {A : Around} {E : Value → Shared → Prop} {s : Shared} {w : World}
set_option tactic.hygienic false in
theorem sub_enum' : isSubtype (.type "enumerate") (.type "enumerate") = pure true := by rw [isSubtype_type]; kernel_rfl
set_option tactic.hygienic false in
/-- one draw of a tuple's iterator -/
theorem draw_item {it t : Addr} {i : Nat} {items : Array Value} {x : Value} {Q : Value → Shared → Prop} (hit : s.heap.IsTupleIter it t i) (ht : s.heap.IsTuple t items) (hx : items[i]? = some x)
    (hQ : ∀ h', h'.IsTupleIter it t (i + 1) → Heap.SameBut it s.heap h' → Q x { s with heap := h' }) : wpAny (model PW w) A (Builtin.SmallTypes.nextOf (.ref it)) Q E s := by
  obtain ⟨o, ho, hc, hd⟩ := id hit
  obtain ⟨ol, hol, _, nl, hdl⟩ := ht
  unfold Builtin.SmallTypes.nextOf
  refine wpAny_bind (wpAny_callSpecial?_slot (name := Str.ofString "__next__") hit.typeIs F.slot_tuple_iterator_next
    (wpAny_call_entry F.slot_tuple_iterator_next hit.typeIs F.entry_tuple_iterator_next ?_ (F.args_tuple_iterator_next_1 _)))
  show wpAny _ _ (field (.ref it) 0 >>= _) _ _ s
  refine wpAny_bind (wpAny_field ho hd (x := .ref t) rfl ?_)
  show wpAny _ _ (if (Value.ref t == Value.none) = true then _ else _) _ _ s
  rw [if_neg (show ¬ ((Value.ref t == Value.none) = true) from Bool.false_ne_true)]
  show wpAny _ _ (field (.ref it) 1 >>= _) _ _ s
  refine wpAny_bind (wpAny_field ho hd (x := .int i 0) rfl ?_)
  show wpAny _ _ (seqItems? (.ref t) >>= _) _ _ s
  refine wpAny_bind (wpAny_seqItems hol hdl ?_)
  simp only [Int.toNat_natCast, hx]
  refine wpAny_bind (wpAny_setField ho hd (by simp) (wpAny_pure ⟨x, rfl, wpAny_pure (hQ _ ?_ (Heap.SameBut.update ..))⟩))
  exact ⟨_, Heap.get?_update_self _ ho (Obj.isFreed_of_fields (Obj.data_mapFields hd _)), (Obj.cls_mapFields ..).trans hc, by
    rw [Obj.data_mapFields hd]; simp [rawInt]⟩
set_option tactic.hygienic false in
theorem draw_end {it t : Addr} {i : Nat} {items : Array Value} {Q : Value → Shared → Prop} (hh : A.handled = none) (hit : s.heap.IsTupleIter it t i) (ht : s.heap.IsTuple t items) (hx : items[i]? = none)
    (hE : ∀ h' e, Heap.ExtBut it s.heap h' → (∃ o, h'.get? e = some o ∧ o.cls = .type "StopIteration") → E (.ref e) { s with heap := h' }) : wpAny (model PW w) A (Builtin.SmallTypes.nextOf (.ref it)) Q E s := by
  obtain ⟨o, ho, hc, hd⟩ := id hit
  obtain ⟨ol, hol, _, nl, hdl⟩ := ht
  unfold Builtin.SmallTypes.nextOf
  refine wpAny_bind (wpAny_callSpecial?_slot (name := Str.ofString "__next__") hit.typeIs F.slot_tuple_iterator_next
    (wpAny_call_entry F.slot_tuple_iterator_next hit.typeIs F.entry_tuple_iterator_next ?_ (F.args_tuple_iterator_next_1 _)))
  show wpAny _ _ (field (.ref it) 0 >>= _) _ _ s
  refine wpAny_bind (wpAny_field ho hd (x := .ref t) rfl ?_)
  show wpAny _ _ (if (Value.ref t == Value.none) = true then _ else _) _ _ s
  rw [if_neg (show ¬ ((Value.ref t == Value.none) = true) from Bool.false_ne_true)]
  show wpAny _ _ (field (.ref it) 1 >>= _) _ _ s
  refine wpAny_bind (wpAny_field ho hd (x := .int i 0) rfl ?_)
  show wpAny _ _ (seqItems? (.ref t) >>= _) _ _ s
  refine wpAny_bind (wpAny_seqItems hol hdl ?_)
  simp only [Int.toNat_natCast, hx]
  refine wpAny_bind (wpAny_rule (wpAny_bind (wpAny_setField ho hd (by simp) ?_)))
  show wpAny _ _ (newExc (.type "StopIteration") [] >>= _) _ _ _
  refine wpAny_bind ?_
  simp only [newExc, newTuple]
  refine wpAny_bind (wpAny_newObj_type ?_ (by size_fits))
  refine wpAny_bind (m := firstArgMember _ _) (wpAny_of_eq (a := Value.none) (by first | rfl | (simp only [firstArgMember]; rfl)) ?_)
  refine wpAny_newObj_type ?_ (by size_fits)
  simp only [raiseNew]
  refine wpAny_bind (wpAny_handled ?_)
  first | rw [show A.in1.handled = none from hh] | rw [hh]
  refine wpAny_bind (wpAny_pure (wpAny_throw ?_))
  exact hE _ _ (((Heap.SameBut.update ..).extBut.push _).push _) ⟨_, Heap.get?_push_size _ rfl, rfl⟩
set_option tactic.hygienic false in
theorem drawsT (hh : A.handled = none) (it l : Addr) (hne : l ≠ it) (items : Array Value) :
    Draws PW w A it [it, l] items.size (fun i v => items[i]? = some v) (fun i h => h.IsTupleIter it l i ∧ h.IsTuple l items) where
  live := fun _ _ st => let ⟨o, ho, _⟩ := st.1; ⟨o, ho⟩
  frame := fun _ _ _ st hk => ⟨let ⟨o, ho, r⟩ := st.1; ⟨o, hk it (by simp) o ho, r⟩, let ⟨o, ho, r⟩ := st.2; ⟨o, hk l (by simp) o ho, r⟩⟩
  item := fun i s Q E hi st hQ => by
    refine draw_item st.1 st.2 (x := items[i]) (by simp [hi]) fun h' hit' hs' => ?_
    exact hQ _ h' s.toks (by simp [hi]) ⟨hit', st.2.extBut hs'.extBut hne⟩ hs'
  done := fun s Q E st hE => draw_end hh st.1 st.2 (by simp) hE
/-- enumerate of a tuple -/
theorem enum_new (l : Addr) (items : Array Value) (n : Nat) (dct : Option Addr) (sl : Array (Option Value)) :
    Meets (Builtin.«enumerate.__new__» ⟨[.type "enumerate", .ref l], []⟩) (fun _ R s => s.heap.get? l = some { cls := .type "tuple", dict := dct, data := .seq items n, slots := sl } ∧
      R (.ok (.ret (.ref (s.heap.push { cls := .type "tuple_iterator", data := .fields #[.ref l, .int 0 0] }).objs.size)))
        { s with heap := (s.heap.push { cls := .type "tuple_iterator", data := .fields #[.ref l, .int 0 0] }).push { cls := .type "enumerate", data := .fields #[.none, .bool false, .ref s.heap.objs.size, rawInt 0, .none, .none] } }) :=
  .of_wp fun prog w A R s h => by
    obtain ⟨hp, g, d, tk, os⟩ := s; obtain ⟨hl, h⟩ := h
    have hsub := sub_enum'
    have hL : Heap.IsTuple (Shared.heap ⟨hp, g, d, tk, os⟩) l items := ⟨_, hl, rfl, n, rfl⟩
    wp_walk using AutoSeq1.wpAny_loadPart' hl
    refine wpAny_stack_any fun st => wpAny_pure ?_
    split
    · rename_i c _ _ _ _ _
      cases (c == Value.type "enumerate")
      · wp_walk using AutoSeq1.wpAny_loadPart' hl, wpAny_pyIter_tuple hL
        exact ⟨_, rfl, h⟩
      · wp_walk using AutoSeq1.wpAny_loadPart' hl, wpAny_pyIter_tuple hL
        exact ⟨_, rfl, h⟩
    · wp_walk using AutoSeq1.wpAny_loadPart' hl, wpAny_pyIter_tuple hL
      exact ⟨_, rfl, h⟩
set_option tactic.hygienic false in
theorem call_enumT {l : Addr} {items : Array Value} {Q : Value → Shared → Prop} (hL : s.heap.IsTuple l items)
    (h : ∀ h', IsEnum h' (s.heap.objs.size + 1) s.heap.objs.size 0 .none → h'.IsTupleIter s.heap.objs.size l 0 → h'.objs.size = s.heap.objs.size + 2 →
      (∀ b o, s.heap.get? b = some o → h'.get? b = some o) → Q (.ref (s.heap.objs.size + 1)) { s with heap := h' }) :
    wpAny (model PW w) A (call (.type "enumerate") [.ref l]) Q E s := by
  obtain ⟨⟨c, dct, dt, sl⟩, hl, hc, n, hd⟩ := hL
  replace hc : c = .type "tuple" := hc
  replace hd : dt = .seq items n := hd
  subst hc hd
  refine callType_new F.called_enumerate (by decide) (F.typeCall_enumerate_1 _) (F.newCall_enumerate_1 _) (fun obj => F.args_object_init_2 obj _) F.entry_enumerate_new
    (enum_new l items n dct sl) ⟨hl, ?_⟩
  have hz : (s.heap.push { cls := .type "tuple_iterator", data := .fields #[.ref l, .int 0 0] }).objs.size = s.heap.objs.size + 1 := Heap.size_push ..
  show _ ∧ _
  rw [hz]
  have he : IsEnum ((s.heap.push { cls := .type "tuple_iterator", data := .fields #[.ref l, .int 0 0] }).push
      { cls := .type "enumerate", data := .fields #[.none, .bool false, .ref s.heap.objs.size, rawInt 0, .none, .none] }) (s.heap.objs.size + 1) s.heap.objs.size 0 .none := by
    have := Heap.get?_push_size (s.heap.push { cls := .type "tuple_iterator", data := .fields #[.ref l, .int 0 0] })
      (o := { cls := .type "enumerate", data := .fields #[.none, .bool false, .ref s.heap.objs.size, rawInt 0, .none, .none] }) rfl
    rw [hz] at this; exact this
  refine ⟨⟨_, he, rfl⟩, h _ he ⟨_, Heap.get?_push_of_some _ (Heap.get?_push_size _ rfl), rfl, rfl⟩ (by rw [Heap.size_push, hz]) fun b o x => Heap.get?_push_of_some _ (Heap.get?_push_of_some _ x)⟩
end
set_option tactic.hygienic false in
/-- an address is not among the objects that the frame owns: a tuple that stands -/
theorem fp_gen {X : Fx} {W : Wd} {st : St} {h h' : Heap} {fp wr : List Addr} (rp : Rep X W st h) (sub : ∀ b ∈ wr, b ∈ fp) (hw : ∀ b ∈ wr, @LE.le Nat _ h.objs.size b)
    (hf : ∀ b ∈ fp, @LE.le Nat _ h.objs.size b ∨ ∃ o items, W.H b o ∧ TupO o items) (here : ∀ b ∈ fp, ∃ o, h'.get? b = some o) : FpOK X W st h' fp wr := by
  have key : ∀ b ∈ fp, b ≠ PT ∧ b ≠ X.L ∧ (∀ x, X.cs.lookup x ≠ some b) ∧ ∀ (i : Nat) l, st.mls[i]? = some (false, l) → W.eta[i]? ≠ some b := fun b hb => by
    rcases hf b hb with g | ⟨o, items, f, y⟩
    · have fr := fresh_none g
      have u := rp.untr fr
      exact ⟨(rp.z.none_of fr).2.1, u.nL, u.nC, fun i _ _ => u.nE i⟩
    · have ap : ∀ c, Own X W c → b ≠ c := fun c q e => (q.2 o).2.1 (e ▸ f)
      refine ⟨fun e => (rp.z.npt o).2.1 (e ▸ f), ap _ rp.n.own, fun x q => ?_, fun i l q e => ?_⟩
      · obtain ⟨_, _, v', o', g', d'⟩ := rp.c.own x b q
        have g := rp.z.sub _ _ f
        rw [g] at g'
        cases g'
        obtain ⟨_, _, k, y⟩ := y
        rw [y] at d'; cases d'
      · obtain ⟨c, hc, d⟩ := rp.l.at_ i false l q
        rw [e] at hc
        cases hc
        exact ap b (d.own rfl) rfl
  exact ⟨sub, here, fun b hb => (key b hb).1, fun b hb => (key b hb).2.1, fun b hb => (key b hb).2.2.1, fun b hb => (key b hb).2.2.2, fun b hb => rp.untr (fresh_none (hw b hb))⟩
noncomputable def enumIts : List SV → Nat → List It
  | [], _ => []
  | x :: r, i => .two (.num (i : Int)) x :: enumIts r (i + 1)
set_option tactic.hygienic false in
theorem enumIts_len : ∀ {l : List SV} {i : Nat}, (enumIts l i).length = l.length
  | [], _ => rfl
  | x :: l, i => by rw [enumIts, List.length_cons, List.length_cons, enumIts_len]
set_option tactic.hygienic false in
theorem enumIts_get : ∀ {l : List SV} {i j : Nat} {x : SV}, l[j]? = some x → (enumIts l i)[j]? = some (.two (.num ((i + j : Nat) : Int)) x)
  | [], _, _, _, h => by simp at h
  | y :: l, i, 0, x, h => by simp at h; subst h; rfl
  | y :: l, i, j + 1, x, h => by
    rw [List.getElem?_cons_succ] at h
    rw [enumIts, List.getElem?_cons_succ, enumIts_get h, show i + 1 + j = i + (j + 1) by omega]
set_option tactic.hygienic false in
theorem src_enum {n : Nat} {X : Fx} {A : Around} {W : Wd} {st : St} {s : Shared} {Q : Value → Shared → Prop} {E : Value → Shared → Prop} {l : List SV} {u : Value} {es : List Expr} {k : Nat} {pos : Pos} (hA : OKA n A) (rp : Rep X W st s.heap) (hv : VR W (.tup l) u)
    (h : ∀ it s', Src X A W st (.Tuple es k pos) (enumIts l 0) it s' → Rep X W st s'.heap → Sh s s' → (∀ b o, s.heap.get? b = some o → s'.heap.get? b = some o) → Q it s') : wpAny (model PW X.w) A (call (.type "enumerate") [u]) (fun v s₁ => wpAny (model PW X.w) A (pyIter v) Q E s₁) E s := by
  simp only [VR] at hv
  obtain ⟨a, o, items, rfl, h1, h2, h3⟩ := hv
  have g := rp.z.sub _ _ h1
  refine call_enumT (h2.is g) fun h' he hi hz hk => ?_
  refine wpAny_pyIter_enum he ?_
  have alt : @LT.lt Nat _ a s.heap.objs.size := Heap.lt_size g
  have D := drawsT (w := X.w) (A := A.in1) hA.h s.heap.objs.size a (Nat.ne_of_lt alt) items
  have W1 := WalksT.enumerateD D (s.heap.objs.size + 1) (Nat.succ_ne_self _) (by simp only [List.mem_cons, List.not_mem_nil, or_false, not_or]; exact ⟨Nat.succ_ne_self _, Nat.ne_of_gt (Nat.lt_succ_of_lt alt)⟩) (by simp)
  have KT := KTurns.ofWalksU (elts := es) (k := k) (pos := pos) W1.toU
  have hlen : items.size = (enumIts l 0).length := by rw [← Array.length_toList, h3.length, enumIts_len]
  rw [hlen] at KT
  refine h _ _ ⟨_, _, _, _, _, _, rfl, KT, fun i v hp hi' q => ?_, fun i hp q b hb => ?_, ⟨⟨_, he⟩, hi, (show s.heap.IsTuple a items from h2.is g).at fun o e => hk _ o e⟩, ?_, fun s' Q E q hQ => ?_⟩ (rp.grow hk) (.heap s h' s.toks) hk
  · obtain ⟨T, vals, rfl, ⟨t, x, q1, rfl⟩, q2⟩ := q
    rw [← Array.getElem?_toList] at q1
    have hlt : i < l.length := by rw [← h3.length]; exact (List.getElem?_eq_some_iff.mp q1).1
    obtain ⟨v', hv', vr⟩ := h3.get (List.getElem?_eq_getElem hlt)
    rw [q1] at hv'
    cases hv'
    refine ⟨_, enumIts_get (List.getElem?_eq_getElem hlt), T, _, _, rfl, q2, ?_, vr⟩
    simp only [VR]
    exact ⟨t, by rw [Nat.zero_add]⟩
  · obtain ⟨⟨old, q1⟩, ⟨o', q2, _⟩, _⟩ := q
    rcases List.mem_cons.mp hb with rfl | hb
    · exact ⟨_, q1⟩
    · rw [List.mem_singleton.mp hb]; exact ⟨_, q2⟩
  · refine fp_gen rp (fun b hb => ?_) (fun b hb => ?_) (fun b hb => ?_) fun b hb => ?_
    · simp at hb ⊢; rcases hb with rfl | rfl <;> simp
    · simp at hb; rcases hb with rfl | rfl <;> omega
    · simp at hb; rcases hb with rfl | rfl | rfl
      · exact .inl (by omega)
      · exact .inl (by omega)
      · exact .inr ⟨o, items, h1, h2⟩
    · simp at hb; rcases hb with rfl | rfl | rfl
      · exact ⟨_, he⟩
      · obtain ⟨o', q, _⟩ := hi; exact ⟨o', q⟩
      · exact ⟨o, hk _ _ g⟩
  · exact W1.self 0 s' Q E q hQ
section
variable {A : Around} {E : Value → Shared → Prop} {s : Shared} {w : World}
/-- the parts of a zip lie apart -/
structure ZA (z TI TO i1 i2 : Addr) (f1 f2 : List Addr) : Prop where
  z1 : z ∉ f1
  z2 : z ∉ f2
  o1 : TO ∉ f1
  o2 : TO ∉ f2
  m1 : i1 ∈ f1
  m2 : i2 ∈ f2
  x1 : i1 ∉ f2
  x2 : i2 ∉ f1
  Iz : TI ≠ z
  IO : TI ≠ TO
  I1 : TI ≠ i1
  I2 : TI ≠ i2
  Oz : TO ≠ z
variable {z TI TO i1 i2 : Addr} {f1 f2 : List Addr} {n i : Nat} {P1 P2 : Nat → Value → Prop} {S1 S2 : Nat → Heap → Prop}
set_option tactic.hygienic false in
theorem zip_item {Q : Value → Shared → Prop} {a b : Value} (D1 : Draws PW w A i1 f1 n P1 S1) (D2 : Draws PW w A i2 f2 n P2 S2) (Z : ZA z TI TO i1 i2 f1 f2) (hlt : i < n)
    (hz : IsZip s.heap z TI TO .none) (hTI : IsPair s.heap TI (.ref i1) (.ref i2)) (hTO : IsPair s.heap TO a b) (h1 : S1 i s.heap) (h2 : S2 i s.heap)
    (hQ : ∀ h' tk x y, P1 i x → P2 i y → IsZip h' z TI TO (rawInt s.heap.objs.size) → IsPair h' TO x y → S1 (i + 1) h' → S2 (i + 1) h' → IsPair h' s.heap.objs.size x y →
      (∀ c o, c ≠ z → c ≠ TO → c ≠ i1 → c ≠ i2 → s.heap.get? c = some o → h'.get? c = some o) → Q (.ref s.heap.objs.size) { s with heap := h', toks := tk }) :
    wpAny (model PW w) A (Builtin.«zip.__next__» ⟨[.ref z], []⟩) (fun fin s' => ∃ v, fin = .done (.ret v) ∧ Q v s') E s := by
  have zi1 : z ≠ i1 := fun e => Z.z1 (e ▸ Z.m1)
  have zi2 : z ≠ i2 := fun e => Z.z2 (e ▸ Z.m2)
  have Oi1 : TO ≠ i1 := fun e => Z.o1 (e ▸ Z.m1)
  have Oi2 : TO ≠ i2 := fun e => Z.o2 (e ▸ Z.m2)
  show wpAny _ _ (field (.ref z) 2 >>= _) _ _ _
  refine wpAny_bind (wpAny_field hz rfl (x := .bool false) rfl ?_)
  show wpAny _ _ (field (.ref z) 3 >>= _) _ _ _
  refine wpAny_bind (wpAny_field hz rfl (x := .ref TI) rfl ?_)
  refine wpAny_bind (wpAny_seqItems hTI rfl ?_)
  show wpAny _ _ (Builtin.SmallTypes.ownedTupleIsFree (.ref z) >>= _) _ _ _
  refine wpAny_bind ?_
  unfold Builtin.SmallTypes.ownedTupleIsFree
  refine wpAny_bind (wpAny_field hz rfl (x := .none) rfl (wpAny_pure ?_))
  simp only [if_true]
  refine wpAny_bind (wpAny_rule ?_)
  refine wpAny_bind (wpAny_field hz rfl (x := .ref TO) rfl ?_)
  refine wpAny_bind (wpAny_setField_rec hz (by simp) fun h₁ hz₁ hs₁ => ?_)
  replace hz₁ : IsZip h₁ z TI TO .ellipsis := hz₁
  refine wpAny_bind ?_
  simp only [List.zipIdx_cons, List.zipIdx_nil, List.forIn_cons, List.forIn_nil]
  refine wpAny_bind (wpAny_bind (wpAny_onRaise ?_))
  show wpAny _ _ (Builtin.SmallTypes.nextOf (.ref i1) >>= _) _ _ _
  refine wpAny_bind (D1.item i _ _ _ hlt (D1.frame _ _ _ h1 fun b hb o e => hs₁.extBut _ _ (fun q => Z.z1 (q ▸ hb)) e) fun x h₂ tk hx h1₂ hs₂ => wpAny_pure ?_)
  replace hs₂ : Heap.SameBut i1 h₁ h₂ := hs₂
  have hTO₂ : IsPair h₂ TO a b := hs₂.extBut _ _ Oi1 (hs₁.extBut _ _ Z.Oz hTO)
  refine wpAny_bind (wpAny_seqItems hTO₂ rfl ?_)
  refine wpAny_bind (wpAny_updateSeq_pair (s := { s with heap := h₂, toks := tk }) hTO₂ fun h₃ hTO₃ hs₃ => ?_)
  replace hTO₃ : IsPair h₃ TO x b := hTO₃
  replace hs₃ : Heap.SameBut TO h₂ h₃ := hs₃
  refine wpAny_bind (wpAny_letGo (wpAny_pure ?_))
  refine wpAny_bind (wpAny_bind (wpAny_onRaise ?_))
  show wpAny _ _ (Builtin.SmallTypes.nextOf (.ref i2) >>= _) _ _ _
  have h2₃ : S2 i h₃ := D2.frame _ _ _ h2 fun b hb o e => hs₃.extBut _ _ (fun q => Z.o2 (q ▸ hb)) (hs₂.extBut _ _ (fun q => Z.x1 (q ▸ hb)) (hs₁.extBut _ _ (fun q => Z.z2 (q ▸ hb)) e))
  refine wpAny_bind (D2.item i _ _ _ hlt h2₃ fun y h₄ tk₂ hy h2₄ hs₄ => wpAny_pure ?_)
  replace hs₄ : Heap.SameBut i2 h₃ h₄ := hs₄
  have hTO₄ : IsPair h₄ TO x b := hs₄.extBut _ _ Oi2 hTO₃
  refine wpAny_bind (wpAny_seqItems hTO₄ rfl ?_)
  refine wpAny_bind (wpAny_updateSeq_pair (s := { s with heap := h₄, toks := tk₂ }) hTO₄ fun h₅ hTO₅ hs₅ => ?_)
  replace hTO₅ : IsPair h₅ TO x y := hTO₅
  replace hs₅ : Heap.SameBut TO h₄ h₅ := hs₅
  refine wpAny_bind (wpAny_letGo (wpAny_pure (wpAny_pure ?_)))
  refine wpAny_bind (wpAny_seqItems hTO₅ rfl ?_)
  refine wpAny_bind (wpAny_newTuple ?_)
  have hsz : h₅.objs.size = s.heap.objs.size := by rw [hs₅.1, hs₄.1, hs₃.1, hs₂.1, hs₁.1]
  have hz₅ : IsZip h₅ z TI TO .ellipsis := hs₅.extBut _ _ Z.Oz.symm (hs₄.extBut _ _ zi2 (hs₃.extBut _ _ Z.Oz.symm (hs₂.extBut _ _ zi1 hz₁)))
  have hk₅ : ∀ c o, c ≠ z → c ≠ TO → c ≠ i1 → c ≠ i2 → s.heap.get? c = some o → h₅.get? c = some o := fun c o c1 c2 c3 c4 e =>
    hs₅.extBut _ _ c2 (hs₄.extBut _ _ c4 (hs₃.extBut _ _ c2 (hs₂.extBut _ _ c3 (hs₁.extBut _ _ c1 e))))
  have h1₅ : S1 (i + 1) h₅ := D1.frame _ _ _ h1₂ fun b hb o e => hs₅.extBut _ _ (fun q => Z.o1 (q ▸ hb)) (hs₄.extBut _ _ (fun q => Z.x2 (q ▸ hb)) (hs₃.extBut _ _ (fun q => Z.o1 (q ▸ hb)) e))
  have h2₅ : S2 (i + 1) h₅ := D2.frame _ _ _ h2₄ fun b hb o e => hs₅.extBut _ _ (fun q => Z.o2 (q ▸ hb)) e
  have hzlt : z < h₅.objs.size := Heap.lt_size hz₅
  show wpAny _ _ (Builtin.SmallTypes.ownedTupleHandOut (.ref z) (.ref h₅.objs.size) >>= _) _ _ _
  refine wpAny_bind ?_
  unfold Builtin.SmallTypes.ownedTupleHandOut
  have hz₆ : IsZip (h₅.push { cls := .type "tuple", data := .seq #[x, y] }) z TI TO .ellipsis := Heap.get?_push_of_some _ hz₅
  refine wpAny_bind (wpAny_setField_rec hz₆ (by simp) fun h₇ hz₇ hs₇ => ?_)
  replace hz₇ : IsZip h₇ z TI TO (rawInt h₅.objs.size) := hz₇
  refine wpAny_setField_rec hz₇ (by simp) fun h₈ hz₈ hs₈ => ?_
  replace hz₈ : IsZip h₈ z TI TO (rawInt h₅.objs.size) := hz₈
  have up : ∀ c o, c ≠ z → h₅.get? c = some o → h₈.get? c = some o := fun c o c1 e => hs₈.extBut _ _ c1 (hs₇.extBut _ _ c1 (Heap.get?_push_of_some _ e))
  have hT₈ : IsPair h₈ h₅.objs.size x y := hs₈.extBut _ _ (Nat.ne_of_gt hzlt) (hs₇.extBut _ _ (Nat.ne_of_gt hzlt) (Heap.get?_push_size _ rfl))
  rw [hsz] at hz₈ hT₈
  refine wpAny_pure ⟨_, rfl, ?_⟩
  show Q (.ref h₅.objs.size) _
  rw [hsz]
  exact hQ h₈ tk₂ x y hx hy hz₈ (up _ _ Z.Oz hTO₅) (D1.frame _ _ _ h1₅ fun b hb o e => up _ o (fun q => Z.z1 (q ▸ hb)) e) (D2.frame _ _ _ h2₅ fun b hb o e => up _ o (fun q => Z.z2 (q ▸ hb)) e) hT₈ fun c o c1 c2 c3 c4 e => up c o c1 (hk₅ c o c1 c2 c3 c4 e)
set_option tactic.hygienic false in
theorem zip_end {Q : Fin → Shared → Prop} (D1 : Draws PW w A i1 f1 n P1 S1) (Z : ZA z TI TO i1 i2 f1 f2)
    (hz : IsZip s.heap z TI TO .none) (hTI : IsPair s.heap TI (.ref i1) (.ref i2)) (h1 : S1 n s.heap)
    (hE : ∀ h' e, (∀ c o, c ≠ z → c ≠ i1 → s.heap.get? c = some o → h'.get? c = some o) → (∃ o, h'.get? e = some o ∧ o.cls = .type "StopIteration") → E (.ref e) { s with heap := h' }) :
    wpAny (model PW w) A (Builtin.«zip.__next__» ⟨[.ref z], []⟩) Q E s := by
  have zi1 : z ≠ i1 := fun e => Z.z1 (e ▸ Z.m1)
  show wpAny _ _ (field (.ref z) 2 >>= _) _ _ _
  refine wpAny_bind (wpAny_field hz rfl (x := .bool false) rfl ?_)
  show wpAny _ _ (field (.ref z) 3 >>= _) _ _ _
  refine wpAny_bind (wpAny_field hz rfl (x := .ref TI) rfl ?_)
  refine wpAny_bind (wpAny_seqItems hTI rfl ?_)
  show wpAny _ _ (Builtin.SmallTypes.ownedTupleIsFree (.ref z) >>= _) _ _ _
  refine wpAny_bind ?_
  unfold Builtin.SmallTypes.ownedTupleIsFree
  refine wpAny_bind (wpAny_field hz rfl (x := .none) rfl (wpAny_pure ?_))
  simp only [if_true]
  refine wpAny_bind (wpAny_rule ?_)
  refine wpAny_bind (wpAny_field hz rfl (x := .ref TO) rfl ?_)
  refine wpAny_bind (wpAny_setField_rec hz (by simp) fun h₁ hz₁ hs₁ => ?_)
  replace hz₁ : IsZip h₁ z TI TO .ellipsis := hz₁
  refine wpAny_bind ?_
  simp only [List.zipIdx_cons, List.zipIdx_nil, List.forIn_cons, List.forIn_nil]
  refine wpAny_bind (wpAny_bind (wpAny_onRaise ?_))
  show wpAny _ _ (Builtin.SmallTypes.nextOf (.ref i1) >>= _) _ _ _
  refine wpAny_bind (D1.done _ _ _ (D1.frame _ _ _ h1 fun b hb o e => hs₁.extBut _ _ (fun q => Z.z1 (q ▸ hb)) e) fun h₂ e hs₂ he => ?_)
  replace hs₂ : Heap.ExtBut i1 h₁ h₂ := hs₂
  obtain ⟨oe, hoe, hce⟩ := he
  have hz₂ : IsZip h₂ z TI TO .ellipsis := hs₂ _ _ zi1 hz₁
  have hez : e ≠ z := fun x => by
    subst x
    have : h₂.get? e = some oe := hoe
    rw [hz₂] at this; cases this; simp at hce
  refine wpAny_setField_rec hz₂ (by simp) fun h₃ _ hs₃ => hE h₃ e (fun c o c1 c3 x => hs₃.extBut _ _ c1 (hs₂ _ _ c3 (hs₁.extBut _ _ c1 x))) ⟨oe, hs₃.extBut _ _ hez hoe, hce⟩
set_option tactic.hygienic false in
theorem walksZ (D1 : Draws PW w A.in1 i1 f1 n P1 S1) (D2 : Draws PW w A.in1 i2 f2 n P2 S2) (Z : ZA z TI TO i1 i2 f1 f2) :
    WalksT PW w A z (z :: TI :: TO :: (f1 ++ f2)) [z, TO, i1, i2] n (fun i vals => ∃ x y, P1 i x ∧ P2 i y ∧ vals = #[x, y])
      (fun i h => IsZip h z TI TO .none ∧ IsPair h TI (.ref i1) (.ref i2) ∧ (∃ a b, IsPair h TO a b) ∧ S1 i h ∧ S2 i h)
      (fun i T h => IsZip h z TI TO (rawInt T) ∧ IsPair h TI (.ref i1) (.ref i2) ∧ (∃ a b, IsPair h TO a b) ∧ S1 (i + 1) h ∧ S2 (i + 1) h ∧ T ≠ z ∧ T ≠ TO ∧ T ≠ i1 ∧ T ≠ i2) where
  sub := fun c hc => by
    simp at hc ⊢
    rcases hc with rfl | rfl | rfl | rfl
    · exact .inl rfl
    · exact .inr (.inr (.inl rfl))
    · exact .inr (.inr (.inr (.inl Z.m1)))
    · exact .inr (.inr (.inr (.inr Z.m2)))
  frame := fun i h h' hst hk => by
    obtain ⟨hz, hTI, ⟨a, b, hTO⟩, h1, h2⟩ := hst
    exact ⟨hk z (by simp) _ hz, hk TI (by simp) _ hTI, ⟨a, b, hk TO (by simp) _ hTO⟩, D1.frame _ _ _ h1 fun b hb o e => hk b (by simp [hb]) o e, D2.frame _ _ _ h2 fun b hb o e => hk b (by simp [hb]) o e⟩
  item := fun i s Q E hi hst hQ => by
    obtain ⟨hz, hTI, ⟨a, b, hTO⟩, h1, h2⟩ := hst
    have hT : s.TypeIs (.ref z) "zip" := ⟨_, hz, rfl⟩
    have lt : ∀ {c o}, s.heap.get? c = some o → s.heap.objs.size ≠ c := fun e => Nat.ne_of_gt (Heap.lt_size e)
    unfold pyNext
    refine wpAny_bind (wpAny_attempt (wpAny_callSpecial?_slot (name := Str.ofString "__next__") hT F.slot_zip_next
      (wpAny_call_entry F.slot_zip_next hT F.entry_zip_next (zip_item D1 D2 Z hi hz hTI hTO h1 h2 fun h' tk x y px py a1 a2 a3 a4 a5 hk => wpAny_pure ?_) (F.args_zip_next_1 _))))
    exact hQ s.heap.objs.size #[x, y] h' tk ⟨_, _, px, py, rfl⟩ (Nat.le_refl _) ⟨_, a5, rfl, _, rfl⟩
      ⟨a1, hk _ _ Z.Iz Z.IO Z.I1 Z.I2 hTI, ⟨_, _, a2⟩, a3, a4, lt hz, lt hTO, let ⟨_, e⟩ := D1.live _ _ h1; lt e, let ⟨_, e⟩ := D2.live _ _ h2; lt e⟩
      fun c o hc e => hk c o (fun x => hc (by simp [x])) (fun x => hc (by simp [x])) (fun x => hc (by simp [x])) (fun x => hc (by simp [x])) e
  go := fun elts k pos i T s Q E hm hQ => by
    obtain ⟨hz, hTI, ⟨a, b, hTO⟩, h1, h2, _⟩ := hm
    refine wpAny_letOwnedTupleGo_zip hz fun h' hz' hs' => hQ h' ⟨hz', hs'.extBut _ _ Z.Iz hTI, ⟨a, b, hs'.extBut _ _ Z.Oz hTO⟩, D1.frame _ _ _ h1 fun b hb o e => hs'.extBut _ _ (fun q => Z.z1 (q ▸ hb)) e,
      D2.frame _ _ _ h2 fun b hb o e => hs'.extBut _ _ (fun q => Z.z2 (q ▸ hb)) e⟩ fun c o hc e => hs'.extBut _ _ (fun x => hc (by simp [x])) e
  apart := fun i T h hm hT => by
    obtain ⟨_, _, _, _, _, t1, t2, t3, t4⟩ := hm
    simp at hT
    rcases hT with rfl | rfl | rfl | rfl
    · exact t1 rfl
    · exact t2 rfl
    · exact t3 rfl
    · exact t4 rfl
  done := fun s Q E hst hQ => by
    obtain ⟨hz, hTI, _, h1, _⟩ := hst
    have hT : s.TypeIs (.ref z) "zip" := ⟨_, hz, rfl⟩
    unfold pyNext
    refine wpAny_bind (wpAny_attempt (wpAny_callSpecial?_slot (name := Str.ofString "__next__") hT F.slot_zip_next
      (wpAny_call_entry F.slot_zip_next hT F.entry_zip_next (zip_end D1 Z hz hTI h1 fun h' e hk he => ?_) (F.args_zip_next_1 _))))
    obtain ⟨o, ho, hc⟩ := he
    refine wpAny_bind (wpAny_isInstance (T := "StopIteration") (b := true) ⟨o, ho, hc⟩ isSubtype_stop ?_)
    exact wpAny_pure (hQ h' s.toks fun c o hc e => hk c o (fun x => hc (by simp [x])) (fun x => hc (by simp [x])) e)
  self := fun i s Q E hst hQ => wpAny_pyIter_zip hst.1 hQ
noncomputable def zT1 (h : Heap) (l1 : Addr) : Heap := h.push { cls := .type "tuple_iterator", data := .fields #[.ref l1, .int 0 0] }
noncomputable def zT2 (h : Heap) (l1 l2 : Addr) : Heap := (zT1 h l1).push { cls := .type "tuple_iterator", data := .fields #[.ref l2, .int 0 0] }
noncomputable def zT3 (h : Heap) (l1 l2 : Addr) : Heap := (zT2 h l1 l2).push { cls := .type "tuple", data := .seq #[.ref h.objs.size, .ref (zT1 h l1).objs.size] }
noncomputable def zT4 (h : Heap) (l1 l2 : Addr) : Heap := (zT3 h l1 l2).push { cls := .type "tuple", data := .seq #[.none, .none] }
noncomputable def zT5 (h : Heap) (l1 l2 : Addr) : Heap := (zT4 h l1 l2).push { cls := .type "zip", data := .fields #[.none, .bool false, .bool false, .ref (zT2 h l1 l2).objs.size, .ref (zT3 h l1 l2).objs.size] }
set_option tactic.hygienic false in
theorem zip_newT (l1 l2 : Addr) (xs ys : Array Value) :
    Meets (Builtin.«zip.__new__» ⟨[.type "zip", .ref l1, .ref l2], []⟩) (fun _ R s => s.heap.IsTuple l1 xs ∧ s.heap.IsTuple l2 ys ∧
      R (.ok (.ret (.ref (zT4 s.heap l1 l2).objs.size))) { s with heap := zT5 s.heap l1 l2 }) :=
  .of_wp fun prog w A R s h => by
    obtain ⟨hp, g, d, tk, os⟩ := s; obtain ⟨hl1, hl2, h⟩ := h
    have hsub := sub_zip
    have hL1 : Heap.IsTuple (Shared.heap ⟨hp, g, d, tk, os⟩) l1 xs := hl1
    have hL2 : Heap.IsTuple (Shared.heap ⟨hp.push { cls := .type "tuple_iterator", data := .fields #[.ref l1, .int 0 0] }, g, d, tk, os⟩) l2 ys := Heap.IsTuple.push hl2 _
    wp_walk using wpAny_pyIter_tuple hL1, wpAny_pyIter_tuple hL2
    exact ⟨_, rfl, h⟩
set_option tactic.hygienic false in
theorem call_zipT {l1 l2 : Addr} {xs ys : Array Value} {Q : Value → Shared → Prop} (hl1 : s.heap.IsTuple l1 xs) (hl2 : s.heap.IsTuple l2 ys)
    (h : ∀ h', IsZip h' (s.heap.objs.size + 4) (s.heap.objs.size + 2) (s.heap.objs.size + 3) .none → IsPair h' (s.heap.objs.size + 2) (.ref s.heap.objs.size) (.ref (s.heap.objs.size + 1)) →
      IsPair h' (s.heap.objs.size + 3) .none .none → h'.IsTupleIter s.heap.objs.size l1 0 → h'.IsTupleIter (s.heap.objs.size + 1) l2 0 →
      (∀ c o, s.heap.get? c = some o → h'.get? c = some o) → Q (.ref (s.heap.objs.size + 4)) { s with heap := h' }) :
    wpAny (model PW w) A (call (.type "zip") [.ref l1, .ref l2]) Q E s := by
  refine callType_new F.called_zip (by decide) (F.typeCall_zip_2 _ _) (F.newCall_zip_2 _ _) (fun obj => F.args_object_init_3 obj _ _) F.entry_zip_new
    (zip_newT l1 l2 xs ys) ⟨hl1, hl2, ?_⟩
  have z1 : (zT1 s.heap l1).objs.size = s.heap.objs.size + 1 := Heap.size_push ..
  have z2 : (zT2 s.heap l1 l2).objs.size = s.heap.objs.size + 2 := by unfold zT2; rw [Heap.size_push, z1]
  have z3 : (zT3 s.heap l1 l2).objs.size = s.heap.objs.size + 3 := by unfold zT3; rw [Heap.size_push, z2]
  have z4 : (zT4 s.heap l1 l2).objs.size = s.heap.objs.size + 4 := by unfold zT4; rw [Heap.size_push, z3]
  have p1 : ∀ c o, s.heap.get? c = some o → (zT1 s.heap l1).get? c = some o := fun c o e => Heap.get?_push_of_some _ e
  have p2 : ∀ c o, (zT1 s.heap l1).get? c = some o → (zT2 s.heap l1 l2).get? c = some o := fun c o e => Heap.get?_push_of_some _ e
  have p3 : ∀ c o, (zT2 s.heap l1 l2).get? c = some o → (zT3 s.heap l1 l2).get? c = some o := fun c o e => Heap.get?_push_of_some _ e
  have p4 : ∀ c o, (zT3 s.heap l1 l2).get? c = some o → (zT4 s.heap l1 l2).get? c = some o := fun c o e => Heap.get?_push_of_some _ e
  have p5 : ∀ c o, (zT4 s.heap l1 l2).get? c = some o → (zT5 s.heap l1 l2).get? c = some o := fun c o e => Heap.get?_push_of_some _ e
  have g5 : (zT5 s.heap l1 l2).get? (zT4 s.heap l1 l2).objs.size = some _ := Heap.get?_push_size _ rfl
  have g4 : (zT5 s.heap l1 l2).get? (zT3 s.heap l1 l2).objs.size = some _ := p5 _ _ (Heap.get?_push_size _ rfl)
  have g3 : (zT5 s.heap l1 l2).get? (zT2 s.heap l1 l2).objs.size = some _ := p5 _ _ (p4 _ _ (Heap.get?_push_size _ rfl))
  have g2 : (zT5 s.heap l1 l2).get? (zT1 s.heap l1).objs.size = some _ := p5 _ _ (p4 _ _ (p3 _ _ (Heap.get?_push_size _ rfl)))
  have g1 : (zT5 s.heap l1 l2).get? s.heap.objs.size = some _ := p5 _ _ (p4 _ _ (p3 _ _ (p2 _ _ (Heap.get?_push_size _ rfl))))
  show _ ∧ _
  rw [z2, z3, z4] at g5
  rw [z1, z2] at g3
  rw [z3] at g4
  rw [z1] at g2
  rw [z4]
  exact ⟨⟨_, g5, rfl⟩, h _ g5 g3 g4 ⟨_, g1, rfl, rfl⟩ ⟨_, g2, rfl, rfl⟩ fun c o x => p5 _ _ (p4 _ _ (p3 _ _ (p2 _ _ (p1 _ _ x))))⟩
end
noncomputable def zipIts : List SV → List SV → List It
  | x :: a, y :: b => .two x y :: zipIts a b
  | _, _ => []
set_option tactic.hygienic false in
theorem zipIts_len : ∀ {l m : List SV}, l.length = m.length → (zipIts l m).length = l.length
  | [], [], _ => rfl
  | x :: l, y :: m, h => by rw [zipIts, List.length_cons, List.length_cons, zipIts_len (Nat.succ.inj h)]
set_option tactic.hygienic false in
theorem zipIts_get : ∀ {l m : List SV} {j : Nat} {x y : SV}, l[j]? = some x → m[j]? = some y → (zipIts l m)[j]? = some (.two x y)
  | [], _, _, _, _, h, _ => by simp at h
  | _ :: _, [], _, _, _, _, h => by simp at h
  | a :: l, b :: m, 0, x, y, h, h' => by simp at h h'; subst h; subst h'; rfl
  | a :: l, b :: m, j + 1, x, y, h, h' => by
    rw [List.getElem?_cons_succ] at h h'
    rw [zipIts, List.getElem?_cons_succ, zipIts_get h h']
set_option tactic.hygienic false in
theorem za_of (q a b : Nat) (h : a < q) (h' : b < q) : ZA (q + 4) (q + 2) (q + 3) q (q + 1) [q, a] [q + 1, b] := by
  have m : ∀ {x y z : Nat}, x ≠ y → x ≠ z → x ∉ [y, z] := fun h1 h2 h => by
    rcases List.mem_cons.mp h with e | h
    · exact h1 e
    · exact h2 (List.mem_singleton.mp h)
  exact ⟨m (by omega) (by omega), m (by omega) (by omega), m (by omega) (by omega), m (by omega) (by omega), List.mem_cons_self, List.mem_cons_self, m (by omega) (by omega), m (by omega) (by omega),
    show (q + 2 : Nat) ≠ q + 4 by omega, show (q + 2 : Nat) ≠ q + 3 by omega, show (q + 2 : Nat) ≠ q by omega, show (q + 2 : Nat) ≠ q + 1 by omega, show (q + 3 : Nat) ≠ q + 4 by omega⟩
set_option tactic.hygienic false in
theorem src_zip {n : Nat} {X : Fx} {A : Around} {W : Wd} {st : St} {s : Shared} {Q : Value → Shared → Prop} {E : Value → Shared → Prop} {l l' : List SV} {u u' : Value} {es : List Expr} {k : Nat} {pos : Pos} (hA : OKA n A) (rp : Rep X W st s.heap) (hv : VR W (.tup l) u) (hv' : VR W (.tup l') u') (hl : l.length = l'.length)
    (h : ∀ it s', Src X A W st (.Tuple es k pos) (zipIts l l') it s' → Rep X W st s'.heap → Sh s s' → (∀ b o, s.heap.get? b = some o → s'.heap.get? b = some o) → Q it s') : wpAny (model PW X.w) A (call (.type "zip") [u, u']) (fun v s₁ => wpAny (model PW X.w) A (pyIter v) Q E s₁) E s := by
  simp only [VR] at hv hv'
  obtain ⟨a, o, items, rfl, h1, h2, h3⟩ := hv
  obtain ⟨a', o', items', rfl, h1', h2', h3'⟩ := hv'
  have g := rp.z.sub _ _ h1
  have g' := rp.z.sub _ _ h1'
  refine call_zipT (h2.is g) (h2'.is g') fun h' hz hTI hTO i1 i2 hk => ?_
  refine wpAny_pyIter_zip hz ?_
  have alt : @LT.lt Nat _ a s.heap.objs.size := Heap.lt_size g
  have alt' : @LT.lt Nat _ a' s.heap.objs.size := Heap.lt_size g'
  have hll : items'.size = items.size := by rw [← Array.length_toList, h3'.length, ← hl, ← h3.length, Array.length_toList]
  have D1 := drawsT (w := X.w) (A := A.in1) hA.h s.heap.objs.size a (Nat.ne_of_lt alt) items
  have D2 := drawsT (w := X.w) (A := A.in1) hA.h (s.heap.objs.size + 1) a' (Nat.ne_of_lt (Nat.lt_succ_of_lt alt')) items'
  rw [hll] at D2
  have Z := za_of s.heap.objs.size a a' alt alt'
  have W1 := walksZ (w := X.w) (A := A) D1 D2 Z
  have KT := KTurns.ofWalksU (elts := es) (k := k) (pos := pos) W1.toU
  have hlen : items.size = (zipIts l l').length := by rw [← Array.length_toList, h3.length, zipIts_len hl]
  rw [hlen] at KT
  refine h _ _ ⟨_, _, _, _, _, _, rfl, KT, fun i v hp hi' q => ?_, fun i hp q b hb => ?_, ⟨hz, hTI, ⟨_, _, hTO⟩, ⟨i1, (show s.heap.IsTuple a items from h2.is g).at fun o e => hk _ o e⟩, i2, (show s.heap.IsTuple a' items' from h2'.is g').at fun o e => hk _ o e⟩, ?_, fun s' Q E q hQ => ?_⟩ (rp.grow hk) (.heap s h' s.toks) hk
  · obtain ⟨T, vals, rfl, ⟨x, y, q1, q1', rfl⟩, q2⟩ := q
    rw [← Array.getElem?_toList] at q1 q1'
    have hlt : i < l.length := by rw [← h3.length]; exact (List.getElem?_eq_some_iff.mp q1).1
    obtain ⟨v', hv', vr⟩ := h3.get (List.getElem?_eq_getElem hlt)
    rw [q1] at hv'
    cases hv'
    obtain ⟨v', hv', vr'⟩ := h3'.get (List.getElem?_eq_getElem (hl ▸ hlt))
    rw [q1'] at hv'
    cases hv'
    exact ⟨_, zipIts_get (List.getElem?_eq_getElem hlt) (List.getElem?_eq_getElem (hl ▸ hlt)), T, _, _, rfl, q2, vr, vr'⟩
  · obtain ⟨q1, _, ⟨_, _, q2⟩, ⟨⟨o1, q3, _⟩, _⟩, ⟨o2, q4, _⟩, _⟩ := q
    simp only [List.mem_cons, List.not_mem_nil, or_false] at hb
    rcases hb with rfl | rfl | rfl | rfl
    · exact ⟨_, q1⟩
    · exact ⟨_, q2⟩
    · exact ⟨_, q3⟩
    · exact ⟨_, q4⟩
  · have all : ∀ b ∈ ((s.heap.objs.size + 4) :: (s.heap.objs.size + 2) :: (s.heap.objs.size + 3) :: ([s.heap.objs.size, a] ++ [s.heap.objs.size + 1, a']) : List Addr), b = s.heap.objs.size + 4 ∨ b = s.heap.objs.size + 2 ∨ b = s.heap.objs.size + 3 ∨ b = s.heap.objs.size ∨ b = a ∨ b = s.heap.objs.size + 1 ∨ b = a' := fun b hb => by
      simpa using hb
    refine fp_gen rp W1.sub (fun b hb => ?_) (fun b hb => ?_) fun b hb => ?_
    · simp only [List.mem_cons, List.not_mem_nil, or_false] at hb; rcases hb with rfl | rfl | rfl | rfl <;> omega
    · rcases all b hb with rfl | rfl | rfl | rfl | rfl | rfl | rfl
      · exact .inl (Nat.le_add_right _ _)
      · exact .inl (Nat.le_add_right _ _)
      · exact .inl (Nat.le_add_right _ _)
      · exact .inl (Nat.le_refl _)
      · exact .inr ⟨o, items, h1, h2⟩
      · exact .inl (Nat.le_add_right _ _)
      · exact .inr ⟨o', items', h1', h2'⟩
    · rcases all b hb with rfl | rfl | rfl | rfl | rfl | rfl | rfl
      · exact ⟨_, hz⟩
      · exact ⟨_, hTI⟩
      · exact ⟨_, hTO⟩
      · obtain ⟨o', q, _⟩ := i1; exact ⟨o', q⟩
      · exact ⟨o, hk _ _ g⟩
      · obtain ⟨o', q, _⟩ := i2; exact ⟨o', q⟩
      · exact ⟨o', hk _ _ g'⟩
  · exact W1.self 0 s' Q E q hQ
noncomputable def isTupT : Expr → Bool
  | .Tuple _ _ _ => true
  | _ => false
set_option tactic.hygienic false in
theorem hold {G : Prop} (h : ∀ P : Prop, (G → P) → P) : G := h G id
noncomputable def nmCl : Expr → Option (Str × List Expr)
  | .Call f args kws _ => match f with
    | .Name x _ => match kws with
      | [] => some (x, args)
      | _ :: _ => none
    | _ => none
  | _ => none
theorem nmCl_form {x : Expr} {r : Str × List Expr} (h : nmCl x = some r) : ∃ p pos, x = .Call (.Name r.1 p) r.2 [] pos := by
  refine hold fun P hP => ?_
  cases x <;> (try exact none_neQ h)
  rename_i f args kws pos
  cases f <;> (try exact none_neQ h)
  cases kws <;> (try exact none_neQ h)
  rw [← Option.some.inj h] at hP
  exact hP ⟨_, _, rfl⟩
noncomputable def oneX : List Expr → Option Expr
  | [y] => some y
  | _ => none
set_option tactic.hygienic false in
theorem oneX_eq {l : List Expr} {y : Expr} (h : oneX l = some y) : l = [y] := by
  rcases l with _ | ⟨o, _ | ⟨_, _⟩⟩ <;> (try exact none_neQ h)
  rw [Option.some.inj h]
/-- a call of a name: the name and the arguments -/
noncomputable def nmCall (x : Expr) : Option (Str × List Expr) := match nmCl x with
  | some r => match noStar r.2 with
    | true => some r
    | false => none
  | none => none
noncomputable def isSrc : Bi → Bool
  | .range => true
  | .enumerate => true
  | .zip => true
  | _ => false
noncomputable def biT : TS SV → Option Bi
  | .ret a => match a.1 with
    | .bi b => match isSrc b with
      | true => some b
      | false => none
    | _ => none
  | _ => none
/-- a built-in that makes a source -/
noncomputable def srcBi (C : Cx) (st : St) (x : Expr) : Option (Bi × List Expr) := match nmCall x with
  | some r => match biT (nameV C r.1 st) with
    | some b => some (b, r.2)
    | none => none
  | none => none
noncomputable def numQ : SV → Option Int
  | .num n => some n
  | _ => none
set_option tactic.hygienic false in
theorem numQ_eq {v : SV} {n : Int} (h : numQ v = some n) : v = .num n := by
  cases v <;> (try exact none_neQ h)
  rw [Option.some.inj h]
noncomputable def tupR : SV → Option (List SV)
  | .tup l => some l
  | _ => none
set_option tactic.hygienic false in
theorem tupR_eq {v : SV} {l : List SV} (h : tupR v = some l) : v = .tup l := by
  cases v <;> (try exact none_neQ h)
  rw [Option.some.inj h]
noncomputable def rng1 (v : SV) : Option (List It) := match numQ v with
  | some n => match decide (-1000 < n) && decide (n < 1000) with
    | true => some (rngIts 0 1 n.toNat 0)
    | false => none
  | none => none
noncomputable def rng3 (u v w : SV) : Option (List It) := match numQ u with
  | some a => match numQ v with
    | some b => match numQ w with
      | some c => match Builtin.Range.small a b c && !(Builtin.divisionGoesByPylong (b - a) c) && decide (c ≠ 0) && decide (Builtin.Range.rangeSize a b c = ((Builtin.Range.rangeSize a b c).toNat : Int)) with
        | true => some (rngIts a c (Builtin.Range.rangeSize a b c).toNat 0)
        | false => none
      | none => none
    | none => none
  | none => none
noncomputable def rngOf : List SV → Option (List It)
  | [v] => rng1 v
  | [u, v, w] => rng3 u v w
  | _ => none
noncomputable def en1 (v : SV) : Option (List It) := match tupR v with
  | some l => some (enumIts l 0)
  | none => none
noncomputable def zip2 (v w : SV) : Option (List It) := match tupR v with
  | some l => match tupR w with
    | some l' => match Nat.beq l.length l'.length with
      | true => some (zipIts l l')
      | false => none
    | none => none
  | none => none
noncomputable def mkEn : List SV → Option (List It)
  | [v] => en1 v
  | _ => none
noncomputable def mkZi : List SV → Option (List It)
  | [v, w] => zip2 v w
  | _ => none
noncomputable def mkIts (tg : Expr) (b : Bi) (args : List SV) : Option (List It) := match b with
  | .range => rngOf args
  | .enumerate => match isTupT tg with
    | true => mkEn args
    | false => none
  | .zip => match isTupT tg with
    | true => mkZi args
    | false => none
  | _ => none
/-- what a source hands on -/
noncomputable def itE (C : Cx) (r : Ev) (tg x : Expr) (st : St) : TS (List It) := match srcBi C st x with
  | some (b, args) => match args with
    | [] => .stuck
    | _ :: _ => (evL r args st).bind fun a => match mkIts tg b a.1 with
      | some l => .ret (l, a.2)
      | none => .stuck
  | none => (r.e x st).bind fun a => match seqOf a.2 a.1 with
    | some l => .ret (l.map .one, froz a.2 a.1)
    | none => .stuck
set_option tactic.hygienic false in
theorem froz_seq {st : St} {v : SV} {l : List SV} (e : seqOf st v = some l) : seqOf (froz st v) v = some l ∧ ∀ i, v = .ml i → ∃ l, (froz st v).mls[i]? = some (true, l) := by
  cases v with
  | ml i =>
    dsimp only [seqOf, froz] at e ⊢
    rcases q : st.mls[i]? with _ | p
    · rw [q] at e; exact none_neQ e
    ·
      rw [q] at e
      obtain rfl := Option.some.inj e
      have g : (st.mls.set i (true, p.2))[i]? = some (true, p.2) := List.getElem?_set_self (List.getElem?_eq_some_iff.mp q).1
      refine ⟨?_, fun j hj => ?_⟩
      · dsimp only; rw [g]
      · cases hj; exact ⟨p.2, g⟩
  | _ => exact ⟨e, fun _ q => nomatch q⟩
set_option tactic.hygienic false in
theorem isTupT_form {x : Expr} (h : isTupT x = true) : ∃ es k pos, x = .Tuple es k pos := by
  cases x <;> first | exact ⟨_, _, _, rfl⟩ | cases h
set_option tactic.hygienic false in
theorem nmCall_form {x : Expr} {r : Str × List Expr} (h : nmCall x = some r) : ∃ p pos, x = .Call (.Name r.1 p) r.2 [] pos ∧ noStar r.2 = true := by
  unfold nmCall at h
  rcases e : nmCl x with _ | q
  · rw [e] at h; exact none_neQ h
  ·
    rw [e] at h
    dsimp only at h
    rcases e2 : noStar q.2 with _ | _
    · rw [e2] at h; exact none_neQ h
    ·
      rw [e2] at h
      obtain rfl := Option.some.inj h
      obtain ⟨p, pos, hx⟩ := nmCl_form e
      exact ⟨p, pos, hx, e2⟩
section
variable {n : Nat} {X : Fx} {A : Around} {C : Cx} {r : Ev}
theorem mkIts_sound {tg : Expr} {b : Bi} {args : List SV} {l : List It} {us : List Value} {W : Wd} {st : St} {s : Shared} {E : Value → Shared → Prop} {K : Value → Shared → Prop} (hA : OKA n A) (rp : Rep X W st s.heap) (hv : VRs W args us) (e : mkIts tg b args = some l)
    (h : ∀ s' it, Rep X W st s'.heap → Sh s s' → Src X A W st tg l it s' → K it s') : wpAny (model PW X.w) A (call b.val us) (fun v s₁ => wpAny (model PW X.w) A (pyIter v) K E s₁) E s := by
  have two : ∀ {x : SV} {r : List SV}, VRs W (x :: r) us → ∃ v rs, us = v :: rs ∧ VR W x v ∧ VRs W r rs := fun h => by simp only [VRs] at h; obtain ⟨v, r, e, p, q⟩ := h; exact ⟨v, r, e, p, q⟩
  cases b <;> (try exact none_neQ e)
  case range =>
    replace e : rngOf args = some l := e
    have grow : ∀ {o : Obj} {tk : Nat}, o.isFreed = false → Rep X W st (s.heap.push o) ∧ Sh s { s with heap := s.heap.push o, toks := tk } := fun _ => ⟨rp.grow fun b o e => Heap.get?_push_of_some _ e, .heap s _ _⟩
    rcases args with _ | ⟨u1, _ | ⟨u2, _ | ⟨u3, _ | ⟨_, _⟩⟩⟩⟩ <;> (try exact none_neQ e)
    · replace e : rng1 u1 = some l := e
      unfold rng1 at e
      rcases e1 : numQ u1 with _ | m
      · rw [e1] at e; exact none_neQ e
      rw [e1] at e
      dsimp only at e
      rcases q : decide (-1000 < m) && decide (m < 1000) with _ | _
      · rw [q] at e; exact none_neQ e
      ·
        rw [q] at e
        obtain rfl := Option.some.inj e
        obtain rfl := numQ_eq e1
        simp only [Bool.and_eq_true, decide_eq_true_eq] at q
        obtain ⟨v, rs, rfl, h1, h2⟩ := two hv
        simp only [VRs] at h2
        subst h2
        simp only [VR] at h1
        obtain ⟨t, rfl⟩ := h1
        refine call_range_1 ?_
        refine src_rng (n := n) (X := X) (tg := tg) (W := W) (st := st) (k := m.toNat) hA (rp.grow fun b o e => Heap.get?_push_of_some _ e) (IsRange.new _ _ _ _ _ _ _) (small_one (by omega) (by omega) (by omega) (by omega)) (by rw [rangeSize_one]; split <;> omega) ?_
        intro it s' hS rp' sh hk
        exact h s' it rp' ((Sh.heap s _ _).trans sh) hS
    · replace e : rng3 u1 u2 u3 = some l := e
      unfold rng3 at e
      cases e1 : numQ u1 with
      | none => rw [e1] at e; exact none_neQ e
      | some a =>
      rw [e1] at e
      dsimp only at e
      cases e2 : numQ u2 with
      | none => rw [e2] at e; exact none_neQ e
      | some b =>
      rw [e2] at e
      dsimp only at e
      rcases e3 : numQ u3 with _ | c
      · rw [e3] at e; exact none_neQ e
      rw [e3] at e
      dsimp only at e
      rcases q : Builtin.Range.small a b c && !(Builtin.divisionGoesByPylong (b - a) c) && decide (c ≠ 0) && decide (Builtin.Range.rangeSize a b c = ((Builtin.Range.rangeSize a b c).toNat : Int)) with _ | _
      · rw [q] at e; exact none_neQ e
      ·
        rw [q] at e
        obtain rfl := Option.some.inj e
        obtain rfl := numQ_eq e1
        obtain rfl := numQ_eq e2
        obtain rfl := numQ_eq e3
        simp only [Bool.and_eq_true, decide_eq_true_eq, Bool.not_eq_true'] at q
        obtain ⟨⟨⟨q1, q2⟩, q3⟩, q4⟩ := q
        obtain ⟨v, rs, rfl, h1, h2⟩ := two hv
        simp only [VRs] at h2
        obtain ⟨v2, rs, rfl, h2, v3, rs2, rfl, h3, rfl⟩ := h2
        simp only [VR] at h1 h2 h3
        obtain ⟨t, rfl⟩ := h1
        obtain ⟨t2, rfl⟩ := h2
        obtain ⟨t3, rfl⟩ := h3
        refine call_range_3 (hp := .inl q2) q3 ?_
        refine src_rng (n := n) (X := X) (tg := tg) (W := W) (st := st) (k := (Builtin.Range.rangeSize a b c).toNat) hA (rp.grow fun b o e => Heap.get?_push_of_some _ e) (IsRange.new _ _ _ _ _ _ _) q1 q4 ?_
        intro it s' hS rp' sh hk
        exact h s' it rp' ((Sh.heap s _ _).trans sh) hS
  case enumerate =>
    dsimp only [mkIts] at e
    rcases q : isTupT tg with _ | _
    · rw [q] at e; exact none_neQ e
    rw [q] at e
    rcases args with _ | ⟨u1, _ | ⟨_, _⟩⟩ <;> (try exact none_neQ e)
    replace e : en1 u1 = some l := e
    unfold en1 at e
    rcases e1 : tupR u1 with _ | l1
    · rw [e1] at e; exact none_neQ e
    rw [e1] at e
    obtain rfl := Option.some.inj e
    obtain rfl := tupR_eq e1
    obtain ⟨v, rs, rfl, h1, h2⟩ := two hv
    simp only [VRs] at h2
    subst h2
    obtain ⟨es, k, pos, rfl⟩ := isTupT_form q
    exact src_enum hA rp h1 fun it s' hS rp' sh hk => h s' it rp' sh hS
  case zip =>
    dsimp only [mkIts] at e
    cases q : isTupT tg with
    | false => rw [q] at e; exact none_neQ e
    | true =>
    rw [q] at e
    rcases args with _ | ⟨u1, _ | ⟨u2, _ | ⟨_, _⟩⟩⟩ <;> (try exact none_neQ e)
    replace e : zip2 u1 u2 = some l := e
    unfold zip2 at e
    cases e1 : tupR u1 with
    | none => rw [e1] at e; exact none_neQ e
    | some l1 =>
    rw [e1] at e
    dsimp only at e
    rcases e2 : tupR u2 with _ | l2
    · rw [e2] at e; exact none_neQ e
    rw [e2] at e
    dsimp only at e
    rcases q2 : Nat.beq l1.length l2.length with _ | _
    · rw [q2] at e; exact none_neQ e
    rw [q2] at e
    obtain rfl := Option.some.inj e
    obtain rfl := tupR_eq e1
    obtain rfl := tupR_eq e2
    obtain ⟨v, rs, rfl, h1, h2⟩ := two hv
    simp only [VRs] at h2
    obtain ⟨v2, rs2, rfl, h2, rfl⟩ := h2
    obtain ⟨es, k, pos, rfl⟩ := isTupT_form q
    exact src_zip hA rp h1 h2 (Nat.eq_of_beq_eq_true q2) fun it s' hS rp' sh hk => h s' it rp' sh hS
set_option tactic.hygienic false in
theorem nameV_st {f : Str} {st st' : St} {v : SV} (h : nameV C f st = .ret (v, st')) : st' = st := by
  unfold nameV at h
  repeat' (split at h)
  all_goals first | (cases h; rfl) | cases h
theorem biT_eq {t : TS SV} {b : Bi} (h : biT t = some b) : (∃ st, t = .ret (.bi b, st)) ∧ (b = .range ∨ b = .enumerate ∨ b = .zip) := by
  cases t <;> (try exact none_neQ h)
  rename_i a
  obtain ⟨v, st⟩ := a
  cases v <;> (try exact none_neQ h)
  rename_i c
  dsimp only [biT] at h
  rcases e : isSrc c with _ | _
  · rw [e] at h; exact none_neQ h
  ·
    rw [e] at h
    obtain rfl := Option.some.inj h
    refine ⟨⟨st, rfl⟩, ?_⟩
    cases c <;> (try exact Bool.noConfusion e)
    · exact .inl rfl
    · exact .inr (.inl rfl)
    · exact .inr (.inr rfl)
set_option tactic.hygienic false in
theorem srcBi_form {x : Expr} {st : St} {b : Bi} {args : List Expr} (h : srcBi C st x = some (b, args)) : ∃ f p pos, x = .Call (.Name f p) args [] pos ∧ noStar args = true ∧ nameV C f st = .ret (.bi b, st) ∧ (b = .range ∨ b = .enumerate ∨ b = .zip) := by
  unfold srcBi at h
  rcases q : nmCall x with _ | r
  · rw [q] at h; exact none_neQ h
  rw [q] at h
  dsimp only at h
  rcases e : biT (nameV C r.1 st) with _ | b'
  · rw [e] at h; exact none_neQ h
  rw [e] at h
  have h := Option.some.inj h
  obtain ⟨h1, h2⟩ := Prod.mk.inj h
  obtain ⟨p, pos, rfl, ns⟩ := nmCall_form q
  subst h1
  subst h2
  obtain ⟨e1, e2⟩ := biT_eq e
  obtain ⟨st', e1⟩ := e1
  exact ⟨r.1, p, pos, rfl, ns, by rw [e1, nameV_st e1], e2⟩
theorem it_sound {tg x : Expr} {W : Wd} {st : St} {s : Shared} {E : Value → Shared → Prop} {K : Value → Shared → Prop} (ok : FxOK X) (co : CxOK n C X) (hA : OKA n A) (he : SE X A r.e) (rp : Rep X W st s.heap)
    (h : (itE C r tg x st).Holds (fun a => ∀ s' W' it, W.le W' → Rep X W' a.2 s'.heap → Sh s s' → Src X A W' a.2 tg a.1 it s' → K it s') (PostX X W s E)) : wpAny (model PW X.w) A (eval x X.env) (fun v s₁ => wpAny (model PW X.w) A (pyIter v) K E s₁) E s := by
  unfold itE at h
  split at h
  · next b args e =>
    split at h
    · exact h.elim
    · next y rest =>
      obtain ⟨f, p, pos, rfl, ns, hn, hb⟩ := srcBi_form e
      obtain ⟨e1, e2⟩ := noStar_cons (env := X.env) (pos := pos) ns
      refine wpAny_Call_NameR (nameV_sound (C := C) ok co (W := W) (st := st) rp (by
        rw [hn]
        intro s₁ W₁ u le₁ rp₁ sh₁ hv
        simp only [VR] at hv
        subst hv
        have main : wpAny (model PW X.w) A (spliced (backTo pos (starEach (y :: rest) X.env))) (fun vs s₁ => wpAny (model PW X.w) A (call b.val vs) (fun v s₁ => wpAny (model PW X.w) A (pyIter v) K E s₁) E s₁) E s₁ :=
          evL_sound he (y :: rest) st W₁ s₁ _ E rp₁ ((T.holds_bind h).mono (fun a ha s' W' us le rp' sh hus => by
            split at ha
            · next l e3 => exact mkIts_sound hA rp' hus e3 fun s₂ it rp₂ sh₂ hS => ha s₂ W' it (le₁.trans le) rp₂ ((sh₁.trans sh).trans sh₂) hS
            · exact ha.elim) fun _ z => z.step le₁ sh₁)
        rcases hb with rfl | rfl | rfl
        · exact PyProof.Rows.callWith_type1 (T := "range") main e1 e2
        · exact PyProof.Rows.callWith_type1 (T := "enumerate") main e1 e2
        · exact PyProof.Rows.callWith_type1 (T := "zip") main e1 e2))
  · refine se_bind he rp h (fun _ z => z) fun a s' W' u ha le rp' sh hv => ?_
    split at ha
    · next l e =>
      obtain ⟨e1, e2⟩ := froz_seq e
      obtain ⟨W₂, le₂, rp₂, _, _⟩ := rp'.froz ok a.1
      exact src_seq (tg := tg) ok hA rp₂ (hv.mono le₂) e1 e2 fun it s₂ hS rp₃ sh₂ hk => ha s₂ W₂ it (le.trans le₂) rp₃ (sh.trans sh₂) hS
    · exact ha.elim
end
set_option tactic.hygienic false in
theorem Rep.chg {X : Fx} {W : Wd} {st : St} {h h' : Heap} (un : Addr → Prop) (hu : ∀ b, un b → Untr X W b) (ok : FxOK X) (r : Rep X W st h) (k : ∀ b o, ¬ un b → h.get? b = some o → h'.get? b = some o) : Rep X W st h' :=
  (r.extendU (H' := W.H) (HL' := W.HL) un hu ok (fun b o _ q e => k b o q e) (r.z.tab.at fun o e => k _ o (fun q => (hu _ q).own.ne_pt ok rfl) e) (fun _ _ e => e) (fun _ _ e => e)
    (fun b o e => ⟨k b o (fun q => ((hu b q).own.2 o).2.1 e) (r.z.sub b o e), .inl e⟩) (fun b o e => ⟨k b o (fun q => ((hu b q).own.2 o).2.2 e) (r.z.subL b o e), .inl e⟩)).2
theorem hide (h : Heap) (C : Addr) : ∃ h0 : Heap, h0.get? C = none ∧ ∀ b, b ≠ C → h0.get? b = h.get? b := by
  refine ⟨h.update C fun _ => ⟨.none, none, .freed, #[]⟩, ?_, fun b hb => Heap.get?_update_other h _ (Ne.symm hb)⟩
  rcases e : (h.update C fun _ => ⟨.none, none, .freed, #[]⟩).get? C with _ | o
  · rfl
  ·
    obtain ⟨e1, e2⟩ := Heap.get?_some_iff.mp e
    exfalso
    have : o = ⟨.none, none, .freed, #[]⟩ := by
      cases h
      simp only [Heap.update, Array.getElem?_modify, if_true] at e1
      rcases q : (‹Array Obj› : Array Obj)[C]? with _ | o'
      · rw [q] at e1; cases e1
      · rw [q] at e1; cases e1; rfl
    rw [this] at e2
    cases e2
/-- the names of a comprehension's own frame -/
noncomputable def cNames (C : Cx) : List (Str × NameKind) → Option (List (Str × NameKind))
  | [] => some []
  | (n, k) :: r => match cNames C r with
    | none => none
    | some l => match k with
      | .free => match lk n C.names with
        | some .cell => some ((n, .cell) :: l)
        | _ => none
      | .local => some ((n, .local) :: l)
      | .globalImplicit => some ((n, .globalImplicit) :: l)
      | _ => none
noncomputable def cCel (st : St) : List (Str × NameKind) → List (Str × SV)
  | [] => []
  | (n, k) :: r => match k with
    | .free => match lk n st.cel with
      | some v => match v.pl with
        | true => (n, v) :: cCel st r
        | false => cCel st r
      | none => cCel st r
    | _ => cCel st r
/-- the cells that a comprehension's frame takes over -/
noncomputable def clOf (cells : List (Str × Addr)) : List (Str × NameKind) → List (Str × Addr) → List (Str × Addr)
  | [], acc => acc
  | (n, k) :: r, acc => match k with
    | .free => match cells.lookup n with
      | some c => clOf cells r ((n, c) :: acc)
      | none => clOf cells r acc
    | _ => clOf cells r acc
noncomputable def tgN : Expr → List Str
  | .Name x _ => [x]
  | .Tuple ts _ _ => match tgts ts with
    | some l => l
    | none => []
  | _ => []
noncomputable def elV : TS (Option SV) → T Unit (Option SV)
  | .ret (some v, _) => match okR v with
    | true => .ret (some v)
    | false => .stuck
  | .ret (none, _) => .ret none
  | .dec b t e => .dec b (elV t) (elV e)
  | .need b t => .need b (elV t)
  | .exc _ => .stuck
  | .stuck => .stuck
noncomputable def elT (r' : Ev) (ifs : List Expr) (elt : Expr) (st : St) : TS (Option SV) := match ifs with
  | [] => (r'.e elt st).bind fun a => .ret (some a.1, a.2)
  | [c] => (r'.t c st).bind fun b => br b.1 ((r'.e elt b.2).bind fun a => .ret (some a.1, a.2)) (.ret (none, b.2))
  | _ => .stuck
noncomputable def It.pl : It → Bool
  | .one x => x.pl
  | .two x y => match x.pl with
    | true => y.pl
    | false => false
theorem PI.drop {W W' : Wd} {it : It} {v : Value} {h : Heap} (kh : ∀ a o, W.H a o → W'.H a o) (kl : ∀ a o, W.HL a o → W'.HL a o) (q : it.pl = true) (p : PI W it v h) : PI W' it v h := by
  cases it with
  | one x => exact VR.drop kh kl q p
  | two x y =>
    obtain ⟨T, a, b, e, t, p1, p2⟩ := p
    simp only [It.pl] at q
    split at q
    · next q1 => exact ⟨T, a, b, e, t, VR.drop kh kl q1 p1, VR.drop kh kl q p2⟩
    · cases q
noncomputable def tgCx (C' : Cx) (tg : Expr) : Cx := ⟨(tgN tg).map fun x => (x, .local), [], C'.F⟩
noncomputable def addO (acc : List SV) : Option SV → List SV
  | some v => acc ++ [v]
  | none => acc
noncomputable def compL (C' : Cx) (r' : Ev) (tg elt : Expr) (ifs : List Expr) (cel : List (Str × SV)) : List It → List SV → T Unit (List SV)
  | [], acc => .ret acc
  | it :: r, acc => match it.pl with
    | false => .stuck
    | true => (elV ((asgI (tgCx C' tg) tg it ⟨[], cel, []⟩).bind fun a => elT r' ifs elt a.2)).bind fun v => compL C' r' tg elt ifs cel r (addO acc v)
theorem holds_elV {K : Option SV → Prop} {KX : Unit → Prop} {KE : St → Prop} : ∀ {t : TS (Option SV)}, (elV t).Holds K KX → t.Holds (fun r => (∀ v, r.1 = some v → okR v = true) ∧ K r.1) KE
  | .ret (some v, _), h => by
    unfold elV at h
    split at h
    · next q => exact ⟨fun _ e => by cases e; exact q, h⟩
    · exact h.elim
  | .ret (none, _), h => ⟨fun _ e => (nomatch e), h⟩
  | .dec _ _ _, h => ⟨fun q => holds_elV (h.1 q), fun q => holds_elV (h.2 q)⟩
  | .need _ _, h => ⟨h.1, holds_elV h.2⟩
  | .exc _, h => h.elim
  | .stuck, h => h
theorem locs_lk {C : Cx} : ∀ {l : List Str}, locs C l = true → ∀ x ∈ l, lk x C.names = some .local
  | [], _, _, hx => nomatch hx
  | y :: r, h, x, hx => by
    simp only [locs] at h
    split at h
    · next q =>
      rcases List.mem_cons.mp hx with rfl | hx
      · exact q
      · exact locs_lk h x hx
    · cases h
theorem tg_lk {l : List Str} {x : Str} {k : NameKind} (h : lk x (l.map fun x => (x, NameKind.local)) = some k) : x ∈ l ∧ k = .local := by
  induction l with
  | nil => cases h
  | cons y r ih =>
    simp only [List.map_cons, lk] at h
    split at h
    · next q => cases h; exact ⟨sq_iff.mp q ▸ List.mem_cons_self, rfl⟩
    · obtain ⟨a, b⟩ := ih h; exact ⟨List.mem_cons_of_mem _ a, b⟩
section
variable {w : World} {A : Around} {E : Value → Shared → Prop} {s : Shared}
theorem comp_loop0 {elt target iter : PySem.Expr} {ifs : List PySem.Expr} {scope : Scope} {pos : Pos} {it acc : Value} {env : Env} {R : Result → Shared → Prop} (I : Nat → Shared → Prop)
    (turn : ∀ n s, I n s → wpAny (model PW w) A (pyNext it) (fun r s₁ => match r with
      | none => R (.ok .next) s₁
      | some v => wpAny (model PW w) A (letOwnedTupleGo target it v) (fun _ s₀ => wpAny (model PW w) A (assign target env v) (fun _ s₂ =>
          wpAny (model PW w) A (forIn ifs true fun c r => if r = true then do let ok ← isTrue c env (eval c env); pure (ForInStep.yield ok) else pure (ForInStep.yield r)) (fun ok s₃ =>
            if ok = true then wpAny (model PW w) A (eval elt env) (fun x s₄ =>
              wpAny (model PW w) A (call (.builtin "list.append") [acc, x]) (fun _ s₅ => ∃ m, m < n ∧ I m s₅) (notedBy (model PW w) A env fun e s' => R (.error e) s') s₄) (notedBy (model PW w) A env fun e s' => R (.error e) s') s₃
            else ∃ m, m < n ∧ I m s₃) (notedBy (model PW w) A env fun e s' => R (.error e) s') s₂)
          (notedBy (model PW w) A env fun e s' => R (.error e) s') s₀) (notedBy (model PW w) A env fun e s' => R (.error e) s') s₁) (notedBy (model PW w) A env fun e s' => R (.error e) s') s)
    (n : Nat) (h : I n s) : codeAny (model PW w) A (.compLoop (.ListComp elt [⟨target, iter, ifs, 0⟩] scope pos) 0 it acc env) R s := by
  refine codeAny_loop rfl I (fun n s hI => ?_) n h
  show wpAny _ A ((compTurn (.ListComp elt [⟨target, iter, ifs, 0⟩] scope pos) 0 it acc env).onRaise (fun x => do noteFrame x env; theTreesLotGoes x)) _ _ s
  refine wpAny_noted ?_
  rw [compTurn_list]
  refine wpAny_bind (wpAny_standAt (wpAny_bind (wpAny_mono (turn n s hI) (fun r s₁ h₁ => ?_) fun _ _ h' => h')))
  rcases r with _ | v
  · exact wpAny_pure h₁
  ·
    refine wpAny_bind (wpAny_mono h₁ (fun _ s₀ h₀' => ?_) fun _ _ h' => h')
    refine wpAny_bind (wpAny_mono h₀' (fun _ s₂ h₂ => ?_) fun _ _ h' => h')
    refine wpAny_bind (wpAny_mono h₂ (fun ok s₃ h₃ => ?_) fun _ _ h' => h')
    rcases ok with _ | _
    rotate_left
    · exact wpAny_bind (wpAny_bind (wpAny_mono h₃ (fun x s₄ h₄ => wpAny_bind (wpAny_mono h₄ (fun _ s₅ h₅ => wpAny_pure (wpAny_pure ⟨rfl, h₅⟩)) fun _ _ h' => h')) fun _ _ h' => h'))
    · exact wpAny_pure ⟨rfl, h₃⟩
end
/-- a list that a comprehension fills -/
noncomputable def lstO (ys : List Value) (n : Nat) : Obj := { cls := .type "list", data := .seq ys.toArray n }
set_option tactic.hygienic false in
theorem lstO_snoc (ys : List Value) (y : Value) (n : Nat) : ({ cls := .type "list", data := .seq (ys.toArray.push y) (n + 1) } : Obj) = lstO (ys ++ [y]) (n + 1) := by
  unfold lstO; rw [List.push_toArray]
set_option tactic.hygienic false in
theorem Untr.grow {X : Fx} {W : Wd} {h : Heap} {b : Addr} {H' : Addr → Obj → Prop} (u : Untr X W b) (e : ∃ o, h.get? b = some o) (nH : ∀ b o, H' b o → W.H b o ∨ h.get? b = none) : Untr X ⟨H', W.HL, W.eta⟩ b := by
  refine ⟨⟨u.own.1, fun o => ⟨(u.own.2 o).1, fun q => ?_, (u.own.2 o).2.2⟩⟩, u.nL, u.nC, u.nE⟩
  rcases nH b o q with q | q
  · exact (u.own.2 o).2.1 q
  · obtain ⟨o', e⟩ := e; rw [e] at q; cases q
set_option tactic.hygienic false in
theorem FpOK.grow {X : Fx} {W : Wd} {st : St} {h h' : Heap} {fp wr : List Addr} {H' : Addr → Obj → Prop} (f : FpOK X W st h fp wr) (here : ∀ b ∈ fp, ∃ o, h'.get? b = some o) (nH : ∀ b o, H' b o → W.H b o ∨ h.get? b = none) : FpOK X ⟨H', W.HL, W.eta⟩ st h' fp wr :=
  ⟨f.sub, here, f.nPT, f.nL, f.nC, f.nM, fun b hb => (f.wr b hb).grow (f.here b (f.sub b hb)) nH⟩
section
variable {n : Nat} {X : Fx} {A : Around} {C C' : Cx} {r' : Ev}
/-- what a comprehension's scope must be -/
structure CompOK (C : Cx) (X : Fx) (st : St) (C' : Cx) (scope : Scope) (cl : List (Str × Addr)) (cel : List (Str × SV)) : Prop where
  kind : scope.kind = .function
  cell : ∀ y ∈ scope.names, y.2 ≠ .cell
  names : (relabel scope X.env).names = C'.names
  glo : C'.glo = C.glo
  F : C'.F = C.F
  sub : ∀ x c, cl.lookup x = some c → X.cs.lookup x = some c
  val : ∀ x v, lk x cel = some v → ∃ c, cl.lookup x = some c ∧ lk x st.cel = some v ∧ v.pl = true
set_option tactic.hygienic false in
/-- one element's frame -/
theorem comp_frame {W : Wd} {st : St} {h : Heap} {scope : Scope} {cl : List (Str × Addr)} {cel : List (Str × SV)} {L : Addr} {m : Str → Option Value} (ok : FxOK X) (co : CxOK n C X) (k : CompOK C X st C' scope cl cel) (rp : Rep X W st h) (ut : Untr X W L) (big : @LE.le Nat _ 372 L) (hn : h.Ns L m) :
    ∃ X' : Fx, X'.env = compEnvC scope cl L X.env ∧ X'.w = X.w ∧ X'.H0 = W.H ∧ FxOK X' ∧ CxOK n C' X' ∧ X'.h0.get? L = none ∧ (∀ b, b ≠ L → X'.h0.get? b = h.get? b) ∧ Rep X' ⟨W.H, W.HL, []⟩ ⟨[], cel, []⟩ h := by
  obtain ⟨h0, e1, e2⟩ := hide h L
  have ne : ∀ {b : Addr}, @LT.lt Nat _ b 372 → b ≠ L := fun hb e => absurd big (Nat.not_le.mpr (e ▸ hb))
  have T := rp.z.top ok
  let X' : Fx := ⟨X.w, X.mg, X.mb, h0, W.H, fun _ _ => False, fun _ => False, compEnvC scope cl L X.env, true⟩
  have ok' : FxOK X' := by
    refine ⟨fun a o q => ?_, ⟨T.g.at' fun o e => ?_, T.b.at' fun o e => ?_, ?_, T.builtins, T.free⟩, ?_, ?_, fun _ q => q.elim, ?_, ok.glob, ok.blt, big⟩
    · exact (e2 a (fun e => ((ut.own.2 o).2.1 (rp.z.kh L o (e ▸ q))))).trans (rp.z.kx ok a o q)
    · exact (e2 _ (ne (by decide))).trans e
    · exact (e2 _ (ne (by decide))).trans e
    · obtain ⟨mc, a, b⟩ := T.nolimit
      exact ⟨mc, a.at' fun o e => (e2 _ (ne (by decide))).trans e, b⟩
    · obtain ⟨o, _, q, _⟩ := rp.z.tab
      exact ⟨o, (e2 _ (ne (by decide))).trans q⟩
    · obtain ⟨o, q, z⟩ := ok.bm
      exact ⟨o, (e2 _ (ne (by decide))).trans (rp.z.base _ o (by decide) q), z⟩
    · exact k.kind
  refine ⟨X', rfl, rfl, rfl, ok', ⟨k.F ▸ co.F, ?_, fun x kd q => ?_⟩, e1, e2, ⟨⟨rp.z.tab, fun b o _ e => ?_, fun _ _ q => q.elim, rp.z.sub, rp.z.subL, rp.z.kh, fun _ _ q => .inl q, fun o => ⟨fun q => q, (rp.z.npt o).2⟩, fun _ q => q.elim⟩,
    ⟨⟨e1, fun o => ⟨fun q => q, (ut.own.2 o).2⟩⟩, m, hn, fun _ _ q => nomatch q⟩, ⟨fun x c e => ?_, fun x y c q1 q2 => rp.c.inj x y c (k.sub x c q1) (k.sub y c q2), fun x v e => ?_⟩, ⟨rfl, fun i _ _ q => by simp at q, fun i _ _ q => by simp at q⟩⟩⟩
  · have := co.glo
    unfold GloOK at this ⊢
    rw [k.glo]; exact this
  · show (relabel scope X.env).names.lookup x = some kd
    rw [k.names]; exact lk_lookup.symm.trans q
  · have : b ≠ L := fun q => by rw [q] at e; exact absurd (e1.symm.trans e) (by simp)
    exact (e2 b this).symm.trans e
  · have e' := k.sub x c e
    obtain ⟨q, _, v, d⟩ := rp.c.own x c e'
    exact ⟨q.ne_pt ok, fun e₂ => ut.nC x ((show c = L from e₂) ▸ e'), v, d⟩
  · obtain ⟨c, q1, q2, q3⟩ := k.val x v e
    obtain ⟨c', u, q4, q5, q6⟩ := rp.c.val x v q2
    have : c' = c := by
      have := k.sub x c q1
      rw [q4] at this
      exact Option.some.inj this
    subst this
    exact ⟨c', u, q1, q5, VR.drop (W := W) (W' := ⟨W.H, W.HL, []⟩) (fun _ _ h => h) (fun _ _ h => h) q3 q6⟩
/-- what holds between two turns -/
inductive CInv (X : Fx) (W : Wd) (st : St) (s : Shared) (L D : Addr) (fp wr : List Addr) (len : Nat) (S : Nat → Heap → Prop) (Kc : Nat → List SV → Prop) (k' : Nat) (s' : Shared) : Prop
  | mk (i : Nat) (W' : Wd) (ys : List Value) (c : Nat) (m' : Str → Option Value) (acc : List SV) (le : W.le W') (rp : Rep X W' st s'.heap) (sh : Sh s s') (f : FpOK X W' st s'.heap fp wr) (uL : Untr X W' L) (uD : Untr X W' D) (hn : s'.heap.Ns L m') (hD : s'.heap.get? D = some (lstO ys c)) (hv : VRs W' acc ys) (h1 : acc.length ≤ i) (hi : i ≤ len) (e : k' = len - i + 1) (hS : S i s'.heap) (h : Kc i acc) : CInv X W st s L D fp wr len S Kc k' s'
/-- THE TURNS OF A COMPREHENSION -/
theorem compL_sound {W : Wd} {st : St} {s : Shared} {scope : Scope} {cl : List (Str × Addr)} {cel : List (Str × SV)} {tg elt iter : Expr} {ifs : List Expr} {pos : Pos} {its : List It} {I D L : Addr} {fp wr : List Addr} {P Md : Nat → Value → Heap → Prop} {S : Nat → Heap → Prop} {R : Result → Shared → Prop} {Kf : List SV → Prop} {m : Str → Option Value}
    (ok : FxOK X) (co : CxOK n C X) (hA : OKA n A) (k : CompOK C X st C' scope cl cel) (hx : ∀ X', FxOK X' → CxOK n C' X' → SE X' A r'.e ∧ STt X' A r'.t) (lt : locs C' (tgN tg) = true) (hsz : its.length < 1000)
    (K : KTurns PW X.w A tg I fp wr its.length P Md S) (hP : ∀ i v h, i < its.length → P i v h → ∃ it, its[i]? = some it ∧ PI W it v h) (hl : ∀ i h, S i h → ∀ b ∈ wr, ∃ o, h.get? b = some o)
    (hst : S 0 s.heap) (rp : Rep X W st s.heap) (f : FpOK X W st s.heap fp wr) (uL : Untr X W L) (uD : Untr X W D) (big : @LE.le Nat _ 372 L) (hLD : L ≠ D) (fL : L ∉ fp) (fD : D ∉ fp) (hn : s.heap.Ns L m) (hD : s.heap.get? D = some (lstO [] 0))
    (h : (compL C' r' tg elt ifs cel its []).Holds Kf (fun _ => False))
    (hR : ∀ l s' W' ys c m', Kf l → W.le W' → Rep X W' st s'.heap → Sh s s' → Untr X W' L → Untr X W' D → s'.heap.Ns L m' → s'.heap.get? D = some (lstO ys c) → VRs W' l ys → R (.ok .next) s') :
    codeAny (model PW X.w) A (.compLoop (.ListComp elt [⟨tg, iter, ifs, 0⟩] scope pos) 0 (.ref I) (.ref D) (compEnvC scope cl L X.env)) R s := by
  refine comp_loop0 (CInv X W st s L D fp wr its.length S fun i acc => (compL C' r' tg elt ifs cel (its.drop i) acc).Holds Kf (fun _ => False)) ?_ (its.length - 0 + 1)
    ⟨0, W, [], 0, m, [], .refl W, rp, .refl s, f, uL, uD, hn, hD, by simp only [VRs], Nat.le_refl _, Nat.zero_le _, rfl, hst, h⟩
  rintro k' s' ⟨i, W', ys, c, m', acc, le, rp', sh, f', uL', uD', hn', hD', hv', hal, hi, rfl, hst', h'⟩
  have Lw : L ∉ wr := fun q => fL (K.sub _ q)
  have Dw : D ∉ wr := fun q => fD (K.sub _ q)
  by_cases hlt : i < its.length
  · have hd : its.drop i = its[i] :: its.drop (i + 1) := List.drop_eq_getElem_cons hlt
    rw [hd] at h'
    unfold compL at h'
    split at h'
    · exact h'.elim
    next hpl =>
    refine K.item i s' _ _ hlt hst' fun v h₁ tk₁ hMd hk₁ => ?_
    refine K.go i v _ _ _ hMd fun h₂ hPv hst₂ hk₂ => ?_
    have kk : ∀ b o, b ∉ wr → s'.heap.get? b = some o → h₂.get? b = some o := fun b o hb e => hk₂ b o hb (hk₁ b o hb e)
    have here : ∀ b ∈ fp, ∃ o, h₂.get? b = some o := fun b hb => by
      by_cases q : b ∈ wr
      · exact hl _ _ hst₂ b q
      · obtain ⟨o, ho⟩ := f'.here b hb; exact ⟨o, kk b o q ho⟩
    have rp₂ := rp'.turn f' kk
    have f₂ : FpOK X W' st h₂ fp wr := f'.turn here
    obtain ⟨it, hit, hPI⟩ := hP i v h₂ hlt hPv
    have : it = its[i] := by rw [List.getElem?_eq_getElem hlt] at hit; exact (Option.some.inj hit).symm
    subst this
    have hn₂ : h₂.Ns L m' := hn'.at' fun o e => kk _ o Lw e
    have hD₂ := kk _ _ Dw hD'
    obtain ⟨X', q1, q2, q3, ok', co', q4, q5, rx⟩ := comp_frame (cel := cel) ok co k rp₂ uL' big hn₂
    rw [← q1]
    have ct : CxOK n (tgCx C' tg) X' := ⟨co'.F, fun x v e => (nomatch e), fun x kd e => by
      obtain ⟨e1, rfl⟩ := tg_lk e
      exact co'.names _ _ (locs_lk lt x e1)⟩
    have cc : CellsOK (tgCx C' tg) X' := fun x e => by obtain ⟨_, q⟩ := tg_lk e; cases q
    have hPx : PI ⟨W'.H, W'.HL, []⟩ its[i] v h₂ := PI.drop (W := W') (W' := ⟨W'.H, W'.HL, []⟩) (fun _ _ e => e) (fun _ _ e => e) hpl (hPI.mono le)
    have h'' := holds_elV (KE := fun _ => False) (T.holds_bind h')
    have fin : ∀ (s₄ : Shared) (W₄ : Wd) (st₄ : St), (⟨W'.H, W'.HL, []⟩ : Wd).le W₄ → Rep X' W₄ st₄ s₄.heap → Sh s' s₄ → W'.le ⟨W₄.H, W'.HL, W'.eta⟩ ∧ Rep X ⟨W₄.H, W'.HL, W'.eta⟩ st s₄.heap ∧ FpOK X ⟨W₄.H, W'.HL, W'.eta⟩ st s₄.heap fp wr ∧
        Untr X ⟨W₄.H, W'.HL, W'.eta⟩ L ∧ Untr X ⟨W₄.H, W'.HL, W'.eta⟩ D ∧ (∃ m₄, s₄.heap.Ns L m₄) ∧ s₄.heap.get? D = some (lstO ys c) ∧ S (i + 1) s₄.heap := by
      intro s₄ W₄ st₄ le₄ rp₄ sh₄
      have nH : ∀ b o, W₄.H b o → s₄.heap.get? b = some o ∧ (W'.H b o ∨ h₂.get? b = none) := fun b o e => ⟨rp₄.z.sub b o e, by
        rcases rp₄.z.solid b o e with z | z
        · exact .inl (q3 ▸ z)
        · by_cases w : b = L
          · exfalso
            subst w
            have := rp₄.n.own.2 o
            rw [show X'.L = b from by show X'.env.locals = b; rw [q1]; rfl] at this
            exact this.2.1 e
          · exact .inr ((q5 b w).symm.trans z)⟩
      have k₄ : ∀ b o, b ≠ PT → b ≠ L → h₂.get? b = some o → s₄.heap.get? b = some o := fun b o hb hbL e => rp₄.z.base b o hb ((q5 b hbL).trans e)
      obtain ⟨leP, rpP⟩ := rp₂.extendU (H' := W₄.H) (HL' := W'.HL) (fun b => b = L) (fun b e => e ▸ uL') ok k₄ rp₄.z.tab (fun b o e => le₄.h b o e) (fun _ _ e => e) nH
        (fun b o e => ⟨k₄ b o (fun q => (rp₂.z.npt o).2.2 (q ▸ e)) (fun q => (uL'.own.2 o).2.2 (q ▸ e)) (rp₂.z.subL b o e), .inl e⟩)
      have nH' : ∀ b o, W₄.H b o → W'.H b o ∨ h₂.get? b = none := fun b o e => (nH b o e).2
      have kfp : ∀ b ∈ fp, ∀ o, h₂.get? b = some o → s₄.heap.get? b = some o := fun b hb o e => k₄ b o (f₂.nPT b hb) (fun q => fL (q ▸ hb)) e
      have hm₄ : ∃ m₄, s₄.heap.Ns L m₄ := by
        obtain ⟨m₄, hm₄, _⟩ := rp₄.n.ns
        have e : X'.L = L := by show X'.env.locals = L; rw [q1]; rfl
        exact ⟨m₄, e ▸ hm₄⟩
      exact ⟨leP, rpP, f₂.grow (fun b hb => let ⟨o, e⟩ := here b hb; ⟨o, kfp b hb o e⟩) nH', uL'.grow (Ns_some hn₂) nH', uD'.grow ⟨_, hD₂⟩ nH', hm₄, k₄ D _ (uD'.own.ne_pt ok) hLD.symm hD₂, K.frame _ _ _ hst₂ fun b hb o e => kfp b hb o e⟩
    have shh : ∀ {s₃}, Sh { s' with heap := h₂, toks := tk₁ } s₃ → Sh s' s₃ := fun z => (Sh.heap s' h₂ tk₁).trans z
    have skip : ∀ (s₄ : Shared) (W₄ : Wd) (st₄ : St), (⟨W'.H, W'.HL, []⟩ : Wd).le W₄ → Rep X' W₄ st₄ s₄.heap → Sh s' s₄ → (compL C' r' tg elt ifs cel (its.drop (i + 1)) acc).Holds Kf (fun _ => False) →
        ∃ m, m < its.length - i + 1 ∧ CInv X W st s L D fp wr its.length S (fun i acc => (compL C' r' tg elt ifs cel (its.drop i) acc).Holds Kf (fun _ => False)) m s₄ := by
      intro s₄ W₄ st₄ le₄ rp₄ sh₄ hg
      obtain ⟨f1, f2, f3, f4, f5, ⟨m₄, f6⟩, f7, f8⟩ := fin s₄ W₄ st₄ le₄ rp₄ sh₄
      exact ⟨its.length - (i + 1) + 1, by omega, i + 1, _, ys, c, m₄, acc, le.trans f1, f2, sh.trans sh₄, f3, f4, f5, f6, f7, hv'.mono f1, Nat.le_succ_of_le hal, hlt, rfl, f8, hg⟩
    have app : ∀ (s₃ s₄ : Shared) (W₄ : Wd) (st₄ : St) (g : SV) (u : Value) (E' : Value → Shared → Prop), (⟨W'.H, W'.HL, []⟩ : Wd).le W₄ → Rep X' W₄ st₄ s₄.heap → Sh s' s₄ → VR W₄ g u → okR g = true → (compL C' r' tg elt ifs cel (its.drop (i + 1)) (acc ++ [g])).Holds Kf (fun _ => False) →
        wpAny (model PW X.w) A (call (.builtin "list.append") [.ref D, u]) (fun _ s₅ => ∃ m, m < its.length - i + 1 ∧ CInv X W st s L D fp wr its.length S (fun i acc => (compL C' r' tg elt ifs cel (its.drop i) acc).Holds Kf (fun _ => False)) m s₅) E' s₄ := by
      intro s₃ s₄ W₄ st₄ g u E' le₄ rp₄ sh₄ hu hg1 hg
      obtain ⟨f1, f2, f3, f4, f5, ⟨m₄, f6⟩, f7, f8⟩ := fin s₄ W₄ st₄ le₄ rp₄ sh₄
      have hu' : VR ⟨W₄.H, W'.HL, W'.eta⟩ g u := VR.out (W := W₄) (W' := ⟨W₄.H, W'.HL, W'.eta⟩) (fun _ _ e => e) hg1 hu
      have hl₄ := hv'.length
      refine append_at (hsz := by show ys.toArray.size ≤ sizeLine; rw [List.size_toArray, hl₄, sizeLine_eq]; omega) f7 fun h₆ hs₆ hD₆ => ?_
      exact ⟨its.length - (i + 1) + 1, by omega, i + 1, _, ys ++ [u], c + 1, m₄, acc ++ [g], le.trans f1, f2.chg (fun b => b = D) (fun b e => e ▸ f5) ok (fun b o e => hs₆.extBut b o e), (sh.trans sh₄).trans (.heap s₄ h₆ s₄.toks),
        f3.turn (fun b hb => let ⟨o, e⟩ := f3.here b hb; ⟨o, hs₆.extBut b o (fun q => fD (q ▸ hb)) e⟩), f4, f5, f6.at' fun o e => hs₆.extBut L o hLD e, hD₆.trans (congrArg some (lstO_snoc ys u c)), VRs.append (hv'.mono f1) (.one hu'), by rw [List.length_append, List.length_singleton]; omega, hlt, rfl, K.frame _ _ _ f8 fun b hb o e => hs₆.extBut b o (fun q => fD (q ▸ hb)) e, hg⟩
    rw [← q2] at app ⊢
    obtain ⟨he', ht'⟩ := hx X' ok' co'
    refine asgI_sound (X := X') (W := ⟨W'.H, W'.HL, []⟩) (st := ⟨[], cel, []⟩) (s := { s' with heap := h₂, toks := tk₁ }) ok' ct cc hA rx hPx ((T.holds_bind h'').mono (fun a ha s₃ W₃ le₃ rp₃ sh₃ => ?_) fun _ z => z.elim)
    unfold elT at ha
    split at ha
    · refine wpAny_tests_nil ?_
      rw [if_pos rfl]
      refine he' elt a.2 W₃ s₃ _ _ rp₃ ((T.holds_bind ha).mono (fun g hg s₄ W₄ u le₄ rp₄ sh₄ hu => ?_) fun _ z => z.elim)
      exact app s₃ s₄ W₄ g.2 g.1 u _ (le₃.trans le₄) rp₄ (shh (sh₃.trans sh₄)) hu (hg.1 _ rfl) hg.2
    · refine wpAny_tests_one (ht' _ a.2 W₃ s₃ _ _ rp₃ ((T.holds_bind ha).mono (fun b hb s₄ W₄ bv le₄ rp₄ sh₄ hbv => ?_) fun _ z => z.elim))
      have hh := holds_br hb hbv
      rcases bv with _ | _
      rotate_left
      ·
        dsimp only
        rw [if_pos rfl]
        refine he' elt b.2 W₄ s₄ _ _ rp₄ ((T.holds_bind hh).mono (fun g hg s₅ W₅ u le₅ rp₅ sh₅ hu => ?_) fun _ z => z.elim)
        exact app s₃ s₅ W₅ g.2 g.1 u _ ((le₃.trans le₄).trans le₅) rp₅ (shh ((sh₃.trans sh₄).trans sh₅)) hu (hg.1 _ rfl) hg.2
      ·
        dsimp only
        rw [if_neg (by decide)]
        exact skip s₄ W₄ b.2 (le₃.trans le₄) rp₄ (shh (sh₃.trans sh₄)) hh.2
    · exact ha.elim
  · have hin : i = its.length := Nat.le_antisymm hi (Nat.not_lt.mp hlt)
    subst hin
    rw [List.drop_length] at h'
    refine K.done s' _ _ hst' fun h₁ tk₁ hk₁ => ?_
    exact hR acc _ W' ys c m' h' le (rp'.turn f' hk₁) (sh.trans (.heap s' h₁ tk₁)) uL' uD' (hn'.at' fun o e => hk₁ _ o Lw e) (hk₁ _ _ Dw hD') hv'
end
set_option tactic.hygienic false in
theorem closure_of {scope : Scope} {env : Env} (h : ∀ x ∈ scope.names, x.2 = .free → ∃ c, env.cells.lookup x.1 = some c) : closureFor scope env = pure (clOf env.cells scope.names []) := by
  unfold closureFor
  have key : ∀ (l : List (Str × NameKind)) (acc : List (Str × Addr)), (∀ x ∈ l, x.2 = .free → ∃ c, env.cells.lookup x.1 = some c) →
      (forIn l acc (fun x r => match x with | (name, kind) => if (kind == NameKind.free) = true then do let a ← cellOf env name; pure (ForInStep.yield ((name, a) :: r)) else pure (ForInStep.yield r)) : Sem _) = pure (clOf env.cells l acc) := by
    intro l
    induction l with
    | nil => intro acc _; rfl
    | cons x l ih =>
      intro acc hl
      obtain ⟨nm, kd⟩ := x
      rw [List.forIn_cons]
      have ih' := fun acc => ih acc fun x hx => hl x (List.mem_cons_of_mem _ hx)
      cases kd with
      | free =>
        obtain ⟨c, hc⟩ := hl _ List.mem_cons_self rfl
        have e : cellOf env nm = pure c := by unfold cellOf; rw [hc]
        simp only [BEq.rfl, if_true, e]
        refine (ih' ((nm, c) :: acc)).trans ?_
        show _ = pure (clOf env.cells ((nm, .free) :: l) acc)
        conv => rhs; unfold clOf
        simp only [hc]
      | _ => exact ih' acc
  show ((forIn scope.names [] (fun x r => match x with | (name, kind) => if (kind == NameKind.free) = true then do let a ← cellOf env name; pure (ForInStep.yield ((name, a) :: r)) else pure (ForInStep.yield r)) : Sem (List (Str × Addr))) >>= fun cs => pure cs) = _
  rw [key _ _ h]
  rfl
set_option tactic.hygienic false in
theorem clOf_sub {cells : List (Str × Addr)} : ∀ {l : List (Str × NameKind)} {acc : List (Str × Addr)}, (∀ x c, acc.lookup x = some c → cells.lookup x = some c) → ∀ x c, (clOf cells l acc).lookup x = some c → cells.lookup x = some c
  | [], _, h => h
  | (n, k) :: r, acc, h => by
    have step : ∀ c', cells.lookup n = some c' → ∀ x c, ((n, c') :: acc).lookup x = some c → cells.lookup x = some c := fun c' e x c q => by
      rw [List.lookup_cons] at q
      rcases w : x == n with _ | _
      rotate_left
      · rw [w] at q; cases q; rw [eq_of_beq w]; exact e
      · rw [w] at q; exact h x c q
    unfold clOf
    cases k <;> try exact clOf_sub h
    dsimp only
    rcases e : cells.lookup n with _ | c'
    rotate_left
    · exact clOf_sub (step c' e)
    · exact clOf_sub h
set_option tactic.hygienic false in
theorem clOf_mem {cells : List (Str × Addr)} : ∀ {l : List (Str × NameKind)} {acc : List (Str × Addr)} {x : Str}, (∃ c, acc.lookup x = some c) ∨ ((x, .free) ∈ l ∧ ∃ c, cells.lookup x = some c) → ∃ c, (clOf cells l acc).lookup x = some c
  | [], _, _, h => by
    rcases h with h | ⟨h, _⟩
    · exact h
    · cases h
  | (n, k) :: r, acc, x, h => by
    have up : ∀ c', (∃ c, acc.lookup x = some c) → ∃ c, ((n, c') :: acc).lookup x = some c := fun c' ⟨c, e⟩ => by
      rw [List.lookup_cons]
      rcases w : x == n with _ | _
      rotate_left
      · exact ⟨c', rfl⟩
      · exact ⟨c, e⟩
    unfold clOf
    by_cases hk : k = .free
    · subst hk
      dsimp only
      rcases e : cells.lookup n with _ | c'
      rotate_left
      ·
        dsimp only
        refine clOf_mem ?_
        rcases h with h | ⟨h, q⟩
        · exact .inl (up c' h)
        · rcases List.mem_cons.mp h with h | h
          · cases h
            exact .inl ⟨c', by rw [List.lookup_cons]; simp⟩
          · exact .inr ⟨h, q⟩
      ·
        dsimp only
        refine clOf_mem ?_
        rcases h with h | ⟨h, q⟩
        · exact .inl h
        · rcases List.mem_cons.mp h with h | h
          · cases h; obtain ⟨c, q⟩ := q; rw [e] at q; cases q
          · exact .inr ⟨h, q⟩
    · have : ∃ c, (clOf cells r acc).lookup x = some c := by
        refine clOf_mem ?_
        rcases h with h | ⟨h, q⟩
        · exact .inl h
        · rcases List.mem_cons.mp h with h | h
          · cases h; exact absurd rfl hk
          · exact .inr ⟨h, q⟩
      cases k <;> first | exact this | exact absurd rfl hk
noncomputable def isFn (k : ScopeKind) : Bool := match k with
  | .function => true
  | _ => false
noncomputable def scopeOK (scope : Scope) : Bool := match isFn scope.kind with
  | false => false
  | true => scope.names.all fun x => match x.2 with
    | .local => match lk x.1 scope.names with
      | some .local => true
      | _ => false
    | .cell => false
    | _ => true
noncomputable def isSet : Expr → Bool
  | .Set _ _ _ => true
  | _ => false
/-- the parts of a list comprehension -/
structure CP where
  elt : Expr
  tg : Expr
  iter : Expr
  ifs : List Expr
  scope : Scope
noncomputable def cpG (elt : Expr) (g : Comprehension) (scope : Scope) : Option CP := match g with
  | ⟨tg, iter, ifs, a⟩ => match decide (a = 0) && !(isSet iter) && scopeOK scope with
    | true => some ⟨elt, tg, iter, ifs, scope⟩
    | false => none
noncomputable def cpOf : Expr → Option CP
  | .ListComp elt gs scope _ => match gs with
    | [g] => cpG elt g scope
    | _ => none
  | _ => none
noncomputable def compE (C : Cx) (r : Ev) (R : Cx → Ev) (x : Expr) (st : St) : TS (List SV) := match cpOf x with
  | none => .stuck
  | some p => match cNames C p.scope.names with
    | none => .stuck
    | some names => match locs ⟨names, C.glo, C.F⟩ (tgN p.tg) with
      | false => .stuck
      | true => (itE C r p.tg p.iter st).bind fun a => match Nat.blt a.1.length 1000 with
        | true => lift a.2 (compL ⟨names, C.glo, C.F⟩ (R ⟨names, C.glo, C.F⟩) p.tg p.elt p.ifs (cCel a.2 p.scope.names) a.1 [])
        | false => .stuck
theorem cpOf_form {x : Expr} {p : CP} (h : cpOf x = some p) : ∃ pos, x = .ListComp p.elt [⟨p.tg, p.iter, p.ifs, 0⟩] p.scope pos ∧ isSet p.iter = false ∧ scopeOK p.scope = true := by
  refine hold fun P hP => ?_
  cases x <;> (try exact none_neQ h)
  rename_i elt gs scope pos
  rcases gs with _ | ⟨g, _ | ⟨_, _⟩⟩ <;> (try exact none_neQ h)
  obtain ⟨tg, iter, ifs, a⟩ := g
  replace h : cpG elt ⟨tg, iter, ifs, a⟩ scope = some p := h
  dsimp only [cpG] at h
  rcases q : decide (a = 0) && !(isSet iter) && scopeOK scope with _ | _
  · rw [q] at h; exact none_neQ h
  ·
    rw [q] at h
    obtain rfl := Option.some.inj h
    obtain ⟨q, q3⟩ := Bool.and_eq_true_iff.mp q
    obtain ⟨q1, q2⟩ := Bool.and_eq_true_iff.mp q
    have q1 := of_decide_eq_true q1
    subst q1
    exact hP ⟨pos, rfl, by cases z : isSet iter with | false => rfl | true => rw [z] at q2; exact Bool.noConfusion q2, q3⟩
set_option tactic.hygienic false in
theorem isFn_eq {k : ScopeKind} (h : isFn k = true) : k = .function := by cases k <;> first | rfl | cases h
theorem scope_facts {sc : Scope} (h : scopeOK sc = true) : sc.kind = .function ∧ (∀ y ∈ sc.names, y.2 ≠ .cell) ∧ ∀ x ∈ sc.names, x.2 = .local → sc.names.lookup x.1 = some .local := by
  unfold scopeOK at h
  split at h
  · cases h
  · next q =>
    rw [List.all_eq_true] at h
    refine ⟨isFn_eq q, fun y hy e => ?_, fun y hy e => ?_⟩
    · have := h y hy
      rw [e] at this; cases this
    · have := h y hy
      rw [e] at this
      dsimp only at this
      split at this
      · next w => exact lk_lookup.symm.trans w
      · cases this
theorem cNames_facts {n : Nat} {C : Cx} {X : Fx} (ok : FxOK X) (co : CxOK n C X) : ∀ {l l' : List (Str × NameKind)}, cNames C l = some l' → (l.map fun (n, k) => if (k == .free && X.env.scope.kind == .function && X.env.kindOf n == some .cell) then (n, .cell) else (n, k)) = l' ∧ ∀ x ∈ l, x.2 = .free → lk x.1 C.names = some .cell
  | [], _, h => by simp only [cNames] at h; cases h; exact ⟨rfl, fun _ q => nomatch q⟩
  | (n, k) :: r, l', h => by
    simp only [cNames] at h
    split at h
    · cases h
    · next l e =>
      obtain ⟨h1, h2⟩ := cNames_facts ok co e
      have mem : ∀ {k' : NameKind}, (k' = .free → lk n C.names = some .cell) → ∀ x ∈ ((n, k') :: r), x.2 = .free → lk x.1 C.names = some .cell := fun hq x hx e => by
        rcases List.mem_cons.mp hx with rfl | hx
        · exact hq e
        · exact h2 x hx e
      split at h
      · split at h
        · next q =>
          cases h
          refine ⟨?_, mem fun _ => q⟩
          rw [List.map_cons, h1]
          have kd : X.env.scope.kind = .function := ok.kind
          simp only [kd, co.names n _ q, BEq.rfl, Bool.and_self, if_true]
        · cases h
      · cases h
        refine ⟨?_, mem fun e => nomatch e⟩
        rw [List.map_cons, h1]
        rfl
      · cases h
        refine ⟨?_, mem fun e => nomatch e⟩
        rw [List.map_cons, h1]
        rfl
      · cases h
theorem cCel_facts {st : St} : ∀ {l : List (Str × NameKind)} {x : Str} {v : SV}, lk x (cCel st l) = some v → (x, .free) ∈ l ∧ lk x st.cel = some v ∧ v.pl = true
  | [], _, _, h => nomatch h
  | (n, k) :: r, x, v, h => by
    have ih : lk x (cCel st r) = some v → (x, NameKind.free) ∈ (n, k) :: r ∧ lk x st.cel = some v ∧ v.pl = true := fun h => let ⟨a, b⟩ := cCel_facts h; ⟨List.mem_cons_of_mem _ a, b⟩
    unfold cCel at h
    split at h
    · split at h
      · next v' e =>
        split at h
        · next q =>
          simp only [lk] at h
          split at h
          · next w =>
            cases h
            have := sq_iff.mp w
            subst this
            exact ⟨List.mem_cons_self, e, q⟩
          · exact ih h
        · exact ih h
      · exact ih h
    · exact ih h
section
variable {n : Nat} {X : Fx} {A : Around} {C : Cx} {r : Ev} {R : Cx → Ev}
/-- A LIST COMPREHENSION -/
theorem comp_core {use : Option (Value → Sem Unit)} {Q : Value → Shared → Prop} {E : Value → Shared → Prop} {x : Expr} {W : Wd} {st : St} {s : Shared} {p : CP} {pos : Pos} (ok : FxOK X) (co : CxOK n C X) (hc : CellsOK C X) (hA : OKA n A) (he : SE X A r.e) (hx : ∀ C' X', FxOK X' → CxOK n C' X' → SE X' A (R C').e ∧ STt X' A (R C').t)
    (rp : Rep X W st s.heap) (hp : cpOf x = some p)
    (h : (compE C r R x st).Holds (fun a => ∀ D L s' W' m, W.le W' → Rep X W' (newL a.2 a.1).2 s'.heap → Sh s s' → VR W' (newL a.2 a.1).1 (.ref D) → s'.heap.Ns L m → Untr X W' L → compPost (model PW X.w) A E use Q (.ref D) L (.ok .next) s') (PostX X W s E)) :
    wpAny (model PW X.w) A (comprehension x p.scope X.env pos (newList []) false (eval p.iter X.env) use) Q E s := by
  obtain ⟨pos', e, hs, hsc⟩ := cpOf_form hp
  obtain ⟨s1, s2, s3⟩ := scope_facts hsc
  unfold compE at h
  rw [hp] at h
  dsimp only at h
  split at h
  · exact h.elim
  · next names en =>
    split at h
    · exact h.elim
    · next lt =>
      obtain ⟨f1, f2⟩ := cNames_facts ok co en
      have hcl : ∀ y ∈ p.scope.names, y.2 = .free → ∃ c, X.env.cells.lookup y.1 = some c := fun y hy q => (hc _ (f2 y hy q)).2
      subst e
      refine wpAny_comprehension_free (cl := clOf X.env.cells p.scope.names []) rfl (fun v => ?_) (closure_of hcl) s1 s3 ?_
      · revert hs
        show isSet p.iter = false → foldedSetIterable p.iter X.env v = pure v
        cases p.iter <;> first | exact fun _ => rfl | exact fun q => nomatch q
      refine it_sound (tg := p.tg) ok co hA he rp ((T.holds_bind h).mono (fun a ha s₁ W₁ itv le₁ rp₁ sh₁ hS => ?_) fun _ z => z)
      split at ha
      case h_2 => exact ha.elim
      next hsz =>
      have hsz := Nat.le_of_ble_eq_true hsz
      obtain ⟨I, fp, wr, P, Md, S, rfl, K, hP, hl, hst, f, hself⟩ := hS
      refine wpAny_newObj_type (wpAny_newFunctionEnv s2 (by intro y hy; simp at hy) (fun h₂ hn₂ hs₂ => ?_) s1)
      dsimp only at hn₂ hs₂ ⊢
      generalize hH : s₁.heap.push { cls := .type "list", dict := none, data := .seq ([] : List Value).toArray } = H1 at hn₂ hs₂ ⊢
      have zH : H1.objs.size = s₁.heap.objs.size + 1 := by rw [← hH, Heap.size_push]
      generalize hDe : s₁.heap.objs.size = D at *
      generalize hLe : H1.objs.size = L at *
      have lDL : @LT.lt Nat _ D L := by rw [zH]; exact Nat.lt_succ_self _
      have old : ∀ b o, s₁.heap.get? b = some o → h₂.get? b = some o := fun b o e => by
        have lt : @LT.lt Nat _ b D := hDe ▸ Heap.lt_size e
        exact hs₂.extBut b o (Nat.ne_of_lt (Nat.lt_trans lt lDL)) (Heap.get?_push_of_some _ (hH ▸ Heap.get?_push_of_some _ e))
      have hacc : h₂.get? D = some (lstO [] 0) := by
        refine hs₂.extBut _ _ (Nat.ne_of_lt lDL) (Heap.get?_push_of_some _ ?_)
        rw [← hH, ← hDe]
        exact Heap.get?_push_size _ rfl
      have rp₂ : Rep X W₁ a.2 h₂ := rp₁.grow old
      have uD : Untr X W₁ D := rp₁.untr (fresh_none (hDe ▸ Nat.le_refl _))
      have uL : Untr X W₁ L := rp₁.untr (fresh_none (hDe ▸ Nat.le_of_lt lDL))
      have fl : ∀ b ∈ fp, @LT.lt Nat _ b D := fun b hb => let ⟨o, e⟩ := f.here b hb; hDe ▸ Heap.lt_size e
      have big : @LE.le Nat _ 372 L := by
        obtain ⟨m, hm, _⟩ := rp₁.n.ns
        obtain ⟨o, e⟩ := Ns_some hm
        have : @LT.lt Nat _ X.L D := hDe ▸ Heap.lt_size e
        exact Nat.le_trans ok.big (Nat.le_of_lt (Nat.lt_trans this lDL))
      have f₂ : FpOK X W₁ a.2 h₂ fp wr := f.turn fun b hb => let ⟨o, e⟩ := f.here b hb; ⟨o, old b o e⟩
      have hst₂ : S 0 h₂ := K.frame _ _ _ hst fun b _ o e => old b o e
      have k : CompOK C X a.2 ⟨names, C.glo, C.F⟩ p.scope (clOf X.env.cells p.scope.names []) (cCel a.2 p.scope.names) := by
        refine ⟨s1, s2, f1, rfl, rfl, clOf_sub (fun _ _ q => nomatch q), fun y v q => ?_⟩
        obtain ⟨q1, q2, q3⟩ := cCel_facts q
        obtain ⟨c, q4⟩ := clOf_mem (cells := X.env.cells) (acc := []) (.inr ⟨q1, hcl _ q1 rfl⟩)
        exact ⟨c, q4, q2, q3⟩
      have loop : codeAny (model PW X.w) A (.compLoop (.ListComp p.elt [⟨p.tg, p.iter, p.ifs, 0⟩] p.scope pos') 0 (.ref I) (.ref D) (compEnvC p.scope (clOf X.env.cells p.scope.names []) L X.env)) (compPost (model PW X.w) A E use Q (.ref D) L) { s₁ with heap := h₂, toks := s₁.toks + ([] : List (Str × Value)).length } := by
        refine compL_sound (m := _) ok co hA k (fun X' o c => hx _ X' o c) lt (by omega) K hP hl hst₂ rp₂ f₂ uL uD big (Nat.ne_of_gt lDL) (fun q => absurd (fl _ q) (Nat.not_lt.mpr (Nat.le_of_lt lDL))) (fun q => absurd (fl _ q) (Nat.lt_irrefl _)) hn₂ hacc (holds_lift ha) ?_
        intro l s' W' ys c m' hK le rp' sh uL' uD' hn' hD' hv'
        obtain ⟨le₃, rp₃, v₃⟩ := Rep.newLU (l := l) uD' rp' hD' ⟨c, rfl⟩ (by simpa using hv')
        refine hK D L s' _ m' (le₁.trans (le.trans le₃)) rp₃ (sh₁.trans ((Sh.heap s₁ h₂ _).trans sh)) v₃ hn' ⟨⟨uL'.own.1, uL'.own.2⟩, uL'.nL, uL'.nC, fun i e => ?_⟩
        dsimp only at e
        by_cases hi : i < W'.eta.length
        · rw [List.getElem?_append_left hi] at e; exact uL'.nE i e
        · rw [List.getElem?_append_right (Nat.not_lt.mp hi)] at e
          cases q : i - W'.eta.length with
          | zero => rw [q] at e; cases e; exact Nat.lt_irrefl _ lDL
          | succ j => rw [q] at e; simp at e
      exact codeAny_compStart_list loop (hself _ _ _ hst₂ loop)
end
section
variable {prog : Program} {w : World} {A : Around} {E : Value → Shared → Prop} {s : Shared}
/-- pow with a modulus -/
noncomputable def pm (a b n : Int) : Int := (Builtin.powMod (a % ((n.natAbs : Nat) : Int)).toNat b.natAbs n.natAbs : Nat)
set_option tactic.hygienic false in
theorem ipow3 (a : Int) (t : Tok) (b : Int) (u : Tok) (n : Int) (v : Tok) (hb : ¬ b < 0) (hn : 2 ≤ n) :
    Meets (Builtin.«int.__pow__» ⟨[.int a t, .int b u, .int n v], []⟩) (fun _ R s => R (.ok (.ret (.int (pm a b n) s.toks))) { s with toks := s.toks + 1 }) :=
  .of_wp fun prog w A R s h => by
    obtain ⟨hp, g, d, tk, os⟩ := s
    have h0 : (n == 0) = false := by rw [beq_eq_false_iff_ne]; omega
    have h1 : (n.natAbs == 1) = false := by rw [beq_eq_false_iff_ne]; omega
    have h2 : (decide (n < 0)) = false := by rw [decide_eq_false_iff_not]; omega
    wp_walk
    refine ⟨_, rfl, ?_⟩
    simp only [h2, Bool.false_and, Bool.false_eq_true, if_false]
    exact h
set_option tactic.hygienic false in
theorem entry_powT : entryFor table "pow" = some Builtin.«pow» := entryFor_of_fast (by kernel_rfl)
set_option tactic.hygienic false in
theorem kind_powT : builtinKind "pow" = none := by decide +kernel
set_option tactic.hygienic false in
theorem plain_powT : plainId "pow" = true := by decide +kernel
set_option tactic.hygienic false in
theorem args_powT (a b c : Value) : argsOk "pow" ⟨[a, b, c], []⟩ := by unfold argsOk; kernel_rfl
set_option tactic.hygienic false in
theorem args_ipow3 (a b c : Value) : argsOk "int.__pow__" ⟨[a, b, c], []⟩ := by unfold argsOk; kernel_rfl
set_option tactic.hygienic false in
theorem entry_ipow : entryFor table "int.__pow__" = some Builtin.«int.__pow__» := entryFor_of_fast (by kernel_rfl)
set_option tactic.hygienic false in
theorem pow3 {a : Int} {t : Tok} {b : Int} {u : Tok} {n : Int} {v : Tok} {Q : Value → Shared → Prop} (hb : ¬ b < 0) (hn : 2 ≤ n) (h : ∀ tk tk', Q (.int (pm a b n) tk) { s with toks := tk' }) :
    wpAny (model prog w) A (call (.builtin "pow") [.int a t, .int b u, .int n v]) Q E s := by
  refine Calls.call_function_entry kind_powT plain_powT entry_powT (args_powT _ _ _) ?_
  unfold Builtin.«pow»
  refine wpAny_bind (m := Builtin.Builtins.bindParams "pow" ["base", "exp", "mod"] 2 ⟨[.int a t, .int b u, .int n v], []⟩) (wpAny_of_eq (a := [some (.int a t), some (.int b u), some (.int n v)]) (by kernel_rfl) ?_)
  dsimp only [Option.getD]
  refine wpAny_bind (wpAny_rule ?_)
  refine wpAny_bind (wpAny_typeOf (T := "int") (typeIs_int s a t) ?_)
  have hl : typeLookup (.type "int") "__pow__" = pure (some (.builtin "int.__pow__")) := by rw [typeLookup_type, builtinLookup_eq_fast]; kernel_rfl
  refine wpAny_bind (wpAny_of_eq hl ?_)
  dsimp only
  refine wpAny_bind (wpAny_callSpecial?_slot (name := Str.ofString "__pow__") (typeIs_int s a t) PySem.F.slot_int_pow
    (call_meets PySem.F.slot_int_pow (typeIs_int s a t) entry_ipow (args_ipow3 _ _ _) (ipow3 a t b u n v hb hn) ?_))
  show wpAny _ _ (if (Value.int (pm a b n) s.toks != Value.notImplemented) = true then ret (.int (pm a b n) s.toks) else _) _ _ _
  rw [if_pos (show (Value.int (pm a b n) s.toks != Value.notImplemented) = true by simp [bne])]
  exact wpAny_pure ⟨_, rfl, h _ _⟩
set_option tactic.hygienic false in
theorem iadd_list {l b : Addr} {items items2 : Array Value} {n n2 : Nat} {Q : Value → Shared → Prop} (hl : s.heap.get? l = some { cls := .type "list", data := .seq items n }) (hb : s.heap.get? b = some { cls := .type "list", data := .seq items2 n2 }) (hz : items.size + items2.size ≤ 1000)
    (h : ∀ h', Heap.SameBut l s.heap h' → (∃ n', h'.get? l = some { cls := .type "list", data := .seq (items ++ items2) n' }) → Q (.ref l) { s with heap := h' }) : wpAny (model prog w) A (inplaceOp .Add (.ref l) (.ref b)) Q E s := by
  have hT : s.TypeIs (.ref l) "list" := ⟨_, hl, rfl⟩
  have hT2 : s.TypeIs (.ref b) "list" := ⟨_, hb, rfl⟩
  have hlk : typeLookup (.type "list") (dunderI "add") = pure (some (.builtin "list.__iadd__")) := PySem.F.slot_list_iadd.lookup
  have hseq : isSeqSlot (some (.builtin "list.__iadd__")) = true := by decide +kernel
  unfold inplaceOp
  refine wpAny_holding ?_
  have hfi : fillsInplaceSlot (.type "list") "add" (Operator.Add == .Add) = pure false := by
    unfold fillsInplaceSlot
    show (typeLookup (.type "list") (dunderI "add") >>= fun fi => pure (fi.isSome && !isSeqSlot fi)) = pure false
    rw [hlk]
    show (pure (true && !isSeqSlot (some (.builtin "list.__iadd__"))) : Sem Bool) = pure false
    rw [hseq]; rfl
  refine wpAny_bind (wpAny_typeOf hT (wpAny_bind (wpAny_of_eq hfi ?_)))
  show wpAny _ A (if false = true then _ else _) Q E s
  rw [if_neg Bool.false_ne_true]
  refine wpAny_bind (wpAny_binaryOp1_none (nm := "add") hT hT2 noFill_list_add ?_)
  refine wpAny_bind (wpAny_of_eq (PySem.seqSlot_of hlk hseq) ?_)
  refine wpAny_bind (wpAny_rule ?_)
  have up := Heap.get?_update_self (h := s.heap) (Obj.mapSeq fun x => x ++ items2) hl rfl
  refine call_meets PySem.F.slot_list_iadd hT PySem.F.entry_list_iadd (PySem.F.args_list_iadd_2 _ _) (AutoSeq1.list___iadd___list_list_0 l items n b items2 n2 (by
    intro q
    have hb : Builtin.List.listTooLong (items.size + items2.size) = false := by
      unfold Builtin.List.listTooLong
      have := sizeLine_eq
      rw [decide_eq_false_iff_not]; omega
    rw [hb, Bool.and_false] at q; cases q) (by rw [sizeLine_eq]; omega) (by rw [sizeLine_eq]; omega)) ⟨hl, hb, h _ (Heap.SameBut.update ..) ⟨_, up⟩⟩
/-- every second item -/
noncomputable def pickS {α : Type} (xs : List α) (k : Nat) : List α := (List.range k).filterMap fun (i : Nat) => xs[2 * i]?
set_option tactic.hygienic false in
theorem pickS_arr (items : Array Value) (k : Nat) : ((List.range k).filterMap fun (i : Nat) => items[((0 : Int) + (i : Int) * 2).toNat]?).toArray = (pickS items.toList k).toArray := by
  unfold pickS
  congr 2
  funext i
  have : ((0 : Int) + (i : Int) * 2).toNat = 2 * i := by omega
  rw [this, Array.getElem?_toList]
set_option tactic.hygienic false in
theorem slice_tup {t sl : Addr} {items : Array Value} {u : Tok} {Q : Value → Shared → Prop} (ht : IsTup s.heap t items) (hs : s.heap.IsSliceOf sl .none .none (.int 2 u)) (hn : items.size ≤ 1000)
    (h : Q (.ref s.heap.objs.size) { s with heap := s.heap.push { cls := .type "tuple", data := .seq (pickS items.toList (Builtin.Slice.slicePlaces 0 (items.size : Int) 2)).toArray } }) : wpAny (model prog w) A (getItem (.ref t) (.ref sl)) Q E s := by
  obtain ⟨os, hos, hcs, hds⟩ := id hs
  have hTs : s.TypeIs (.ref sl) "slice" := ⟨os, hos, hcs⟩
  have hlen : (pickS items.toList (Builtin.Slice.slicePlaces 0 (items.size : Int) 2)).length ≤ items.size := by
    unfold pickS
    refine Nat.le_trans (List.length_filterMap_le _ _) ?_
    rw [List.length_range]
    unfold Builtin.Slice.slicePlaces
    simp only [show (2 : Int) > 0 by decide, if_true]
    split <;> omega
  have hdrop : sizeOk (.seq (pickS items.toList (Builtin.Slice.slicePlaces 0 (items.size : Int) 2)).toArray) := by
    show (pickS items.toList _).toArray.size ≤ sizeLine
    rw [List.size_toArray, sizeLine_eq]
    omega
  unfold getItem
  try with_reducible refine wpAny_holding ?_
  first | refine wpAny_bind (wpAny_pure ?_) | skip
  refine wpAny_bind (wpAny_sequenceKey ht.typeIs (by decide) ?_)
  refine wpAny_bind (wpAny_callSpecial?_slot (name := Str.ofString "__getitem__") ht.typeIs PySem.F.slot_tuple_getitem
    (wpAny_call_entry PySem.F.slot_tuple_getitem ht.typeIs PySem.F.entry_tuple_getitem ?_ (PySem.F.args_tuple_getitem_2 _ _)))
  show wpAny _ _ (Builtin.Tuple.tupleItemsOf (.ref t) >>= _) _ _ s
  refine wpAny_bind (tupleItemsOf_ ht ?_)
  refine wpAny_bind (wpAny_typeOf hTs ?_)
  rw [if_pos (by decide)]
  refine wpAny_bind ?_
  unfold Builtin.Slice.sliceApplied Builtin.Slice.sliceFields
  refine wpAny_bind (wpAny_bind (wpAny_field hos hds (x := .none) rfl (wpAny_bind (wpAny_field hos hds (x := .none) rfl (wpAny_bind (wpAny_field hos hds (x := .int 2 u) rfl (wpAny_pure ?_)))))))
  refine wpAny_bind (slicePart_int ?_)
  show wpAny _ _ (if ((2 : Int) == 0) = true then _ else _) _ _ s
  rw [if_neg (by decide)]
  refine wpAny_bind (slicePart_none (wpAny_bind (slicePart_none (wpAny_bind (wpAny_pure ?_)))))
  show wpAny _ _ (pure ((0 : Int), (2 : Int), Builtin.Slice.slicePlaces (0 : Int) (items.size : Int) 2)) _ _ s
  refine wpAny_pure ?_
  show wpAny _ _ (if ((0 : Int) == 0 && (2 : Int) == 1 && _) = true then _ else _) _ _ s
  rw [if_neg (by simp), pickS_arr]
  first
    | exact wpAny_bind (m := Builtin.Tuple.tupleExact _) (wpAny_newObj_type (wpAny_pure ⟨_, rfl, wpAny_pure h⟩) hdrop)
    | exact wpAny_bind (m := Builtin.Tuple.tupleExact _) (wpAny_newObj_type (wpAny_bind (wpAny_pure (wpAny_pure ⟨_, rfl, wpAny_pure h⟩))) hdrop)
    | exact wpAny_bind (wpAny_bind (m := Builtin.Tuple.tupleExact _) (wpAny_newObj_type (wpAny_pure (wpAny_pure ⟨_, rfl, wpAny_pure h⟩)) hdrop))
    | exact wpAny_bind (wpAny_bind (m := Builtin.Tuple.tupleExact _) (wpAny_newObj_type (wpAny_pure ⟨_, rfl, wpAny_pure h⟩) hdrop))
end
end Mine
open PySem.AutoSeq1 (wpAny_loadPart')
open PySem.MeetsSeq2
namespace Mine
section
variable {prog : Program} {w : World} {A : Around} {E : Value → Shared → Prop} {s : Shared}
theorem in_tup {t : Addr} {items : Array Value} {x : Value} {I : List Value → Shared → Prop} {Q : Value → Shared → Prop} (ht : s.heap.IsTuple t items)
    (turn : ∀ y rest s', I (y :: rest) s' → wpAny (model prog w) A.in1 (eqBool y x) (fun b s'' => if b = true then Q (.bool true) s'' else I rest s'') E s') (fin : ∀ s', I [] s' → Q (.bool false) s') (h : I items.toList s) :
    wpAny (model prog w) A (compareOp .In x (.ref t)) Q E s := by
  obtain ⟨⟨cls, dd, data, sl⟩, ho, hc, n, hd⟩ := id ht
  simp only at hc hd
  subst hc hd
  show wpAny _ _ (do return .bool (← contains (.ref t) x)) Q E s
  refine wpAny_bind (wpAny_contains_slot ht.typeIs PySem.F.slot_tuple_contains (wpAny_call_entry PySem.F.slot_tuple_contains ht.typeIs PySem.F.entry_tuple_contains ?_ (PySem.F.args_tuple_contains_2 _ _)))
  obtain ⟨hp, g, d, tk, os⟩ := s
  have key : ∀ {b : Bool} {s' : Shared}, Q (.bool b) s' → ∃ v, Fin.done (Flow.ret (.bool b)) = .done (.ret v) ∧ wpAny (model prog w) A (truthy v) (fun b s'' => wpAny (model prog w) A (pure (Value.bool b)) Q E s'') E s' := fun q => ⟨_, rfl, wpAny_pure (wpAny_pure q)⟩
  wp_walk using wpAny_loadPart' ho, wpAny_forIn_array _ (fun rest b s' => b.1 = none ∧ I rest s') _
  case turn =>
    rintro y rest b s' ⟨hb, hI⟩
    refine wpAny_bind (wpAny_mono (turn y rest s' hI) (fun b s'' h' => ?_) fun _ _ e => e)
    rcases b with _ | _
    rotate_left
    ·
      rw [if_pos rfl] at h'
      wp_walk
      exact key h'
    ·
      rw [if_neg (by decide)] at h'
      wp_walk
      exact ⟨rfl, h'⟩
  case fin =>
    rintro ⟨b1, b2⟩ s' ⟨hb, hI⟩
    simp only at hb
    subst hb
    wp_walk
    exact key (fin s' hI)
  case h => exact ⟨rfl, h⟩
set_option tactic.hygienic false in
theorem index_tup {t : Addr} {items : Array Value} {x : Value} {I : List Value → Nat → Shared → Prop} {Q : Value → Shared → Prop} (ht : s.heap.IsTuple t items)
    (turn : ∀ y rest i s', I (y :: rest) i s' → wpAny (model prog w) A.in1 (eqBool y x) (fun b s'' => if b = true then ∀ tk tk', Q (.int (i : Int) tk) { s'' with toks := tk' } else I rest (i + 1) s'') E s') (fin : ∀ i s', I [] i s' → False) (h : I items.toList 0 s) :
    wpAny (model prog w) A (call (.builtin "tuple.index") [.ref t, x]) Q E s := by
  obtain ⟨⟨cls, dd, data, sl⟩, ho, hc, n, hd⟩ := id ht
  simp only at hc hd
  subst hc hd
  refine wpAny_call_entry PySem.F.slot_tuple_index ht.typeIs PySem.F.entry_tuple_index ?_ (PySem.F.args_tuple_index_2 _ _)
  unfold Builtin.«tuple.index»
  refine wpAny_bind (m := selfAndSome "tuple.index" "index" 1 3 ⟨[.ref t, x], []⟩) (wpAny_pure ?_)
  dsimp only
  refine wpAny_bind (tupleItemsOf_ ht ?_)
  refine wpAny_bind (wpAny_pure (wpAny_bind (wpAny_pure (wpAny_bind ?_))))
  rw [Nat.min_self, Std.Legacy.Range.forIn_eq_forIn_range']
  have hsz : ([0:items.size] : Std.Legacy.Range).size = items.size := by simp [Std.Legacy.Range.size]
  show wpAny _ _ (forIn (List.range' 0 ([0:items.size] : Std.Legacy.Range).size 1) _ _) _ _ _
  rw [hsz]
  refine wpAny_forIn_list _ (fun (l : List Nat) b s' => b.1 = none ∧ ∃ i, l = List.range' i (items.size - i) 1 ∧ i ≤ items.size ∧ I (items.toList.drop i) i s') _ ?_ ?_ _ _ ⟨rfl, 0, by simp, Nat.zero_le _, by simpa using h⟩
  · rintro j rest ⟨b1, b2⟩ s' ⟨hb, i, hl, hi, hI⟩
    simp only at hb
    subst hb
    have hlt : i < items.size := by
      rcases Nat.lt_or_ge i items.size with q | q
      · exact q
      · rw [show items.size - i = 0 by omega] at hl; cases hl
    rw [show items.size - i = (items.size - (i + 1)) + 1 by omega, List.range'_succ] at hl
    cases hl
    have hd : items.toList.drop j = items[j] :: items.toList.drop (j + 1) := by simp [List.drop_eq_getElem_cons, hlt]
    rw [hd] at hI
    rw [Array.getElem?_eq_getElem hlt]
    refine wpAny_bind (wpAny_mono (turn _ _ _ s' hI) (fun b s'' h' => ?_) fun _ _ e => e)
    rcases b with _ | _
    rotate_left
    ·
      rw [if_pos rfl] at h' ⊢
      refine wpAny_bind (wpAny_bind (wpAny_mkInt (wpAny_pure (wpAny_pure ?_))))
      exact wpAny_pure ⟨_, rfl, h' _ _⟩
    ·
      rw [if_neg (by decide)] at h' ⊢
      exact wpAny_pure ⟨rfl, j + 1, rfl, hlt, h'⟩
  · rintro ⟨b1, b2⟩ s' ⟨hb, i, hl, hi, hI⟩
    exfalso
    have : items.size - i = 0 := by
      cases q : items.size - i with
      | zero => rfl
      | succ k => rw [q, List.range'_succ] at hl; cases hl
    rw [List.drop_of_length_le (by rw [Array.length_toList]; omega)] at hI
    exact fin _ _ hI
set_option tactic.hygienic false in
theorem rc_gt {a b : Int} {t u : Tok} {Q : Value → Shared → Prop} (h : Q (.bool (decide (b < a))) s) : wpAny (model prog w) A (richCompare .Gt (.int a t) (.int b u)) Q E s := by
  have := PyProof.Rows.gt_int (prog := prog) (w := w) (A := A) (E := E) (s := s) (a := a) (b := b) (t := t) (u := u) (Q := Q) h
  exact this
set_option tactic.hygienic false in
theorem gt_tup {x y : Addr} {a b c d : Int} {t1 t2 t3 t4 : Tok} {Q : Value → Shared → Prop} (hx : s.heap.IsTuple x #[.int a t1, .int b t2]) (hy : s.heap.IsTuple y #[.int c t3, .int d t4]) (hu : A.units < cLine)
    (h : Q (.bool (if a == c then (if b == d then false else decide (d < b)) else decide (c < a))) s) : wpAny (model prog w) A (compareOp .Gt (.ref x) (.ref y)) Q E s := by
  obtain ⟨⟨cls, dd, data, sl⟩, ho, hc, n, hd⟩ := id hx
  simp only at hc hd
  subst hc hd
  obtain ⟨⟨cls, dd', data, sl'⟩, ho', hc, n', hd⟩ := id hy
  simp only at hc hd
  subst hc hd
  refine cmp_ofGt (wpAny_richCompare_same_room (id := "tuple.__gt__") hx.typeIs hy.typeIs PySem.F.slot_tuple_gt ?_ hu)
  refine wpAny_call_entry PySem.F.slot_tuple_gt hx.typeIs PySem.F.entry_tuple_gt ?_ (PySem.F.args_tuple_gt_2 _ _)
  obtain ⟨hp, g, dr, tk, os⟩ := s
  have hsub : isSubtype (.type "tuple") (.type "tuple") = pure true := by rw [isSubtype_type]; kernel_rfl
  wp_walk using wpAny_loadPart' ho, wpAny_loadPart' ho', wpAny_eqBool_int
  rcases e1 : a == c with _ | _
  ·
    rw [e1] at h
    wp_walk using wpAny_eqBool_int, rc_gt
    exact ⟨_, rfl, nofun, h⟩
  ·
    rw [e1] at h
    wp_walk using wpAny_eqBool_int, rc_gt
    rcases e2 : b == d with _ | _
    ·
      rw [e2] at h
      wp_walk using wpAny_eqBool_int, rc_gt
      exact ⟨_, rfl, nofun, h⟩
    ·
      rw [e2] at h
      wp_walk using wpAny_eqBool_int, rc_gt
      exact ⟨_, rfl, nofun, h⟩
end
set_option tactic.hygienic false in
theorem en_no_len : typeLookup (.type "enumerate") "__len__" = pure none := by rw [typeLookup_type, builtinLookup_eq_fast]; kernel_rfl
set_option tactic.hygienic false in
theorem en_no_hint : typeLookup (.type "enumerate") "__length_hint__" = pure none := by rw [typeLookup_type, builtinLookup_eq_fast]; kernel_rfl
/-- an enumerate, its tuple held or not -/
noncomputable def EnH (h : Heap) (e it : Addr) (i : Int) : Prop := ∃ f0 f1 old, h.get? e = some { cls := .type "enumerate", dict := none, data := .fields #[f0, .bool f1, .ref it, rawInt i, .none, old], slots := #[] } ∧ (f0 = .none ∨ ∃ a : Nat, f0 = rawInt a)
section
variable {w : World} {A : Around} {E : Value → Shared → Prop} {s : Shared}
set_option tactic.hygienic false in
theorem wpAny_lia {M : Model} {a : Addr} {Q : Option Obj → Shared → Prop} (h : Q (s.heap.get? a) s) : wpAny M A (loadIfAlive a) Q E s := fun _ _ _ => h
set_option tactic.hygienic false in
theorem enh_next {e it : Addr} {fp : List Addr} {n i : Nat} {P : Nat → Value → Prop} {St : Nat → Heap → Prop} {Q : Value → Shared → Prop}
    (D : Draws PW w A it fp n P St) (he : EnH s.heap e it i) (hst : St i s.heap) (hlt : i < n) (hne : e ≠ it) (hef : e ∉ fp)
    (hQ : ∀ x h' tk tk', P i x → EnH h' e it ((i : Int) + 1) → St (i + 1) h' → h'.get? s.heap.objs.size = some { cls := .type "tuple", data := .seq #[.int i tk', x] } →
      (∀ b o, b ≠ e → b ≠ it → s.heap.get? b = some o → h'.get? b = some o) → Q (.ref s.heap.objs.size) { s with heap := h', toks := tk }) :
    wpAny (model PW w) A (Builtin.«enumerate.__next__» ⟨[.ref e], []⟩) (fun fin s' => ∃ v, fin = .done (.ret v) ∧ Q v s') E s := by
  obtain ⟨hp, g, d, tk₀, os⟩ := s
  obtain ⟨f0, f1, old, he, hf⟩ := he
  show wpAny _ _ (field (.ref e) 2 >>= _) _ _ _
  refine wpAny_bind (wpAny_field he rfl (x := .ref it) rfl ?_)
  refine wpAny_bind (D.item i _ _ _ hlt hst fun x h₁ tk hPx hit₁ hs₁ => ?_)
  replace hs₁ : Heap.SameBut it hp h₁ := hs₁
  have he₁ := (hs₁.2 e hne).trans he
  show wpAny _ _ (field (.ref e) 3 >>= _) _ _ ⟨h₁, g, d, tk, os⟩
  refine wpAny_bind (wpAny_field he₁ rfl (x := rawInt i) rfl ?_)
  show wpAny _ _ (field (.ref e) 4 >>= _) _ _ ⟨h₁, g, d, tk, os⟩
  refine wpAny_bind (wpAny_field he₁ rfl (x := .none) rfl ?_)
  show wpAny _ _ (mkInt i >>= _) _ _ ⟨h₁, g, d, tk, os⟩
  refine wpAny_bind (wpAny_mkInt ?_)
  show wpAny _ _ (setField (.ref e) 3 (rawInt ((i : Int) + 1)) >>= _) _ _ ⟨h₁, g, d, tk + 1, os⟩
  refine wpAny_bind (wpAny_setField_rec he₁ (by simp) fun h₂ he₂ hs₂ => ?_)
  replace hs₂ : Heap.SameBut e h₁ h₂ := hs₂
  show wpAny _ _ (setField (.ref e) 4 .none >>= _) _ _ ⟨h₂, g, d, tk + 1, os⟩
  refine wpAny_bind (wpAny_setField_rec he₂ (by simp) fun h₃ he₃ hs₃ => ?_)
  replace hs₃ : Heap.SameBut e h₂ h₃ := hs₃
  replace he₃ : h₃.get? e = some { cls := .type "enumerate", dict := none, data := .fields #[f0, .bool f1, .ref it, rawInt ((i : Int) + 1), .none, old], slots := #[] } := he₃
  show wpAny _ _ (newTuple [.int i tk, x] >>= _) _ _ ⟨h₃, g, d, tk + 1, os⟩
  refine wpAny_bind (wpAny_newTuple ?_)
  have he₄ : (h₃.push { cls := .type "tuple", data := .seq #[.int i tk, x] }).get? e = _ := Heap.get?_push_of_some _ he₃
  generalize hh₄ : h₃.push { cls := .type "tuple", data := .seq #[.int i tk, x] } = h₄ at he₄
  have hsz : h₃.objs.size = hp.objs.size := by rw [hs₃.1, hs₂.1, hs₁.1]
  have hel : e < hp.objs.size := Heap.lt_size he
  have ht₄ : h₄.get? hp.objs.size = some { cls := .type "tuple", data := .seq #[.int i tk, x] } := by rw [← hh₄, ← hsz]; exact Heap.get?_push_size _ rfl
  have hk₄ : ∀ b o, b ≠ e → b ≠ it → hp.get? b = some o → h₄.get? b = some o := fun b o hbe hbi hb => by
    rw [← hh₄]; exact Heap.get?_push_of_some _ (hs₃.extBut b o hbe (hs₂.extBut b o hbe (hs₁.extBut b o hbi hb)))
  have hit₄ : St (i + 1) h₄ := D.frame _ _ _ hit₁ fun b hb o y => by
    have hbe : b ≠ e := fun q => hef (q ▸ hb)
    rw [← hh₄]; exact Heap.get?_push_of_some _ (hs₃.extBut b o hbe (hs₂.extBut b o hbe y))
  have fin : ∀ (h₅ : Heap), (∃ f0 f1 old, h₅.get? e = some { cls := .type "enumerate", dict := none, data := .fields #[f0, .bool f1, .ref it, rawInt ((i : Int) + 1), .none, old], slots := #[] } ∧ (f0 = .none ∨ ∃ a : Nat, f0 = rawInt a)) → (∀ b o, b ≠ e → h₄.get? b = some o → h₅.get? b = some o) →
      Q (.ref hp.objs.size) ⟨h₅, g, d, tk + 1, os⟩ := fun h₅ e₅ k₅ =>
    hQ x h₅ (tk + 1) tk hPx e₅ (D.frame _ _ _ hit₄ fun b hb o y => k₅ b o (fun q => hef (q ▸ hb)) y) (k₅ _ _ (Nat.ne_of_gt hel) ht₄) fun b o hbe hbi hb => k₅ b o hbe (hk₄ b o hbe hbi hb)
  show wpAny _ _ (Builtin.SmallTypes.ownedTupleIsFree (.ref e) >>= _) _ _ ⟨h₄, g, d, tk + 1, os⟩
  rw [hsz]
  have free : wpAny (model PW w) A (do
      rule "enumerate.__next__.owned-tuple-again"
      let old ← field (.ref e) 5
      setField (.ref e) 5 x
      Builtin.SmallTypes.ownedTupleHandOut (.ref e) (.ref hp.objs.size)
      letGo [old] [.ref hp.objs.size]
      ret (.ref hp.objs.size)) (fun fin s' => ∃ v, fin = .done (.ret v) ∧ Q v s') E ⟨h₄, g, d, tk + 1, os⟩ := by
    refine wpAny_bind (wpAny_rule ?_)
    refine wpAny_bind (wpAny_field he₄ rfl (x := old) rfl ?_)
    refine wpAny_bind (wpAny_setField_rec he₄ (by simp) fun h₅ he₅ hs₅ => ?_)
    replace hs₅ : Heap.SameBut e h₄ h₅ := hs₅
    refine wpAny_bind ?_
    unfold Builtin.SmallTypes.ownedTupleHandOut
    refine wpAny_bind (wpAny_setField_rec he₅ (by simp) fun h₆ he₆ hs₆ => ?_)
    replace hs₆ : Heap.SameBut e h₅ h₆ := hs₆
    refine wpAny_setField_rec he₆ (by simp) fun h₇ he₇ hs₇ => ?_
    replace hs₇ : Heap.SameBut e h₆ h₇ := hs₇
    refine wpAny_bind (wpAny_letGo (wpAny_pure ⟨_, rfl, fin h₇ ⟨_, _, _, he₇, .inr ⟨_, rfl⟩⟩ fun b o hb q => hs₇.extBut b o hb (hs₆.extBut b o hb (hs₅.extBut b o hb q))⟩))
  refine wpAny_bind ?_
  unfold Builtin.SmallTypes.ownedTupleIsFree
  rcases hf with rfl | ⟨a, rfl⟩
  · refine wpAny_bind (wpAny_field he₄ rfl (x := .none) rfl (wpAny_pure ?_))
    simp only [if_true]
    exact free
  · refine wpAny_bind (wpAny_field he₄ rfl (x := rawInt a) rfl ?_)
    show wpAny _ _ (loadIfAlive a >>= _) _ _ _
    refine wpAny_bind (wpAny_lia ?_)
    rcases hal : h₄.get? a with _ | oa
    ·
      show wpAny _ _ (pure true) _ _ _
      refine wpAny_pure ?_
      simp only [if_true]
      exact free
    ·
      show wpAny _ _ (field (.ref e) 1 >>= _) _ _ _
      refine wpAny_bind (wpAny_field he₄ rfl (x := .bool f1) rfl ?_)
      rcases f1 with _ | _
      rotate_left
      ·
        show wpAny _ _ (pure false) _ _ _
        refine wpAny_pure ?_
        simp only [Bool.false_eq_true, if_false]
        exact wpAny_pure ⟨_, rfl, fin h₄ ⟨_, _, _, he₄, .inr ⟨_, rfl⟩⟩ fun b o hb q => q⟩
      ·
        show wpAny _ _ (setField (.ref e) 1 (.bool true) >>= _) _ _ _
        refine wpAny_bind (wpAny_setField_rec he₄ (by simp) fun h₅ he₅ hs₅ => ?_)
        replace hs₅ : Heap.SameBut e h₄ h₅ := hs₅
        refine wpAny_pure ?_
        simp only [Bool.false_eq_true, if_false]
        exact wpAny_pure ⟨_, rfl, fin h₅ ⟨_, _, _, he₅, .inr ⟨_, rfl⟩⟩ fun b o hb q => hs₅.extBut b o hb q⟩
set_option tactic.hygienic false in
theorem enh_item {e it : Addr} {fp : List Addr} {n i : Nat} {P : Nat → Value → Prop} {St : Nat → Heap → Prop} {Q : Option Value → Shared → Prop}
    (D : Draws PW w A.in1 it fp n P St) (he : EnH s.heap e it i) (hst : St i s.heap) (hlt : i < n) (hne : e ≠ it) (hef : e ∉ fp)
    (hQ : ∀ x h' tk tk', P i x → EnH h' e it ((i : Int) + 1) → St (i + 1) h' → h'.get? s.heap.objs.size = some { cls := .type "tuple", data := .seq #[.int i tk', x] } →
      (∀ b o, b ≠ e → b ≠ it → s.heap.get? b = some o → h'.get? b = some o) → Q (some (.ref s.heap.objs.size)) { s with heap := h', toks := tk }) :
    wpAny (model PW w) A (pyNext (.ref e)) Q E s := by
  have hT : s.TypeIs (.ref e) "enumerate" := let ⟨_, _, _, q, _⟩ := he; ⟨_, q, rfl⟩
  unfold pyNext
  exact wpAny_bind (wpAny_attempt (wpAny_callSpecial?_slot (name := Str.ofString "__next__") hT PySem.F.slot_enumerate_next
    (wpAny_call_entry PySem.F.slot_enumerate_next hT PySem.F.entry_enumerate_next
      (enh_next D he hst hlt hne hef fun x h' tk tk' a b c d k => wpAny_pure (hQ x h' tk tk' a b c d k)) (PySem.F.args_enumerate_next_1 _))))
set_option tactic.hygienic false in
theorem enh_end {e it : Addr} {fp : List Addr} {n : Nat} {P : Nat → Value → Prop} {St : Nat → Heap → Prop} {i : Int} {Q : Option Value → Shared → Prop}
    (D : Draws PW w A.in1 it fp n P St) (he : EnH s.heap e it i) (hst : St n s.heap) (hQ : ∀ h', Heap.ExtBut it s.heap h' → Q none { s with heap := h' }) : wpAny (model PW w) A (pyNext (.ref e)) Q E s := by
  obtain ⟨f0, f1, old, he, _⟩ := he
  have hT : s.TypeIs (.ref e) "enumerate" := ⟨_, he, rfl⟩
  unfold pyNext
  refine wpAny_bind (wpAny_attempt (wpAny_callSpecial?_slot (name := Str.ofString "__next__") hT PySem.F.slot_enumerate_next
    (wpAny_call_entry PySem.F.slot_enumerate_next hT PySem.F.entry_enumerate_next ?_ (PySem.F.args_enumerate_next_1 _))))
  show wpAny _ _ (field (.ref e) 2 >>= _) _ _ _
  refine wpAny_bind (wpAny_field he rfl (x := .ref it) rfl ?_)
  refine wpAny_bind (D.done _ _ _ hst fun h' x he' hx' => ?_)
  obtain ⟨o, ho, hc⟩ := hx'
  refine wpAny_bind (wpAny_isInstance (T := "StopIteration") (b := true) ⟨o, ho, hc⟩ isSubtype_stop ?_)
  exact wpAny_pure (hQ _ he')
set_option tactic.hygienic false in
theorem ext_loop {I S : Addr} {res : Value} {n : Nat} {R : Result → Shared → Prop} (J : Nat → Shared → Prop)
    (turn : ∀ i s, i < n → J i s → wpAny (model PW w) A.in1 (pyNext (.ref I)) (fun r s' => ∃ v xs c, r = some v ∧ s'.heap.get? S = some { cls := .type "list", data := .seq xs c } ∧ xs.size ≤ 1000 ∧
      ∀ h', Heap.SameBut S s'.heap h' → (∃ c', h'.get? S = some { cls := .type "list", data := .seq (xs.push v) c' }) → J (i + 1) { s' with heap := h' }) (fun e s' => R (.error e) s') s)
    (fin : ∀ s, J n s → wpAny (model PW w) A.in1 (pyNext (.ref I)) (fun r s' => r = none ∧ R (.ok (.ret res)) s') (fun e s' => R (.error e) s') s) :
    ∀ (k i : Nat) (s : Shared), n - i = k → i ≤ n → J i s → codeAny (model PW w) A (.builtin "list.extend.loop" ⟨[.ref S, .ref I, res], []⟩) R s := by
  intro k
  induction k with
  | zero =>
    intro i s hk hi hJ
    have hin : i = n := by omega
    subst hin
    refine codeAny_builtin PySem.F.entry_extend_loop ?_
    rw [Around.under_plainId PySem.F.plain_extend_loop _]
    show wpAny _ A.in1 (pyNext (.ref I) >>= _) _ _ s
    refine wpAny_bind (wpAny_mono (fin s hJ) (fun r s' h' => ?_) fun _ _ e => e)
    obtain ⟨rfl, h'⟩ := h'
    exact wpAny_pure h'
  | succ k ih =>
    intro i s hk hi hJ
    refine codeAny_builtin PySem.F.entry_extend_loop ?_
    rw [Around.under_plainId PySem.F.plain_extend_loop _]
    show wpAny _ A.in1 (pyNext (.ref I) >>= _) _ _ s
    refine wpAny_bind (wpAny_mono (turn i s (by omega) hJ) (fun r s' h' => ?_) fun _ _ e => e)
    obtain ⟨v, xs, c, rfl, hS, hz, hJ'⟩ := h'
    show wpAny _ A.in1 (updateSeq S (·.push v) >>= _) _ _ _
    refine wpAny_bind ?_
    refine wpAny_updateSeq hS rfl (wpAny_pure ⟨plainId_quiet PySem.F.plain_extend_loop _, ih (i + 1) _ (by omega) (by omega) (hJ' _ (Heap.SameBut.update ..) ⟨_, Heap.get?_update_self _ hS rfl⟩)⟩)
      (by rw [sizeLine_eq]; omega) (by show (xs.push v).size ≤ sizeLine + 1; rw [Array.size_push, sizeLine_eq]; omega)
/-- a row of pairs that an enumerate has handed on -/
noncomputable def Pairs (h0 h : Heap) (items : Array Value) (no : List Addr) (xs : Array Value) : Prop := ∀ (j : Nat) v, xs[j]? = some v → ∃ T t x, v = .ref T ∧ items[j]? = some x ∧ h.get? T = some { cls := .type "tuple", data := .seq #[.int (j : Int) t, x] } ∧ h0.get? T = none ∧ T ∉ no
theorem list_enum {e it l : Addr} {items : Array Value} {h0 : Heap} {Q : Value → Shared → Prop} (hh : A.handled = none) (he : IsEnum s.heap e it 0 .none) (hit : s.heap.IsTupleIter it l 0) (hl : s.heap.IsTuple l items) (hei : e ≠ it) (hle : l ≠ e) (hli : l ≠ it) (hn : items.size ≤ 100)
    (he0 : h0.get? e = none) (hi0 : h0.get? it = none) (hk : ∀ b o, h0.get? b = some o → s.heap.get? b = some o)
    (h : ∀ h' tk S xs c, (∀ b o, h0.get? b = some o → h'.get? b = some o) → h0.get? S = none → h'.get? S = some { cls := .type "list", data := .seq xs c } → xs.size = items.size → Pairs h0 h' items [S] xs → Q (.ref S) { s with heap := h', toks := tk }) :
    wpAny (model PW w) A (call (.type "list") [.ref e]) Q E s := by
  let S : Addr := s.heap.objs.size
  have lt : ∀ {b o}, s.heap.get? b = some o → b ≠ s.heap.objs.size := fun q => Nat.ne_of_lt (Heap.lt_size q)
  have eS : e ≠ s.heap.objs.size := lt he
  have iS : it ≠ s.heap.objs.size := let ⟨_, q, _⟩ := hit; lt q
  have lS : l ≠ s.heap.objs.size := let ⟨_, q, _⟩ := hl; lt q
  have hT : s.TypeIs (.ref e) "enumerate" := ⟨_, he, rfl⟩
  have s0 : h0.get? s.heap.objs.size = none := by
    rcases q : h0.get? s.heap.objs.size with _ | o
    · rfl
    · exact absurd rfl (lt (hk _ _ q))
  refine callType_codes (Q₁ := fun obj s₁ => obj = .ref s.heap.objs.size ∧ s₁ = { s with heap := s.heap.push { cls := .type "list", data := .seq #[] } }) PySem.F.called_list (PySem.F.typeCall_list_1 _) PySem.F.entry_list_init
    (code_list_new _ ⟨rfl, rfl⟩) fun obj s₁ h₁ => ?_
  obtain ⟨rfl, rfl⟩ := h₁
  have hS : (s.heap.push { cls := .type "list", data := .seq #[] }).get? s.heap.objs.size = some { cls := .type "list", data := .seq #[] } := Heap.get?_push_size _ rfl
  refine ⟨⟨_, hS, rfl⟩, PySem.F.args_list_init_2 _ _, ?_⟩
  generalize hH : s.heap.push { cls := .type "list", data := .seq #[] } = H at hS ⊢
  have kH : ∀ b o, s.heap.get? b = some o → H.get? b = some o := fun b o q => hH ▸ Heap.get?_push_of_some _ q
  generalize hSe : s.heap.objs.size = S' at *
  show wpAny _ A.in1.in1 (do let old ← Builtin.List.listItems (.ref S'); Builtin.List.listUpdate (.ref S') (fun _ => #[]); letGo old.toList.reverse; Builtin.List.listExtendWith (.ref S') (.ref e) .none) _ _ _
  refine wpAny_bind ?_
  unfold Builtin.List.listItems
  refine wpAny_bind (wpAny_seqItems hS rfl (wpAny_pure ?_))
  show wpAny _ A.in1.in1 (updateSeq S' (fun _ => #[]) >>= fun _ => letGo (#[] : Array Value).toList.reverse >>= fun _ => Builtin.List.listExtendWith (.ref S') (.ref e) .none) _ _ _
  refine wpAny_bind (wpAny_updateSeq hS rfl ?_)
  have hS₂ := Heap.get?_update_self (Obj.mapSeq (fun _ => (#[] : Array Value))) hS rfl
  have k₂ : ∀ b o, b ≠ S' → H.get? b = some o → (H.update S' (Obj.mapSeq (fun _ => (#[] : Array Value)))).get? b = some o := fun b o hb q => (Heap.get?_update_other _ _ (Ne.symm hb)).trans q
  refine wpAny_bind (wpAny_letGo ?_)
  generalize H.update S' (Obj.mapSeq (fun _ => (#[] : Array Value))) = H2 at hS₂ k₂ ⊢
  have he₂ := k₂ _ _ eS (kH _ _ he)
  have hT₂ : Shared.TypeIs { s with heap := H2 } (.ref e) "enumerate" := ⟨_, he₂, rfl⟩
  unfold Builtin.List.listExtendWith
  refine wpAny_bind (wpAny_typeOf hT₂ ?_)
  have h1 : Builtin.List.listSameRef (.ref S') (.ref e) = false := by simp [Builtin.List.listSameRef, Ne.symm eS]
  have h2 : (Value.type "enumerate" == Value.type "list") = false := by decide
  have h3 : (Value.type "enumerate" == Value.type "tuple") = false := by decide
  simp only [h1, h2, h3, Bool.or_false, Bool.false_eq_true, if_false]
  refine wpAny_bind (wpAny_pyIter_enum (s := { s with heap := H2 }) he₂ ?_)
  refine wpAny_bind (wpAny_holding ?_)
  unfold Builtin.List.listLengthHint
  refine wpAny_bind (wpAny_specialOf hT₂ en_no_len ?_)
  show wpAny _ A.in1.in1 (specialOf (Value.ref e) (Str.ofString "__length_hint__") >>= _) _ _ _
  refine wpAny_bind (wpAny_specialOf hT₂ en_no_hint ?_)
  refine wpAny_pure ?_
  show wpAny _ A.in1.in1 (rule "list.extend.makes-room" >>= fun _ => Builtin.List.listTouch (.ref S') >>= fun _ =>
    again (.builtin "list.extend.loop" ⟨[.ref S', .ref e, .none], []⟩)) _ _ _
  refine wpAny_bind (wpAny_rule ?_)
  refine wpAny_bind ?_
  show wpAny _ A.in1.in1 (updateSeq S' (·.push .none) >>= fun _ => updateSeq S' (·.pop)) _ _ _
  refine wpAny_bind (wpAny_updateSeq hS₂ rfl ?_)
  have hS₃ := Heap.get?_update_self (Obj.mapSeq (·.push Value.none)) hS₂ rfl
  refine wpAny_updateSeq hS₃ rfl ?_
  have hS₄ := Heap.get?_update_self (Obj.mapSeq (·.pop)) hS₃ rfl
  have k₄ : ∀ b o, b ≠ S' → H2.get? b = some o → ((H2.update S' (Obj.mapSeq (·.push Value.none))).update S' (Obj.mapSeq (·.pop))).get? b = some o :=
    fun b o hb q => (Heap.get?_update_other _ _ (Ne.symm hb)).trans ((Heap.get?_update_other _ _ (Ne.symm hb)).trans q)
  generalize (H2.update S' (Obj.mapSeq (·.push Value.none))).update S' (Obj.mapSeq (·.pop)) = H4 at hS₄ k₄ ⊢
  have kk : ∀ b o, b ≠ S' → s.heap.get? b = some o → H4.get? b = some o := fun b o hb q => k₄ b o hb (k₂ b o hb (kH b o q))
  have D := drawsT (w := w) (A := A.in1.in1.in1) hh it l hli items
  have b0 : ∀ b o, h0.get? b = some o → b ≠ S' ∧ b ≠ e ∧ b ≠ it := fun b o q => ⟨fun z => (by rw [z, s0] at q; cases q), fun z => (by rw [z, he0] at q; cases q), fun z => (by rw [z, hi0] at q; cases q)⟩
  refine wpAny_pure ⟨plainId_quiet PySem.F.plain_extend_loop _, ext_loop (fun i s' => ∃ h' tk xs c, s' = { s with heap := h', toks := tk } ∧ (∀ b o, h0.get? b = some o → h'.get? b = some o) ∧ EnH h' e it i ∧ (h'.IsTupleIter it l i ∧ h'.IsTuple l items) ∧ h'.get? S' = some { cls := .type "list", data := .seq xs c } ∧ xs.size = i ∧ Pairs h0 h' items [S', e, it] xs)
    (n := items.size) ?_ ?_ items.size 0 _ rfl (Nat.zero_le _) ⟨H4, s.toks, #[], _, rfl, fun b o q => kk b o (b0 b o q).1 (hk b o q), ⟨_, _, _, kk _ _ eS he, .inl rfl⟩, ⟨let ⟨o, q, z⟩ := hit; ⟨o, kk _ o iS q, z⟩, let ⟨o, q, z⟩ := hl; ⟨o, kk _ o lS q, z⟩⟩, hS₄, rfl, fun j v q => by simp at q⟩⟩
  · rintro i s' hi ⟨h', tk, xs, c, rfl, g1, g2, g3, g4, g5, g6⟩
    refine enh_item D g2 g3 hi hei (by simp only [List.mem_cons, List.not_mem_nil, or_false, not_or]; exact ⟨hei, hle.symm⟩) fun x h₂ tk₂ tk₃ hx e2 st2 ht2 hk2 => ?_
    have S2 := hk2 _ _ (Ne.symm eS) (Ne.symm iS) g4
    refine ⟨_, xs, c, rfl, S2, by rw [g5]; omega, fun h₃ hs₃ ⟨c', hS₃'⟩ => ⟨h₃, tk₂, xs.push (.ref h'.objs.size), c', rfl, fun b o q => ?_, ?_, ⟨?_, ?_⟩, hS₃', by rw [Array.size_push, g5], fun j v q => ?_⟩⟩
    · exact hs₃.extBut b o (b0 b o q).1 (hk2 b o (b0 b o q).2.1 (b0 b o q).2.2 (g1 b o q))
    · obtain ⟨a1, a2, a3, a4, a5⟩ := e2
      exact ⟨a1, a2, a3, hs₃.extBut _ _ eS a4, a5⟩
    · obtain ⟨o, q, z⟩ := st2.1; exact ⟨o, hs₃.extBut _ _ iS q, z⟩
    · obtain ⟨o, q, z⟩ := st2.2; exact ⟨o, hs₃.extBut _ _ lS q, z⟩
    · have fr : ∀ {b o}, h'.get? b = some o → (h'.objs.size : Addr) ≠ b := fun q => Nat.ne_of_gt (Heap.lt_size q)
      rw [Array.getElem?_push] at q
      split at q
      · next w =>
        cases q
        have e' : j = i := w.trans g5
        subst e'
        refine ⟨h'.objs.size, tk₃, x, rfl, hx, hs₃.extBut _ _ (fr g4) ht2, ?_, ?_⟩
        · rcases z : h0.get? h'.objs.size with _ | o
          · rfl
          · exact absurd rfl (fr (g1 _ _ z))
        · simp only [List.mem_cons, List.not_mem_nil, or_false, not_or]
          obtain ⟨_, _, _, a4, _⟩ := g2
          obtain ⟨_, b1, _⟩ := g3.1
          exact ⟨fr g4, fr a4, fr b1⟩
      · obtain ⟨T, t, y, z1, z2, z3, z4, z5⟩ := g6 j v q
        simp only [List.mem_cons, List.not_mem_nil, or_false, not_or] at z5
        exact ⟨T, t, y, z1, z2, hs₃.extBut _ _ z5.1 (hk2 _ _ z5.2.1 z5.2.2 z3), z4, by simp only [List.mem_cons, List.not_mem_nil, or_false, not_or]; exact z5⟩
  · rintro s' ⟨h', tk, xs, c, rfl, g1, g2, g3, g4, g5, g6⟩
    refine enh_end D g2 g3 fun h₂ hx => ⟨rfl, ?_⟩
    have hq := h h₂ tk S' xs c (fun b o q => hx b o (b0 b o q).2.2 (g1 b o q)) s0 (hx _ _ (Ne.symm iS) g4) g5 (fun j v q => by
      obtain ⟨T, t, y, z1, z2, z3, z4, z5⟩ := g6 j v q
      simp only [List.mem_cons, List.not_mem_nil, or_false, not_or] at z5
      exact ⟨T, t, y, z1, z2, hx _ _ z5.2.2 z3, z4, fun m => z5.1 (List.mem_singleton.mp m)⟩)
    exact ⟨rfl, hq⟩
end
set_option tactic.hygienic false in
/-- what an object is, its address tells -/
theorem el_unique {W : Wd} {h : Heap} {a : Addr} {p x y q u v : Int} (sub : ∀ b o, W.H b o → h.get? b = some o) (e : ElAt W.H a p x y) (f : ElAt W.H a q u v) : x = u ∧ y = v := by
  obtain ⟨_, ox, d, es, n, lm, tc, tm, t0, h1, h2, h3, h4, h5, D, _, _, ⟨o9, a9, b9, g9, g9'⟩, _⟩ := e
  obtain ⟨_, ox', d', es', n', lm', tc', tm', t0', h1', h2', h3', h4', h5', D', _, _, ⟨o9', a9', b9', i9, i9'⟩, _⟩ := f
  have fn : ∀ {b o o'}, W.H b o → W.H b o' → o = o' := fun q r => by
    have z := sub _ _ q
    rw [sub _ _ r] at z
    exact (Option.some.inj z).symm
  obtain rfl := fn h1 h1'
  rw [h4] at h4'
  cases h4'
  have := fn h5 h5'
  have es_ : es = es' := by
    have := congrArg Obj.data this
    simp only [dictOf, Data.dict.injEq] at this
    have := congrArg Array.toList this.1
    simpa using this
  subst es_
  have tc_ := D.co.symm.trans D'.co
  cases tc_
  obtain rfl := fn g9 i9
  obtain ⟨_, _, m1, k1⟩ := g9'
  obtain ⟨_, _, m2, k2⟩ := i9'
  rw [k1] at k2
  cases k2
  exact ⟨rfl, rfl⟩
/-- within a row of elements -/
noncomputable def sbO : T Unit SV → Option Bool
  | .ret (.sb e) => some e
  | _ => none
theorem sbO_eq {t : T Unit SV} {e : Bool} (h : sbO t = some e) : t = .ret (.sb e) := by
  cases t <;> (try exact none_neQ h)
  rename_i v
  cases v <;> (try exact none_neQ h)
  obtain rfl := Option.some.inj h
  rfl
noncomputable def eqEl (C : Cx) (x y : SV) : Option (Bool × Bool) := match x, y with
  | .el _ a b, .el _ c d => (sbO (C.F 176 [y, x])).map fun e => (e, c == a && d == b)
  | _, _ => none
noncomputable def inEl (C : Cx) (x : SV) : List SV → St → TS SV
  | [], st => .ret (.bool false, st)
  | y :: r, st => match eqEl C x y with
    | some (e, b) => .need (e == b) (.dec b (.ret (.bool true, st)) (inEl C x r st))
    | none => .stuck
noncomputable def idxEl (C : Cx) (x : SV) : List SV → Nat → St → TS SV
  | [], _, _ => .stuck
  | y :: r, i, st => match eqEl C x y with
    | some (e, b) => .need (e == b) (.dec b (.ret (.num (i : Int), st)) (idxEl C x r (i + 1) st))
    | none => .stuck
section
variable {m n : Nat} {X : Fx} {W : Wd} {st : St} {A : Around} {E : Value → Shared → Prop} {s : Shared} {C : Cx}
theorem eqEl_sound {x y : SV} {ux uy : Value} {e b : Bool} {Q : Bool → Shared → Prop} (hF : FOK n C.F) (ok : FxOK X) (hA : OKB m n A) (r : Rep X W st s.heap) (hx : VR W x ux) (hy : VR W y uy) (h1 : eqEl C x y = some (e, b)) (h2 : (e == b) = true)
    (h : ∀ s' W', W.le W' → Rep X W' st s'.heap → Sh s s' → Q b s') : wpAny (model PW X.w) A (eqBool uy ux) Q E s := by
  cases x <;> (try exact none_neQ h1)
  rename_i p a c
  cases y <;> (try exact none_neQ h1)
  rename_i q d f
  obtain ⟨e', hf, h1⟩ := Option.map_eq_some_iff.mp h1
  have hf := sbO_eq hf
  cases h1
  have h2 := eq_of_beq h2
  subst h2
  have un : A.units + 65 < cLine := by have := hA.u; unfold cLine; omega
  have vs : VRs W [.el q d f, .el p a c] [uy, ux] := .cons hy (.one hx)
  simp only [VR] at hx hy
  obtain ⟨rx, rfl, ex⟩ := hx
  obtain ⟨ry, rfl, ey⟩ := hy
  unfold eqBool
  refine wpAny_holding ?_
  by_cases hr : ry = rx
  · subst hr
    obtain ⟨rfl, rfl⟩ := el_unique r.z.sub ex ey
    rw [if_pos (by simp)]
    refine wpAny_bind (wpAny_rule (wpAny_pure ?_))
    have : (a == a && c == c) = true := by simp
    rw [this] at h
    exact h s W (.refl W) r (.refl s)
  · rw [if_neg (by simpa using hr)]
    obtain ⟨ox, es, k, lm, tc, tm, I, D⟩ := elInst r ey
    obtain ⟨ox', es', k', lm', tc', tm', I', D'⟩ := elInst r ex
    obtain ⟨h₀, mm, F, K₀⟩ := r.fr ok
    refine wpAny_bind (cmp_K (by omega) F K₀ I I'.type (by kernel_rfl) (f := 176) (by kernel_rfl) (by kernel_rfl) ?_)
    refine callF_sound (args := [.el q d f, .el p a c]) hF ok hA r vs rfl ?_
    rw [hf]
    intro s' W' u le rp sh hu
    simp only [VR] at hu
    subst hu
    exact wpAny_pure (h s' W' le rp sh)
theorem inEl_sound {x : SV} {l : List SV} {ux : Value} {t : Addr} {items : Array Value} {Q : Value → Shared → Prop} (hF : FOK n C.F) (ok : FxOK X) (hA : OKB (m + 1) n A) (r : Rep X W st s.heap) (hx : VR W x ux) (ht : s.heap.IsTuple t items) (hv : VRs W l items.toList)
    (h : (inEl C x l st).Holds (Post X W s Q) (PostX X W s E)) : wpAny (model PW X.w) A (compareOp .In ux (.ref t)) Q E s := by
  refine in_tup (I := fun rest s' => ∃ l' W', W.le W' ∧ Rep X W' st s'.heap ∧ Sh s s' ∧ VRs W' l' rest ∧ (inEl C x l' st).Holds (Post X W s Q) (PostX X W s E)) ht ?_ ?_ ⟨l, W, .refl W, r, .refl s, hv, h⟩
  · rintro y rest s' ⟨l', W', le, rp, sh, hv', h'⟩
    rcases l' with _ | ⟨z, l'⟩
    · simp only [VRs] at hv'; cases hv'
    ·
      simp only [VRs] at hv'
      obtain ⟨v, rs, e, g1, g2⟩ := hv'
      cases e
      simp only [inEl] at h'
      split at h'
      · next e b q =>
        obtain ⟨q1, q2, q3⟩ := h'
        refine eqEl_sound (m := m) hF ok hA.in1 rp (hx.mono le) g1 q q1 fun s₂ W₂ le₂ rp₂ sh₂ => ?_
        rcases hb : b with _ | _
        rotate_left
        · rw [if_pos rfl]; exact q2 hb s₂ W₂ _ (le.trans le₂) rp₂ (sh.trans sh₂) (by simp only [VR])
        · rw [if_neg (by decide)]; exact ⟨l', W₂, le.trans le₂, rp₂, sh.trans sh₂, g2.mono le₂, q3 hb⟩
      · exact h'.elim
  · rintro s' ⟨l', W', le, rp, sh, hv', h'⟩
    rcases l' with _ | ⟨z, l'⟩
    · exact h' s' W' _ le rp sh (by simp only [VR])
    · simp only [VRs] at hv'; obtain ⟨v, rs, e, _⟩ := hv'; cases e
theorem idxEl_sound {x : SV} {l : List SV} {ux : Value} {t : Addr} {items : Array Value} {Q : Value → Shared → Prop} (hF : FOK n C.F) (ok : FxOK X) (hA : OKB (m + 1) n A) (r : Rep X W st s.heap) (hx : VR W x ux) (ht : s.heap.IsTuple t items) (hv : VRs W l items.toList)
    (h : (idxEl C x l 0 st).Holds (Post X W s Q) (PostX X W s E)) : wpAny (model PW X.w) A (call (.builtin "tuple.index") [.ref t, ux]) Q E s := by
  refine index_tup (I := fun rest i s' => ∃ l' W', W.le W' ∧ Rep X W' st s'.heap ∧ Sh s s' ∧ VRs W' l' rest ∧ (idxEl C x l' i st).Holds (Post X W s Q) (PostX X W s E)) ht ?_ ?_ ⟨l, W, .refl W, r, .refl s, hv, h⟩
  · rintro y rest i s' ⟨l', W', le, rp, sh, hv', h'⟩
    rcases l' with _ | ⟨z, l'⟩
    · simp only [VRs] at hv'; cases hv'
    ·
      simp only [VRs] at hv'
      obtain ⟨v, rs, e, g1, g2⟩ := hv'
      cases e
      simp only [idxEl] at h'
      split at h'
      · next e b q =>
        obtain ⟨q1, q2, q3⟩ := h'
        refine eqEl_sound (m := m) hF ok hA.in1 rp (hx.mono le) g1 q q1 fun s₂ W₂ le₂ rp₂ sh₂ => ?_
        rcases hb : b with _ | _
        rotate_left
        ·
          rw [if_pos rfl]
          intro tk tk'
          exact q2 hb { s₂ with toks := tk' } W₂ _ (le.trans le₂) rp₂ (sh.trans (sh₂.trans (.heap s₂ s₂.heap tk'))) (by simp only [VR]; exact ⟨tk, rfl⟩)
        · rw [if_neg (by decide)]; exact ⟨l', W₂, le.trans le₂, rp₂, sh.trans sh₂, g2.mono le₂, q3 hb⟩
      · exact h'.elim
  · rintro i s' ⟨l', W', le, rp, sh, hv', h'⟩
    rcases l' with _ | ⟨z, l'⟩
    · exact h'
    · simp only [VRs] at hv'; obtain ⟨v, rs, e, _⟩ := hv'; cases e
end
/-- an index that is not known: one branch for each place -/
noncomputable def forkL (n : Int) : Nat → List SV → St → TS SV
  | _, [], _ => .stuck
  | j, v :: r, st => match r with
    | [] => .need (n == (j : Int)) (.ret (v, st))
    | _ :: _ => .dec (n == (j : Int)) (.ret (v, st)) (forkL n (j + 1) r st)
noncomputable def subV2 (x i : SV) (st : St) : TS SV := match i with
  | .int n _ => match seqOf st x with
    | some l => match Nat.blt l.length 1000 with
      | true => forkL n 0 l st
      | false => .stuck
    | none => .stuck
  | i => subV x i st
set_option tactic.hygienic false in
theorem powMod_lt {b e m : Nat} (h : 0 < m) : Builtin.powMod b e m < m := by
  unfold Builtin.powMod
  have key : ∀ (l : List Nat) (p : Nat), p < m → l.foldl (fun p i => if e.testBit i then p * p % m * b % m else p * p % m) p < m := by
    intro l
    induction l with
    | nil => exact fun p hp => hp
    | cons i l ih =>
      intro p _
      rw [List.foldl_cons]
      refine ih _ ?_
      split <;> exact Nat.mod_lt _ h
  exact key _ _ (Nat.mod_lt _ h)
set_option tactic.hygienic false in
theorem pm_bdd {a b n : Int} (h : 2 ≤ n) : bdd (pm a b n) (some n.natAbs) := by
  unfold pm
  have := powMod_lt (b := (a % ((n.natAbs : Nat) : Int)).toNat) (e := b.natAbs) (m := n.natAbs) (by omega)
  simp only [bdd]
  omega
/-- pow with a known exponent and modulus -/
noncomputable def numI : SV → Option Int
  | .num n => some n
  | _ => none
set_option tactic.hygienic false in
theorem none_neB {α : Type} {a : α} {P : Prop} (h : (none : Option α) = some a) : P := nomatch h
set_option tactic.hygienic false in
theorem numI_eq {v : SV} {n : Int} (h : numI v = some n) : v = .num n := by
  cases v <;> (try exact none_neB h)
  rw [← Option.some.inj h]
noncomputable def powV (args : List SV) : Option SV := match args with
  | [v, e, q] => match asI v with
    | some t => match numI e with
      | some b => match numI q with
        | some n => match decide (0 ≤ b) && decide (2 ≤ n) with
          | true => some (mkI t.1 (pm t.2.1 b n) (some n.natAbs))
          | false => none
        | none => none
      | none => none
    | none => none
  | _ => none
noncomputable def pairI : SV → Option (Int × Int)
  | .tup l => match l with
    | [a, b] => match asI a with
      | some x => match asI b with
        | some y => some (x.2.1, y.2.1)
        | none => none
      | none => none
    | _ => none
  | _ => none
noncomputable def gtV (x y : SV) : Option SV := match pairI x with
  | some a => match pairI y with
    | some c => some (.sb (if a.1 == c.1 then (if a.2 == c.2 then false else decide (c.2 < a.2)) else decide (c.1 < a.1)))
    | none => none
  | none => none
noncomputable def pairsV : List SV → Nat → List SV
  | [], _ => []
  | x :: r, i => .tup [.num (i : Int), x] :: pairsV r (i + 1)
section
variable {m n : Nat} {X : Fx} {W : Wd} {st : St} {A : Around} {E : Value → Shared → Prop} {s : Shared} {C : Cx}
set_option tactic.hygienic false in
theorem fork_hold {n : Int} : ∀ {l : List SV} {j : Nat} {K : SV × St → Prop} {KX : St → Prop}, (forkL n j l st).Holds K KX → ∃ (i : Nat) (v : SV), l[i]? = some v ∧ n = ((j + i : Nat) : Int) ∧ K (v, st)
  | [], _, _, _, h => h.elim
  | [v], j, _, _, h => ⟨0, v, rfl, by have := eq_of_beq h.1; omega, h.2⟩
  | v :: w :: r, j, K, KX, h => by
    rcases q : n == (j : Int) with _ | _
    rotate_left
    · exact ⟨0, v, rfl, by have := eq_of_beq q; omega, h.1 q⟩
    ·
      obtain ⟨i, x, h1, h2, h3⟩ := fork_hold (l := w :: r) (j := j + 1) (h.2 q)
      exact ⟨i + 1, x, by simpa using h1, by omega, h3⟩
theorem subV2_sound {x i : SV} {u v : Value} {value slice : Expr} (ok : FxOK X) (r : Rep X W st s.heap) (hx : VR W x u) (hi : VR W i v) (hs : ∀ o i, subscripted slice false o i = operate [o, i] (getItem o i)) {Q : Value → Shared → Prop}
    (h : (subV2 x i st).Holds (Post X W s Q) (PostX X W s E)) : wpAny (model PW X.w) A (subscriptTail value slice u v) Q E s := by
  unfold subV2 at h
  split at h
  · next k b =>
    split at h
    · next l e =>
      split at h
      · next big =>
        obtain ⟨j, w, h1, h2, h3⟩ := fork_hold h
        have : VR W (.num k) v := by
          simp only [VR] at hi ⊢
          exact hi.1
        refine subV_sound (i := .num k) (st := st) ok r hx this hs ?_
        have hlt : j < l.length := (List.getElem?_eq_some_iff.mp h1).1
        unfold subV
        simp only [e, big]
        have ei : idx l.length k = some j := by
          unfold idx
          rw [show (decide (0 ≤ k) && decide (k < (l.length : Int))) = true by simp; omega]
          simp only
          congr 1
          omega
        simp only [ei, h1]
        exact h3
      · exact h.elim
    · exact h.elim
  · exact subV_sound ok r hx hi hs h
set_option tactic.hygienic false in
theorem powV_sound {args : List SV} {us : List Value} {c : SV} {Q : Value → Shared → Prop} (r : Rep X W st s.heap) (hv : VRs W args us) (e : powV args = some c) (h : Post X W s Q (c, st)) : wpAny (model PW X.w) A (call (.builtin "pow") us) Q E s := by
  rcases args with _ | ⟨v, _ | ⟨x, _ | ⟨q, _ | ⟨_, _⟩⟩⟩⟩ <;> (try exact none_neB e)
  dsimp only [powV] at e
  cases e1 : asI v with
  | none => rw [e1] at e; exact none_neB e
  | some t =>
  rw [e1] at e
  dsimp only at e
  cases e2 : numI x with
  | none => rw [e2] at e; exact none_neB e
  | some b =>
  rw [e2] at e
  dsimp only at e
  rcases e3 : numI q with _ | n'
  · rw [e3] at e; exact none_neB e
  rw [e3] at e
  dsimp only at e
  rcases w : decide (0 ≤ b) && decide (2 ≤ n') with _ | _
  · rw [w] at e; exact none_neB e
  rw [w] at e
  obtain rfl := Option.some.inj e
  obtain rfl := numI_eq e2
  obtain rfl := numI_eq e3
  simp only [Bool.and_eq_true, decide_eq_true_eq] at w
  obtain ⟨k, a, b0⟩ := t
  simp only [VRs] at hv
  obtain ⟨u1, r1, rfl, h1, u2, r2, rfl, h2, u3, r3, rfl, h3, rfl⟩ := hv
  obtain ⟨⟨t, rfl⟩, _⟩ := asI_VR h1 e1
  simp only [VR] at h2 h3
  obtain ⟨t2, rfl⟩ := h2
  obtain ⟨t3, rfl⟩ := h3
  exact pow3 (by omega) w.2 fun tk tk' => post_tok r h (VR_mkI (pm_bdd w.2))
theorem pairI_VR {v : SV} {u : Value} {q : Int × Int} (h : VR W v u) (e : pairI v = some q) : ∃ a o t1 t2, u = .ref a ∧ W.H a o ∧ TupO o #[.int q.1 t1, .int q.2 t2] := by
  cases v <;> (try exact none_neB e)
  rename_i l
  rcases l with _ | ⟨x1, _ | ⟨x2, _ | ⟨_, _⟩⟩⟩ <;> (try exact none_neB e)
  dsimp only [pairI] at e
  rcases e1 : asI x1 with _ | p
  · rw [e1] at e; exact none_neB e
  rw [e1] at e
  dsimp only at e
  rcases e2 : asI x2 with _ | r
  · rw [e2] at e; exact none_neB e
  rw [e2] at e
  obtain rfl := Option.some.inj e
  simp only [VR, VRs] at h
  obtain ⟨a, o, it, rfl, a1, a2, v1, r1, a3, a4, v2, r2, rfl, a5, rfl⟩ := h
  obtain ⟨⟨t1, rfl⟩, _⟩ := asI_VR a4 e1
  obtain ⟨⟨t2, rfl⟩, _⟩ := asI_VR a5 e2
  obtain rfl : it = #[.int p.2.1 t1, .int r.2.1 t2] := Array.toList_inj.mp a3
  exact ⟨a, o, t1, t2, rfl, a1, a2⟩
set_option tactic.hygienic false in
theorem gtV_sound {x y c : SV} {u v : Value} {Q : Value → Shared → Prop} (hA : OKA n A) (r : Rep X W st s.heap) (hx : VR W x u) (hy : VR W y v) (e : gtV x y = some c) (h : Post X W s Q (c, st)) : wpAny (model PW X.w) A (compareOp .Gt u v) Q E s := by
  unfold gtV at e
  rcases e1 : pairI x with _ | a
  · rw [e1] at e; exact none_neB e
  rw [e1] at e
  dsimp only at e
  rcases e2 : pairI y with _ | d
  · rw [e2] at e; exact none_neB e
  rw [e2] at e
  obtain rfl := Option.some.inj e
  obtain ⟨ax, ox, t1, t2, rfl, a1, a2⟩ := pairI_VR hx e1
  obtain ⟨ay, oy, t3, t4, rfl, b1, b2⟩ := pairI_VR hy e2
  exact gt_tup (a2.is (r.z.sub _ _ a1)) (b2.is (r.z.sub _ _ b1)) (by have := hA.u; unfold cLine; omega) (Post.same h r (by simp only [VR]))
set_option tactic.hygienic false in
theorem iadd_sound {i j : Nat} {l l' : List SV} {b' : Bool} {u v : Value} {Q : Value → Shared → Prop} (ok : FxOK X) (r : Rep X W st s.heap) (hx : VR W (.ml i) u) (hy : VR W (.ml j) v) (e1 : st.mls[i]? = some (false, l)) (e2 : st.mls[j]? = some (b', l')) (hz : l.length + l'.length < 1000)
    (h : Post X W s Q (.ml i, { st with mls := st.mls.set i (false, l ++ l') })) : wpAny (model PW X.w) A (inplaceOp .Add u v) Q E s := by
  simp only [VR] at hx hy
  obtain ⟨a, rfl, ha⟩ := hx
  obtain ⟨b, rfl, hb⟩ := hy
  obtain ⟨a', ha', d⟩ := r.l.at_ _ _ _ e1
  rw [ha] at ha'
  cases ha'
  obtain ⟨b'', hb', d'⟩ := r.l.at_ _ _ _ e2
  rw [hb] at hb'
  cases hb'
  obtain ⟨o, items, g, ⟨c, rfl⟩, z, _⟩ := d.at_
  obtain ⟨o', items', g', ⟨c', rfl⟩, z', _⟩ := d'.at_
  have z1 := z.length
  have z2 := z'.length
  rw [Array.length_toList] at z1 z2
  refine iadd_list g g' (by omega) fun h' hs ⟨c2, hn⟩ => ?_
  refine h _ W _ (.refl W) (r.setL (l' := l ++ l') ok e1 ha ⟨_, hn, _, rfl⟩ hs (by rw [Array.toList_append]; exact z.append z')) (.heap s h' s.toks) (by simp only [VR]; exact ⟨a, rfl, ha⟩)
set_option tactic.hygienic false in
theorem pairs_get : ∀ {l : List SV} {i j : Nat} {x : SV}, l[j]? = some x → (pairsV l i)[j]? = some (.tup [.num ((i + j : Nat) : Int), x])
  | [], _, _, _, h => by simp at h
  | y :: l, i, 0, x, h => by simp at h; subst h; rfl
  | y :: l, i, j + 1, x, h => by
    rw [List.getElem?_cons_succ] at h
    rw [pairsV, List.getElem?_cons_succ, pairs_get h, show i + 1 + j = i + (j + 1) by omega]
set_option tactic.hygienic false in
theorem pairs_len : ∀ {l : List SV} {i : Nat}, (pairsV l i).length = l.length
  | [], _ => rfl
  | x :: l, i => by rw [pairsV, List.length_cons, List.length_cons, pairs_len]
set_option tactic.hygienic false in
theorem VRs.of_get {W : Wd} : ∀ {l : List SV} {us : List Value}, us.length = l.length → (∀ (i : Nat) v u, l[i]? = some v → us[i]? = some u → VR W v u) → VRs W l us
  | [], us, h, _ => by
    rcases us with _ | ⟨_, _⟩
    · simp only [VRs]
    · cases h
  | v :: l, us, h, k => by
    rcases us with _ | ⟨u, us⟩
    · cases h
    · exact .cons (k 0 v u rfl rfl) (VRs.of_get (Nat.succ.inj h) fun i v' u' e e' => k (i + 1) v' u' (by simpa using e) (by simpa using e'))
set_option tactic.hygienic false in
theorem le_sound {l : List SV} {u : Value} {Q : Value → Shared → Prop} (ok : FxOK X) (hA : OKA n A) (r : Rep X W st s.heap) (hv : VR W (.tup l) u) (hn : l.length < 100) (h : Post X W s Q (newL st (pairsV l 0))) :
    wpAny (model PW X.w) A (call (.type "enumerate") [u]) (fun v s₁ => wpAny (model PW X.w) A (call (.type "list") [v]) Q E s₁) E s := by
  simp only [VR] at hv
  obtain ⟨a, o, items, rfl, h1, h2, h3⟩ := hv
  have g := r.z.sub _ _ h1
  have alt : @LT.lt Nat _ a s.heap.objs.size := Heap.lt_size g
  have hlen : items.size = l.length := by rw [← Array.length_toList, h3.length]
  refine call_enumT (h2.is g) fun h' he hi hz hk => ?_
  refine list_enum (h0 := s.heap) (s := { s with heap := h' }) hA.h he hi ((show s.heap.IsTuple a items from h2.is g).at fun o e => hk _ o e) (Nat.succ_ne_self _) (Nat.ne_of_lt (Nat.lt_succ_of_lt alt)) (Nat.ne_of_lt alt) (by omega) (fresh_none (Nat.le_succ _)) (fresh_none (Nat.le_refl _)) hk ?_
  intro h₂ tk S xs c k2 s0 hS hxs hp
  let H' : Addr → Obj → Prop := fun b p => W.H b p ∨ (s.heap.get? b = none ∧ b ≠ S ∧ h₂.get? b = some p ∧ p.cls = .type "tuple")
  have tup : ∀ (j : Nat) v, xs[j]? = some v → ∃ T t x, v = .ref T ∧ items[j]? = some x ∧ H' T { cls := .type "tuple", data := .seq #[.int (j : Int) t, x] } := fun j v q => by
    obtain ⟨T, t, x, q1, q2, q3, q4, q5⟩ := hp j v q
    exact ⟨T, t, x, q1, q2, .inr ⟨q4, fun e => q5 (List.mem_singleton.mpr e), q3, rfl⟩⟩
  obtain ⟨le, r₂⟩ := r.extend (H' := H') (HL' := W.HL) ok (fun b o _ e => k2 b o e) (r.z.tab.at fun o e => k2 _ o e) (fun b p q => .inl q) (fun _ _ q => q) (fun b p q => by
    rcases q with q | q
    · exact ⟨k2 _ _ (r.z.sub b p q), .inl q⟩
    · exact ⟨q.2.2.1, .inr q.1⟩) (fun b p q => ⟨k2 _ _ (r.z.subL b p q), .inl q⟩)
  have uS : Untr X ⟨H', W.HL, W.eta⟩ S := by
    have u := r.untr s0
    refine ⟨⟨u.own.1, fun p => ⟨(u.own.2 p).1, fun q => ?_, (u.own.2 p).2.2⟩⟩, u.nL, u.nC, u.nE⟩
    rcases q with q | q
    · exact (u.own.2 p).2.1 q
    · exact q.2.1 rfl
  obtain ⟨le3, r₃, v₃⟩ := Rep.newLU (l := pairsV l 0) uS r₂ hS ⟨c, rfl⟩ (VRs.of_get (by rw [Array.length_toList, hxs, hlen, pairs_len]) fun j v u e e' => by
    rw [Array.getElem?_toList] at e'
    obtain ⟨T, t, x, rfl, q2, q3⟩ := tup j u e'
    rw [← Array.getElem?_toList] at q2
    have hj : j < l.length := by rw [← h3.length]; exact (List.getElem?_eq_some_iff.mp q2).1
    obtain ⟨y, hy, vr⟩ := h3.get (List.getElem?_eq_getElem hj)
    rw [q2] at hy
    cases hy
    rw [pairs_get (List.getElem?_eq_getElem hj)] at e
    cases e
    simp only [VR]
    refine ⟨T, _, #[.int (j : Int) t, x], rfl, q3, ⟨rfl, rfl, _, rfl⟩, .cons ?_ (.one (vr.mono le))⟩
    simp only [VR]
    exact ⟨t, by rw [Nat.zero_add]⟩)
  exact h { s with heap := h₂, toks := tk } _ _ (le.trans le3) r₃ (.heap s h₂ tk) v₃
end
noncomputable def gtY {α β : Type} (b : Bool) (t : T α β) : T α β := match b with
  | true => t
  | false => .stuck
set_option tactic.hygienic false in
theorem gtY_h {α β : Type} {b : Bool} {t : T α β} {K : β → Prop} {KX : α → Prop} (h : (gtY b t).Holds K KX) : b = true ∧ t.Holds K KX := by
  rcases b with _ | _
  · exact h.elim
  · exact ⟨rfl, h⟩
noncomputable def soY {α β γ : Type} (o : Option γ) (f : γ → T α β) : T α β := match o with
  | some q => f q
  | none => .stuck
set_option tactic.hygienic false in
theorem soY_h {α β γ : Type} {o : Option γ} {f : γ → T α β} {K : β → Prop} {KX : α → Prop} (h : (soY o f).Holds K KX) : ∃ q, o = some q ∧ (f q).Holds K KX := by
  rcases o with _ | q
  · exact h.elim
  · exact ⟨q, rfl, h⟩
noncomputable def tuY {α β : Type} (f : List SV → T α β) : SV → T α β
  | .tup l => f l
  | _ => .stuck
set_option tactic.hygienic false in
theorem tuY_h {α β : Type} {x : SV} {f : List SV → T α β} {K : β → Prop} {KX : α → Prop} (h : (tuY f x).Holds K KX) : ∃ l, x = .tup l ∧ (f l).Holds K KX := by
  cases x <;> (try exact h.elim)
  exact ⟨_, rfl, h⟩
/-- the shape of an index -/
inductive Sl where
  | plain
  | upto (u : Expr)
  | even
  | bad
noncomputable def slOf : Expr → Sl
  | .Slice none (some u) none _ => .upto u
  | .Slice none none (some (.Constant (.int n) _ _)) _ => match decide (n = 2) with
    | true => .even
    | false => .bad
  | .Slice _ _ _ _ => .bad
  | _ => .plain
noncomputable def isNm : Expr → Bool
  | .Name _ _ => true
  | _ => false
noncomputable def sliceV (x u : SV) (st : St) : TS SV := match x, u with
  | .ml i, .num k => soY st.mls[i]? fun q => gtY (Nat.blt q.2.length 1000 && decide (0 ≤ k) && decide (k ≤ q.2.length)) (.ret (newL st (q.2.take k.toNat)))
  | _, _ => .stuck
noncomputable def evenV (x : SV) (st : St) : TS SV := tuY (fun l => gtY (Nat.blt l.length 1000) (.ret (.tup (pickS l (Builtin.Slice.slicePlaces 0 (l.length : Int) 2)), st))) x
noncomputable def subE (r : Ev) (o i : Expr) (st : St) : TS SV := match slOf i with
  | .plain => (r.e o st).bind fun a => (r.e i a.2).bind fun b => subV2 a.1 b.1 b.2
  | .upto u => gtY (isNm o) ((r.e o st).bind fun a => (r.e u a.2).bind fun b => sliceV a.1 b.1 b.2)
  | .even => gtY (isNm o) ((r.e o st).bind fun a => evenV a.1 a.2)
  | .bad => .stuck
noncomputable def cmpE (C : Cx) (op : CmpOp) (x y : SV) (st : St) : Option (TS SV) := match op with
  | .In => match x, y with
    | .el _ _ _, .tup l => some (inEl C x l st)
    | _, _ => none
  | .Gt => match gtV x y with
    | some c => some (.ret (c, st))
    | none => none
  | _ => none
noncomputable def cmpV2 (C : Cx) (op : CmpOp) (x y : SV) (st : St) : TS SV := match cmpE C op x y st with
  | some t => t
  | none => cmpV C op x y st
/-- list(enumerate(e)) -/
noncomputable def leOf (l : List Expr) : Option (Str × Expr) := match oneX l with
  | some x => match nmCall x with
    | some r => match oneX r.2 with
      | some e => some (r.1, e)
      | none => none
    | none => none
  | none => none
set_option tactic.hygienic false in
theorem leOf_form {l : List Expr} {q : Str × Expr} (h : leOf l = some q) : ∃ gp pos, l = [.Call (.Name q.1 gp) [q.2] [] pos] ∧ noStar [q.2] = true := by
  unfold leOf at h
  cases e1 : oneX l with
  | none => rw [e1] at h; exact none_neQ h
  | some x =>
  rw [e1] at h
  dsimp only at h
  rcases e2 : nmCall x with _ | r
  · rw [e2] at h; exact none_neQ h
  rw [e2] at h
  dsimp only at h
  rcases e3 : oneX r.2 with _ | e
  · rw [e3] at h; exact none_neQ h
  rw [e3] at h
  obtain rfl := Option.some.inj h
  obtain ⟨p, pos, rfl, ns⟩ := nmCall_form e2
  have e3 := oneX_eq e3
  rw [oneX_eq e1]
  rw [e3] at ns ⊢
  exact ⟨p, pos, rfl, ns⟩
noncomputable def isPow (f : Str) : Bool := sq f (Str.ofString "pow")
noncomputable def isList (f : Str) : Bool := sq f (Str.ofString "list")
noncomputable def isEnum (f : Str) : Bool := sq f (Str.ofString "enumerate")
noncomputable def isIndex (f : Str) : Bool := sq f (Str.ofString "index")
noncomputable def isPowV : SV → Bool
  | .bi .pow => true
  | _ => false
noncomputable def isListV : SV → Bool
  | .bi .list => true
  | _ => false
noncomputable def isEnumV : SV → Bool
  | .bi .enumerate => true
  | _ => false
theorem isPowV_eq {x : SV} (h : isPowV x = true) : x = .bi .pow := by
  cases x <;> (try exact Bool.noConfusion h)
  rename_i b
  cases b <;> first | rfl | exact Bool.noConfusion h
theorem isListV_eq {x : SV} (h : isListV x = true) : x = .bi .list := by
  cases x <;> (try exact Bool.noConfusion h)
  rename_i b
  cases b <;> first | rfl | exact Bool.noConfusion h
theorem isEnumV_eq {x : SV} (h : isEnumV x = true) : x = .bi .enumerate := by
  cases x <;> (try exact Bool.noConfusion h)
  rename_i b
  cases b <;> first | rfl | exact Bool.noConfusion h
noncomputable def callE (C : Cx) (r : Ev) (f : Str) (args : List Expr) (st : St) : Option (TS SV) := match isPow f && noStar args && !(args.isEmpty) with
  | true => some ((nameV C f st).bind fun a => gtY (isPowV a.1) ((evL r args a.2).bind fun b => soY (powV b.1) fun c => .ret (c, b.2)))
  | false => match isList f with
    | true => match leOf args with
      | some ge => match isEnum ge.1 with
        | true => some ((nameV C f st).bind fun a => gtY (isListV a.1) ((nameV C ge.1 a.2).bind fun b => gtY (isEnumV b.1) ((r.e ge.2 b.2).bind fun c => tuY (fun l => gtY (Nat.blt l.length 100) (.ret (newL c.2 (pairsV l 0)))) c.1)))
        | false => none
      | none => none
    | false => none
noncomputable def evE3 (C : Cx) (r : Ev) (x : Expr) (st : St) : TS SV := match x with
  | .Subscript o i _ => subE r o i st
  | .Compare l [op] [y] _ => match isSetE y with
    | true => .stuck
    | false => (r.e l st).bind fun a => (r.e y a.2).bind fun b => cmpV2 C op a.1 b.1 b.2
  | .Call (.Name f np) args [] pos => match callE C r f args st with
    | some t => t
    | none => evE C r (.Call (.Name f np) args [] pos) st
  | .Call (.Attribute (.Name o op) m ap) [y] [] pos => match isIndex m && Nat.beq ap.endLine pos.line && noStar [y] with
    | true => (r.e (.Name o op) st).bind fun a => tuY (fun l => (r.e y a.2).bind fun b => idxEl C b.1 l 0 b.2) a.1
    | false => evE C r (.Call (.Attribute (.Name o op) m ap) [y] [] pos) st
  | x => evE C r x st
noncomputable def evT3 (C : Cx) (r : Ev) (x : Expr) (st : St) : TS SV := match x with
  | .Compare l [op] [y] _ => match isSetE y with
    | true => .stuck
    | false => (r.e l st).bind fun a => (r.e y a.2).bind fun b => (cmpV2 C op a.1 b.1 b.2).bind fun c => soY (truth c.1) fun d => .ret (d, c.2)
  | x => evT C r x st
section
variable {n : Nat} {X : Fx} {A : Around} {C : Cx} {r : Ev}
noncomputable def slIn (i : Expr) (t : Sl) : Prop := match t with
  | .upto u => ∃ p, i = .Slice none (some u) none p
  | .even => ∃ p a b, i = .Slice none none (some (.Constant (.int 2) a b)) p
  | .plain => ∀ a b c d, i ≠ .Slice a b c d
  | .bad => True
theorem slOf_in (i : Expr) : slIn i (slOf i) := by
  cases i <;> (try exact fun _ _ _ _ h => nomatch h)
  next a b c p =>
  cases a <;> cases b <;> cases c <;> (try exact trivial)
  · next c =>
    cases c <;> (try exact trivial)
    next k _ _ =>
    cases k <;> (try exact trivial)
    rename_i n
    show slIn _ (match decide (n = 2) with | true => .even | false => .bad)
    rcases q : decide (n = 2) with _ | _
    rotate_left
    · have := of_decide_eq_true q; subst this; exact ⟨_, _, _, rfl⟩
    · trivial
  · exact ⟨_, rfl⟩
set_option tactic.hygienic false in
theorem slOf_upto {i u : Expr} (h : slOf i = .upto u) : ∃ p, i = .Slice none (some u) none p := by
  have := slOf_in i
  rw [h] at this
  exact this
set_option tactic.hygienic false in
theorem slOf_even {i : Expr} (h : slOf i = .even) : ∃ p a b, i = .Slice none none (some (.Constant (.int 2) a b)) p := by
  have := slOf_in i
  rw [h] at this
  exact this
set_option tactic.hygienic false in
theorem slOf_plain {i : Expr} (h : slOf i = .plain) (a b c : Option Expr) (d : Pos) : i ≠ .Slice a b c d := by
  have := slOf_in i
  rw [h] at this
  exact this a b c d
set_option tactic.hygienic false in
theorem isNm_form {o : Expr} (h : isNm o = true) : ∃ x p, o = .Name x p := by
  cases o <;> first | exact ⟨_, _, rfl⟩ | cases h
set_option tactic.hygienic false in
theorem VRs.take {W : Wd} : ∀ {l : List SV} {us : List Value} (k : Nat), VRs W l us → VRs W (l.take k) (us.take k)
  | _, _, 0, _ => by simp [VRs]
  | [], us, k + 1, h => by simp only [VRs] at h; subst h; simp [VRs]
  | v :: l, us, k + 1, h => by
    simp only [VRs] at h
    obtain ⟨u, rs, rfl, h1, h2⟩ := h
    simp only [List.take_succ_cons]
    exact .cons h1 (h2.take k)
set_option tactic.hygienic false in
theorem VRs.getNone {W : Wd} {l : List SV} {us : List Value} {i : Nat} (h : VRs W l us) (e : l[i]? = none) : us[i]? = none := by
  have := h.length
  rw [List.getElem?_eq_none_iff] at e ⊢
  omega
set_option tactic.hygienic false in
theorem VRs.pick {W : Wd} {l : List SV} {us : List Value} (h : VRs W l us) (k : Nat) : VRs W (pickS l k) (pickS us k) := by
  unfold pickS
  have key : ∀ is : List Nat, VRs W (is.filterMap fun i => l[2 * i]?) (is.filterMap fun i => us[2 * i]?) := by
    intro is
    induction is with
    | nil => simp [VRs]
    | cons i is ih =>
      rw [List.filterMap_cons, List.filterMap_cons]
      rcases e : l[2 * i]? with _ | x
      · rw [h.getNone e]; exact ih
      ·
        obtain ⟨u, hu, hv⟩ := h.get e
        rw [hu]
        exact .cons hv ih
  exact key _
theorem sliceV_sound {W : Wd} {st : St} {s : Shared} {Q E : Value → Shared → Prop} {x u : SV} {o v : Value} (rp : Rep X W st s.heap) (hx : VR W x o) (hu : VR W u v) (h : (sliceV x u st).Holds (Post X W s Q) (PostX X W s E)) :
    ∃ l items lo hi, o = .ref l ∧ s.heap.IsList l items ∧ items.size ≤ sizeLine ∧ IsPart .none lo ∧ IsPart v hi ∧ Q (.ref (s.heap.objs.size + 1)) { s with heap := (s.heap.push { cls := .type "slice", data := .fields #[.none, v, .none] }).push { cls := .type "list", data := .seq (slicePick items lo hi none) } } := by
  cases x <;> (try exact h.elim)
  rename_i i
  cases u <;> (try exact h.elim)
  rename_i k
  dsimp only [sliceV] at h
  obtain ⟨⟨fz, l⟩, e, h⟩ := soY_h h
  obtain ⟨q, h⟩ := gtY_h h
  simp only [Bool.and_eq_true, decide_eq_true_eq] at q
  obtain ⟨⟨q1, q2⟩, q3⟩ := q
  have q1 := Nat.le_of_ble_eq_true q1
  simp only [VR] at hx hu
  obtain ⟨a, rfl, ha⟩ := hx
  obtain ⟨t, rfl⟩ := hu
  obtain ⟨a', ha', d⟩ := rp.l.at_ _ _ _ e
  rw [ha] at ha'
  cases ha'
  obtain ⟨ob, items, g, ⟨m, rfl⟩, z, _⟩ := d.at_
  have z1 := z.length
  rw [Array.length_toList] at z1
  refine ⟨a, items, none, some k, rfl, ⟨_, g, rfl, m, rfl⟩, by rw [sizeLine_eq]; omega, .none, .int k t, ?_⟩
  have hk : (k : Int) = ((k.toNat : Nat) : Int) := by omega
  have e1 : slicePick items none (some k) none = (items.toList.take k.toNat).toArray := by
    rw [hk]
    exact slicePick_upto items k.toNat (by omega)
  have rp' : Rep X W st (s.heap.push { cls := .type "slice", data := .fields #[.none, .int k t, .none] }) := rp.grow fun b o e => Heap.get?_push_of_some _ e
  have := new_lst (X := X) (s := { s with heap := s.heap.push { cls := .type "slice", data := .fields #[.none, .int k t, .none] } }) rp' (z.take k.toNat) (Post.step h (.refl W) (.heap s _ s.toks))
  rw [Heap.size_push] at this
  rw [e1]
  exact this
set_option tactic.hygienic false in
theorem subE_sound (ok : FxOK X) (co : CxOK n C X) (hA : OKA n A) (he : SE X A r.e) (o i : Expr) (pos : Pos) (st : St) (W : Wd) (s : Shared) (Q E : Value → Shared → Prop) (rp : Rep X W st s.heap)
    (h : (subE r o i st).Holds (Post X W s Q) (PostX X W s E)) : wpAny (model PW X.w) A (eval (.Subscript o i pos) X.env) Q E s := by
  unfold subE at h
  cases e : slOf i with
  | plain =>
    rw [e] at h
    refine Subscript_ (se_bind he rp h (fun _ z => z) fun a s' W' u ha le rp' sh hv => ?_)
    refine se_bind he rp' ha (fun _ z => z.step le sh) fun b s'' W'' u' hb le' rp'' sh' hv' => ?_
    exact subV2_sound ok rp'' (hv.mono le') hv' (sub_plain fun a b c d => slOf_plain e a b c d) (hb.mono (fun _ z => z.step (le.trans le') (sh.trans sh')) (fun _ z => z.step (le.trans le') (sh.trans sh')))
  | upto u =>
      rw [e] at h
      obtain ⟨q, h⟩ := gtY_h h
      obtain ⟨x, xp, rfl⟩ := isNm_form q
      obtain ⟨p, rfl⟩ := slOf_upto e
      refine wpAny_Subscript_list_slice (se_bind he rp h (fun _ z => z) fun a s' W' o ha le rp' sh hv => ?_)
      rw [evalPart_none, evalPart_some]
      refine wpAny_pure (se_bind he rp' ha (fun _ z => z.step le sh) fun b s'' W'' u' hb le' rp'' sh' hv' => ?_)
      exact sliceV_sound rp'' (hv.mono le') hv' (hb.mono (fun _ z => z.step (le.trans le') (sh.trans sh')) (fun _ z => z.step (le.trans le') (sh.trans sh')))
  | even =>
      rw [e] at h
      obtain ⟨q, h⟩ := gtY_h h
      obtain ⟨x, xp, rfl⟩ := isNm_form q
      obtain ⟨p, z1, z2, rfl⟩ := slOf_even e
      refine wpAny_Subscript_Slice_step (T := "tuple") (id := "tuple.__getitem__") (by rw [typeLookup_type, builtinLookup_eq_fast]; kernel_rfl) (se_bind he rp h (fun _ z => z) fun a s' W' o ha le rp' sh hv => ?_)
      refine wpAny_Slice ?_
      rw [evalPart_none, evalPart_some]
      refine wpAny_pure (wpAny_pure (wpAny_Constant_int ?_))
      obtain ⟨l, e1, ha⟩ := tuY_h ha
      obtain ⟨big, ha⟩ := gtY_h ha
      have big := Nat.le_of_ble_eq_true big
      rw [e1] at hv
      simp only [VR] at hv
      obtain ⟨t, ot, items, rfl, h1, h2, h3⟩ := hv
      have g := rp'.z.sub _ _ h1
      have z1 := h3.length
      rw [Array.length_toList] at z1
      let sl : Obj := { cls := .type "slice", data := .fields #[.none, .none, .int 2 s'.toks] }
      have g' : (s'.heap.push sl).get? t = some ot := Heap.get?_push_of_some _ g
      have isT : IsTup (s'.heap.push sl) t items := by
        obtain ⟨c1, c2, m, c3⟩ := h2
        first | exact ⟨ot, g', c1, m, c3⟩ | exact ⟨ot, g', c1, ⟨m, c3⟩⟩ | exact ⟨ot, g', ⟨c1, m, c3⟩⟩
      refine ⟨⟨ot, g', h2.1⟩, ?_⟩
      refine slice_tup isT (Heap.IsSliceOf.new ..) (by omega) ?_
      have rp₂ : Rep X W' a.2 (s'.heap.push sl) := rp'.grow fun b o e => Heap.get?_push_of_some _ e
      have vv := h3.pick (Builtin.Slice.slicePlaces 0 (l.length : Int) 2)
      rw [z1]
      exact new_tup (s := { s' with heap := s'.heap.push sl, toks := s'.toks + 1 }) ok rp₂ vv (Post.step ha le (sh.trans (.heap s' _ _)))
  | bad => rw [e] at h; exact h.elim
theorem cmpV2_sound {W : Wd} {st : St} {s : Shared} {Q E : Value → Shared → Prop} {op : CmpOp} {x y : SV} {u v : Value} (ok : FxOK X) (co : CxOK n C X) (hA : OKA n A) (rp : Rep X W st s.heap) (hx : VR W x u) (hy : VR W y v) (h : (cmpV2 C op x y st).Holds (Post X W s Q) (PostX X W s E)) :
    wpAny (model PW X.w) A (compareOp op u v) Q E s := by
  unfold cmpV2 at h
  rcases e : cmpE C op x y st with _ | t
  ·
    rw [e] at h
    exact cmpV_sound co.F ok hA rp hx hy h
  ·
    rw [e] at h
    cases op <;> (try exact none_neQ e)
    case In =>
      cases x <;> (try exact none_neQ e)
      cases y <;> (try exact none_neQ e)
      obtain rfl := Option.some.inj e
      simp only [VR] at hy
      obtain ⟨a, o, items, rfl, h1, h2, h3⟩ := hy
      exact inEl_sound (m := 4) co.F ok hA rp hx (h2.is (rp.z.sub _ _ h1)) h3 h
    case Gt =>
      dsimp only [cmpE] at e
      rcases q : gtV x y with _ | c
      · rw [q] at e; exact none_neQ e
      ·
        rw [q] at e
        obtain rfl := Option.some.inj e
        exact gtV_sound hA rp hx hy q h
set_option tactic.hygienic false in
theorem callE_sound {f : Str} {np pos : Pos} {args : List Expr} {t : TS SV} (ok : FxOK X) (co : CxOK n C X) (hA : OKA n A) (he : SE X A r.e) (st : St) (W : Wd) (s : Shared) (Q E : Value → Shared → Prop) (rp : Rep X W st s.heap) (e : callE C r f args st = some t)
    (h : t.Holds (Post X W s Q) (PostX X W s E)) : wpAny (model PW X.w) A (eval (.Call (.Name f np) args [] pos) X.env) Q E s := by
  unfold callE at e
  rcases q : isPow f && noStar args && !(args.isEmpty) with _ | _
  rotate_left
  ·
    rw [q] at e
    obtain rfl := Option.some.inj e
    simp only [Bool.and_eq_true, Bool.not_eq_true'] at q
    obtain ⟨⟨_, ns⟩, ne⟩ := q
    refine wpAny_Call_NameR (nameV_sound ok co rp ((T.holds_bind h).mono (fun a ha s' W' u le rp' sh hv => ?_) fun _ z => z))
    obtain ⟨q2, ha⟩ := gtY_h ha
    rw [isPowV_eq q2] at hv
    simp only [VR] at hv
    subst hv
    rcases args with _ | ⟨x, rest⟩
    · cases ne
    ·
      obtain ⟨e1, e2⟩ := noStar_cons (env := X.env) (pos := pos) ns
      refine PyProof.Rows.callWith_builtin1 (id := "pow") ?_ e1 e2
      refine evL_sound he (x :: rest) a.2 W' s' _ E rp' ((T.holds_bind ha).mono (fun b hb s₂ W₂ us le₂ rp₂ sh₂ hus => ?_) fun _ z => z.step le sh)
      obtain ⟨c, q3, hb⟩ := soY_h hb
      exact powV_sound rp₂ hus q3 (Post.step hb (le.trans le₂) (sh.trans sh₂))
  ·
    rw [q] at e
    dsimp only at e
    cases q5 : isList f with
    | false => rw [q5] at e; exact none_neQ e
    | true =>
    rw [q5] at e
    dsimp only at e
    rcases q : leOf args with _ | ge
    · rw [q] at e; exact none_neQ e
    rw [q] at e
    obtain ⟨g, y⟩ := ge
    dsimp only at e
    rcases q6 : isEnum g with _ | _
    · rw [q6] at e; exact none_neQ e
    rw [q6] at e
    obtain rfl := Option.some.inj e
    obtain ⟨gp, ipos, rfl, ns⟩ := leOf_form q
    refine wpAny_Call_NameR (nameV_sound ok co rp ((T.holds_bind h).mono (fun a ha s' W' u le rp' sh hv => ?_) fun _ z => z))
    obtain ⟨q2, ha⟩ := gtY_h ha
    rw [isListV_eq q2] at hv
    simp only [VR] at hv
    subst hv
    obtain ⟨e1, e2⟩ := noStar_cons (x := .Call (.Name g gp) [y] [] ipos) (rest := []) (env := X.env) (pos := pos) rfl
    refine PyProof.Rows.callWith_type1 (T := "list") ?_ e1 e2
    refine PyProof.Rows.spliced_more (env := X.env) (show wpAny (model PW X.w) A (eval (.Call (.Name g gp) [y] [] ipos) X.env) _ E s' from ?_) (rest := []) rfl
    refine wpAny_Call_NameR (nameV_sound ok co rp' ((T.holds_bind ha).mono (fun b hb s₂ W₂ u₂ le₂ rp₂ sh₂ hv₂ => ?_) fun _ z => z.step le sh))
    obtain ⟨q4, hb⟩ := gtY_h hb
    rw [isEnumV_eq q4] at hv₂
    simp only [VR] at hv₂
    subst hv₂
    obtain ⟨e3, e4⟩ := noStar_cons (env := X.env) (pos := ipos) ns
    refine PyProof.Rows.callWith_type1 (T := "enumerate") ?_ e3 e4
    have hn : ∀ z p, y ≠ .Starred z p := by
      rintro z p rfl
      cases ns
    have hk : starEach [y] X.env = (false, eval y X.env) :: starEach [] X.env := by
      cases y <;> first | rfl | exact absurd rfl (hn _ _)
    refine PyProof.Rows.spliced_more (se_bind he rp₂ hb (fun _ z => z.step (le.trans le₂) (sh.trans sh₂)) fun c s₃ W₃ u₃ hc le₃ rp₃ sh₃ hv₃ => ?_) hk
    refine PyProof.Rows.spliced_none ?_
    obtain ⟨l, e5, hc⟩ := tuY_h hc
    obtain ⟨big, hc⟩ := gtY_h hc
    rw [e5] at hv₃
    refine wpAny_mono (le_sound (st := c.2) (E := E) (Q := Q) ok hA rp₃ hv₃ (Nat.le_of_ble_eq_true big) (Post.step hc ((le.trans le₂).trans le₃) ((sh.trans sh₂).trans sh₃))) (fun v s₄ hq => ?_) fun _ _ z => z
    exact PyProof.Rows.spliced_none hq
theorem evE3_cs {C : Cx} {r : Ev} {st : St} {M : Expr → Prop} (hd : ∀ x, evE3 C r x st = evE C r x st → M x) (h1 : ∀ o i p, M (.Subscript o i p)) (h2 : ∀ l op y p, M (.Compare l [op] [y] p)) (h3 : ∀ f np args pos, M (.Call (.Name f np) args [] pos)) (h4 : ∀ o op m ap y pos, M (.Call (.Attribute (.Name o op) m ap) [y] [] pos)) (x : Expr) : M x := by
  cases x <;> (try exact hd _ rfl)
  case Subscript => exact h1 _ _ _
  case Compare l ops ys p =>
    rcases ops with _ | ⟨op, _ | ⟨_, _⟩⟩ <;> (try exact hd _ rfl)
    rcases ys with _ | ⟨y, _ | ⟨_, _⟩⟩ <;> (try exact hd _ rfl)
    exact h2 _ _ _ _
  case Call f args kws pos =>
    cases f <;> (try exact hd _ rfl)
    case Name =>
      rcases kws with _ | ⟨_, _⟩
      · exact h3 _ _ _ _
      · exact hd _ rfl
    case Attribute fo m ap =>
      cases fo <;> (try exact hd _ rfl)
      rcases args with _ | ⟨y, _ | ⟨_, _⟩⟩ <;> (try exact hd _ rfl)
      rcases kws with _ | ⟨_, _⟩
      · exact h4 _ _ _ _ _ _
      · exact hd _ rfl
theorem evE3_sound (ok : FxOK X) (co : CxOK n C X) (hA : OKA n A) (he : SE X A r.e) (ht : STt X A r.t) : SE X A (evE3 C r) := by
  intro x st W s Q E rp
  have D : ∀ x, (evE C r x st).Holds (Post X W s Q) (PostX X W s E) → wpAny (model PW X.w) A (eval x X.env) Q E s := fun x h => evE_sound ok co hA he ht x st W s Q E rp h
  refine evE3_cs (C := C) (r := r) (st := st) (M := fun x => (evE3 C r x st).Holds (Post X W s Q) (PostX X W s E) → wpAny (model PW X.w) A (eval x X.env) Q E s) (fun x e h => D x (e ▸ h)) ?_ ?_ ?_ ?_ x
  · intro o i p h
    exact subE_sound ok co hA he _ _ _ st W s Q E rp h
  · intro l op y p h
    dsimp only [evE3] at h
    have key : isSetE y = false → behindInMarks op y = false := by
      intro hn
      cases y <;> first | rfl | exact Bool.noConfusion hn
    split at h
    · exact h.elim
    · next hn =>
      refine wpAny_Compare1 (se_bind he rp h (fun _ z => z) fun a s' W' u ha le rp' sh hv => ?_) (key hn)
      refine se_bind he rp' ha (fun _ z => z.step le sh) fun b s'' W'' u' hb le' rp'' sh' hv' => ?_
      exact cmpV2_sound ok co hA rp'' (hv.mono le') hv' (hb.mono (fun _ z => z.step (le.trans le') (sh.trans sh')) (fun _ z => z.step (le.trans le') (sh.trans sh')))
  · intro f np args pos h
    dsimp only [evE3] at h
    split at h
    · next t e => exact callE_sound ok co hA he st W s Q E rp e h
    · exact D _ h
  · intro o op m ap y pos h
    dsimp only [evE3] at h
    split at h
    · next q =>
      simp only [Bool.and_eq_true] at q
      obtain ⟨⟨q1, q2⟩, q3⟩ := q
      have q1 := sq_iff.mp q1
      have q2 := Nat.eq_of_beq_eq_true q2
      subst q1
      refine mcall_form (W := W) (fun _ _ _ _ e => by cases e) q3 (show 1 < 29 by decide) q2 (se_bind he rp h (fun _ z => z) fun a s' W' u ha le rp' sh hv pl => ?_)
      have hn : ∀ z p, y ≠ .Starred z p := by
        rintro z p rfl
        cases q3
      obtain ⟨e1, e2⟩ := noStar_cons (env := X.env) (pos := pos) q3
      have hk : starEach [y] X.env = (false, eval y X.env) :: starEach [] X.env := by
        cases y <;> first | rfl | exact absurd rfl (hn _ _)
      obtain ⟨l, e5, ha⟩ := tuY_h ha
      rw [e5] at hv
      simp only [VR] at hv
      obtain ⟨t, ot, items, rfl, h1, h2, h3⟩ := hv
      have g := rp'.z.sub _ _ h1
      refine getMethod_builtin ⟨_, g, h2.1⟩ PySem.F.plainAttrs_tuple PySem.F.slot_tuple_index (by kernel_rfl) (fun b e => by cases e; exact ⟨_, g, h2.2.1⟩) ?_
      refine callWith_method1 ?_ e1 e2
      refine PyProof.Rows.spliced_more (se_bind he rp' ha (fun _ z => z.step le sh) fun b s₂ W₂ u₂ hb le₂ rp₂ sh₂ hv₂ => ?_) hk
      refine PyProof.Rows.spliced_none ?_
      exact idxEl_sound (m := 4) co.F ok hA rp₂ hv₂ (h2.is (rp₂.z.sub _ _ (le₂.h _ _ h1))) (h3.mono le₂) (hb.mono (fun _ z => z.step (le.trans le₂) (sh.trans sh₂)) fun _ z => z.step (le.trans le₂) (sh.trans sh₂))
    · exact D _ h
theorem evT3_sound (ok : FxOK X) (co : CxOK n C X) (hA : OKA n A) (he : SE X A r.e) (ht : STt X A r.t) : STt X A (evT3 C r) := by
  intro x st W s Q E rp h
  have D : ∀ x, (evT C r x st).Holds (PostT X W s Q) (PostX X W s E) → wpAny (model PW X.w) A (PySem.isTrue x X.env (eval x X.env)) Q E s := fun x h => evT_sound ok co hA he ht x st W s Q E rp h
  cases x <;> (try exact D _ h)
  case Compare l ops ys _ =>
    rcases ops with _ | ⟨op, _ | ⟨_, _⟩⟩ <;> rcases ys with _ | ⟨y, _ | ⟨_, _⟩⟩ <;> (try exact D _ h)
    dsimp only [evT3] at h
    have key : isSetE y = false → behindInMarks op y = false := by
      intro hn
      cases y <;> first | rfl | exact Bool.noConfusion hn
    split at h
    · exact h.elim
    · next hn =>
      refine wpAny_isTrue_Compare1 (se_bind he rp h (fun _ z => z) fun a s' W' u ha le rp' sh hv => ?_) (key hn)
      refine se_bind he rp' ha (fun _ z => z.step le sh) fun b s'' W'' u' hb le' rp'' sh' hv' => ?_
      refine cmpV2_sound ok co hA rp'' (hv.mono le') hv' ((T.holds_bind hb).mono (fun c hc s3 W3 u3 le3 rp3 sh3 hv3 => ?_) fun _ z => z.step (le.trans le') (sh.trans sh'))
      obtain ⟨d, q, hc⟩ := soY_h hc
      exact truth_sound hv3 q fun b hb => hc s3 W3 b ((le.trans le').trans le3) rp3 ((sh.trans sh').trans sh3) hb
end
noncomputable def isLC : Expr → Bool
  | .ListComp _ _ _ _ => true
  | _ => false
noncomputable def evE2 (C : Cx) (r : Ev) (k : Nat) (x : Expr) (st : St) : TS SV := match isLC x with
  | true => (compE C r (fun C' => ev C' k) x st).bind fun a => .ret (newL a.2 a.1)
  | false => evE3 C r x st
noncomputable def ev2 (C : Cx) : Nat → Ev
  | 0 => .no
  | k + 1 => ⟨evE2 C (ev2 C k) k, evT3 C (ev2 C k)⟩
noncomputable def isMl : SV → Option Nat
  | .ml i => some i
  | _ => none
noncomputable def unF : Bool × List SV → Option (List SV)
  | (false, l) => some l
  | _ => none
noncomputable def addL (st : St) (i : Nat) (v : SV) : Option St := (isMl v).bind fun j => (st.mls[i]?).bind fun p => (unF p).bind fun l => (st.mls[j]?).bind fun q => match Nat.blt (l.length + q.2.length) 1000 with
  | true => some { st with mls := st.mls.set i (false, l ++ q.2) }
  | false => none
/-- a list is made longer -/
noncomputable def augL (C : Cx) (r : Ev) (x : Str) (i : Nat) (value : Expr) (st : St) : TS Fl := (r.e value st).bind fun b => match addL b.2 i b.1 with
  | some st' => (stoN C x (.ml i) st').bind fun d => .ret (.next, d.2)
  | none => .stuck
noncomputable def augI (C : Cx) (x : Str) (st : St) : Option Nat := match lk x C.names with
  | some .local => match lk x st.loc with
    | some v => isMl v
    | none => none
  | _ => none
noncomputable def exS2 (C : Cx) (r : Ev) (k : Nat) (xs : List Stmt → St → TS Fl) (s : Stmt) (st : St) : TS Fl := match s with
  | .For tg iter body [] _ => match isSet iter with
    | false => (itE C r tg iter st).bind fun a => noExc (forL C xs tg body a.1 a.2)
    | true => .stuck
  | .Assign [.Name x _] value _ => match isLC value with
    | true => match lk x C.names with
      | some .local => (compE C r (fun C' => ev C' k) value st).bind fun a => .ret (.next, { (newL a.2 a.1).2 with loc := up x (newL a.2 a.1).1 (newL a.2 a.1).2.loc })
      | _ => .stuck
    | false => exS C r xs s st
  | .AugAssign (.Name x _) .Add value _ => match augI C x st with
    | some i => augL C r x i value st
    | none => exS C r xs s st
  | s => exS C r xs s st
noncomputable def exN (C : Cx) : Nat → List Stmt → St → TS Fl
  | 0, _, _ => .stuck
  | _ + 1, [], st => .ret (.next, st)
  | k + 1, s :: rest, st => (exS2 C (ev2 C k) k (exN C k) s st).bind fun f => match f.1 with
    | .next => exN C k rest f.2
    | .ret v => .ret (.ret v, f.2)
section
variable {n : Nat} {X : Fx} {A : Around} {C : Cx} {r : Ev} {xs : List Stmt → St → TS Fl}
set_option tactic.hygienic false in
theorem isLC_form {x : Expr} (h : isLC x = true) : ∃ a b c d, x = .ListComp a b c d := by
  cases x <;> first | exact ⟨_, _, _, _, rfl⟩ | cases h
theorem compE_some {R : Cx → Ev} {x : Expr} {st : St} {K : List SV × St → Prop} {KX : St → Prop} (h : (compE C r R x st).Holds K KX) : ∃ p, cpOf x = some p := by
  unfold compE at h
  split at h
  · exact h.elim
  · next p e => exact ⟨p, e⟩
set_option tactic.hygienic false in
theorem comp_hx (hA : OKA n A) (k : Nat) : ∀ C' X', FxOK X' → CxOK n C' X' → SE X' A (ev C' k).e ∧ STt X' A (ev C' k).t := fun C' X' ok co => ev_sound ok co hA k
set_option tactic.hygienic false in
theorem evE2_sound (ok : FxOK X) (co : CxOK n C X) (hc : CellsOK C X) (hA : OKA n A) (k : Nat) (he : SE X A r.e) (ht : STt X A r.t) : SE X A (evE2 C r k) := by
  intro x st W s Q E rp h
  unfold evE2 at h
  split at h
  · have h' := T.holds_bind h
    obtain ⟨p, hp⟩ := compE_some h'
    obtain ⟨pos, e, _, _⟩ := cpOf_form hp
    have key : wpAny (model PW X.w) A (comprehension x p.scope X.env (p.iter.pos) (newList []) false (eval p.iter X.env) none) Q E s := by
      refine comp_core ok co hc hA he (comp_hx hA k) rp hp (h'.mono (fun a ha D L s' W' m le rp' sh hv hn ut => ?_) fun _ z => z)
      show ∃ m, s'.heap.Ns L m ∧ ∀ h', Heap.SameBut L s'.heap h' → Q (.ref D) { s' with heap := h' }
      refine ⟨m, hn, fun h' hs => ha { s' with heap := h' } W' _ le (rp'.chg (fun b => b = L) (fun b e => e ▸ ut) ok fun b o hb e => hs.extBut b o hb e) (sh.trans (.heap s' h' s'.toks)) hv⟩
    rw [e] at key ⊢
    exact key
  · exact evE3_sound ok co hA he ht x st W s Q E rp h
set_option tactic.hygienic false in
theorem ev2_sound (ok : FxOK X) (co : CxOK n C X) (hc : CellsOK C X) (hA : OKA n A) : ∀ k, SE X A (ev2 C k).e ∧ STt X A (ev2 C k).t
  | 0 => ⟨fun _ _ _ _ _ _ _ h => h.elim, fun _ _ _ _ _ _ _ h => h.elim⟩
  | k + 1 => ⟨evE2_sound ok co hc hA k (ev2_sound ok co hc hA k).1 (ev2_sound ok co hc hA k).2, evT3_sound ok co hA (ev2_sound ok co hc hA k).1 (ev2_sound ok co hc hA k).2⟩
set_option tactic.hygienic false in
theorem addL_form {st st' : St} {i : Nat} {v : SV} (h : addL st i v = some st') : ∃ j l b l', v = .ml j ∧ st.mls[i]? = some (false, l) ∧ st.mls[j]? = some (b, l') ∧ l.length + l'.length < 1000 ∧ st' = { st with mls := st.mls.set i (false, l ++ l') } := by
  obtain ⟨j, q, h⟩ := Option.bind_eq_some_iff.mp h
  obtain ⟨⟨f, l⟩, e1, h⟩ := Option.bind_eq_some_iff.mp h
  rcases f with _ | _
  rotate_left
  · exact none_neQ h
  obtain ⟨l2, e3, h⟩ := Option.bind_eq_some_iff.mp h
  obtain rfl := Option.some.inj e3
  obtain ⟨⟨b, l'⟩, e2, h⟩ := Option.bind_eq_some_iff.mp h
  have e : v = .ml j := by
    cases v <;> (try exact none_neQ q)
    obtain rfl := Option.some.inj q
    rfl
  rcases q2 : Nat.blt (l.length + l'.length) 1000 with _ | _
  · rw [q2] at h; exact none_neQ h
  ·
    rw [q2] at h
    exact ⟨j, l, b, l', e, e1, e2, Nat.le_of_ble_eq_true q2, (Option.some.inj h).symm⟩
theorem augL_sound {x : Str} {np pos : Pos} {i : Nat} {value : Expr} {st : St} {W : Wd} {s : Shared} {Q : Flow → Shared → Prop} {E : Value → Shared → Prop} (ok : FxOK X) (co : CxOK n C X) (hc : CellsOK C X) (hA : OKA n A) (he : SE X A r.e) (rp : Rep X W st s.heap) (q : augI C x st = some i)
    (h : (augL C r x i value st).Holds (PostF X W s Q) (PostX X W s E)) : wpAny (model PW X.w) A (exec (.AugAssign (.Name x np) .Add value pos) X.env) Q E s := by
  unfold augI at q
  split at q
  case h_2 => cases q
  next hl =>
  split at q
  case h_2 => cases q
  next v hv =>
  have ev : v = .ml i := by
    unfold isMl at q
    split at q <;> cases q
    rfl
  subst ev
  obtain ⟨m, hm, hval⟩ := rp.n.ns
  obtain ⟨u, e1, e2⟩ := hval x _ hv
  refine wpAny_AugAssign_Name (wpAny_loadName_local ok.kind (co.names x _ hl) hm e1 ?_)
  unfold augL at h
  refine se_bind he rp h (fun _ z => z) fun b s₂ W₂ u₂ hb le₂ rp₂ sh₂ hv₂ => ?_
  split at hb
  case h_2 => exact hb.elim
  next st' q2 =>
  obtain ⟨j, l, b', l', e3, e4, e5, e6, rfl⟩ := addL_form q2
  rw [e3] at hv₂
  refine iadd_sound (st := b.2) ok rp₂ (e2.mono le₂) hv₂ e4 e5 e6 fun s₃ W₃ u₃ le₃ rp₃ sh₃ hv₃ => ?_
  exact stoN_sound ok co hc rp₃ hv₃ ((T.holds_bind hb).mono (fun d hd s₄ W₄ le₄ rp₄ sh₄ => hd s₄ W₄ ((le₂.trans le₃).trans le₄) rp₄ ((sh₂.trans sh₃).trans sh₄)) fun _ z => z.step (le₂.trans le₃) (sh₂.trans sh₃))
set_option tactic.hygienic false in
theorem setSet {iter : Expr} {env : Env} (h : isSet iter = false) (v : Value) : foldedSetIterable iter env v = pure v := by
  cases iter <;> first | rfl | cases h
theorem exS2_cs {C : Cx} {r : Ev} {k : Nat} {xs : List Stmt → St → TS Fl} {st : St} {M : Stmt → Prop} (hd : ∀ x, exS2 C r k xs x st = exS C r xs x st → M x) (c1 : ∀ tg iter body pos, M (.For tg iter body [] pos)) (c2 : ∀ y np value pos, M (.Assign [.Name y np] value pos)) (c3 : ∀ y np value pos, M (.AugAssign (.Name y np) .Add value pos)) (x : Stmt) : M x := by
  cases x <;> (try exact hd _ rfl)
  case For tg iter body oe pos =>
    rcases oe with _ | ⟨_, _⟩
    · exact c1 _ _ _ _
    · exact hd _ rfl
  case Assign ts value pos =>
    rcases ts with _ | ⟨tg, tl⟩
    · exact hd _ rfl
    cases tg <;> (try exact hd _ rfl)
    rcases tl with _ | ⟨_, _⟩
    · exact c2 _ _ _ _
    · exact hd _ rfl
  case AugAssign tg op value pos =>
    cases tg <;> (try exact hd _ rfl)
    cases op <;> (try exact hd _ rfl)
    exact c3 _ _ _ _
theorem exS2_sound (ok : FxOK X) (co : CxOK n C X) (hc : CellsOK C X) (hA : OKA n A) (k : Nat) (he : SE X A r.e) (ht : STt X A r.t) (hx : ∀ X', KinX n C X X' → SX X' A xs) (x : Stmt) (st : St) (W : Wd) (s : Shared) (Q : Flow → Shared → Prop) (E : Value → Shared → Prop) (rp : Rep X W st s.heap) :
    (exS2 C r k xs x st).Holds (PostF X W s Q) (PostX X W s E) → wpAny (model PW X.w) A (exec x X.env) Q E s := by
  have kx : KinX n C X X := ⟨ok, co, hc, rfl, rfl⟩
  have D : ∀ x, (exS C r xs x st).Holds (PostF X W s Q) (PostX X W s E) → wpAny (model PW X.w) A (exec x X.env) Q E s := fun x h => exS_sound ok co hc hA he ht (hx X kx) x st W s Q E rp h
  refine exS2_cs (C := C) (r := r) (k := k) (xs := xs) (st := st) (M := fun x => (exS2 C r k xs x st).Holds (PostF X W s Q) (PostX X W s E) → wpAny (model PW X.w) A (exec x X.env) Q E s) (fun x e h => D x (e ▸ h)) ?_ ?_ ?_ x
  · intro tg iter body pos h
    dsimp only [exS2] at h
    split at h
    · next q =>
      refine wpAny_For ?_ (setSet q)
      refine it_sound (tg := tg) ok co hA he rp ((T.holds_bind h).mono (fun a ha s' W' it le rp' sh hS => ?_) fun _ z => z)
      obtain ⟨I, fp, wr, P, Md, S, rfl, K, hP, hl, hst, f, hself⟩ := hS
      exact forL_sound hA kx hx K hP hl hst rp' f ((holds_noExc ha).mono (fun _ z => z.step le sh) fun _ z => z) fun fl s' q => q
    · exact h.elim
  · intro y np value pos h
    dsimp only [exS2] at h
    split at h
    · next q =>
      split at h
      · next hl =>
        have h' := T.holds_bind h
        obtain ⟨p, hp⟩ := compE_some h'
        obtain ⟨vpos, e, _, _⟩ := cpOf_form hp
        have sto : ∀ {a : List SV × St} {D L : Addr} {s' : Shared} {W' : Wd} {m : Str → Option Value} {Q' : Unit → Shared → Prop}, W.le W' → Rep X W' (newL a.2 a.1).2 s'.heap → Sh s s' → VR W' (newL a.2 a.1).1 (.ref D) → s'.heap.Ns L m → Untr X W' L →
            (∀ s'', s''.heap.Ns L m → Rep X W' { (newL a.2 a.1).2 with loc := up y (newL a.2 a.1).1 (newL a.2 a.1).2.loc } s''.heap → Sh s s'' → Q' () s'') → wpAny (model PW X.w) A (storeName X.env y (.ref D)) Q' E s' := by
          intro a D L s' W' m Q' le rp' sh hv hn ut hq
          obtain ⟨m', hm, hval⟩ := rp'.n.ns
          refine wpAny_storeName_local (co.names y _ hl) hm (fun h' hn' hs => ?_) ?_
          · exact hq _ (hn.sameBut hs ut.nL) (rp'.storeL ok hval hn' hs hv) (sh.trans (.heap s' h' (s'.toks + 1)))
          · show (X.scope.kind == .class || (X.scope.kind == .module && X.L != X.env.globals)) = false
            rw [ok.kind]; rfl
        have used : wpAny (model PW X.w) A (comprehension value p.scope X.env (p.iter.pos) (newList []) false (eval p.iter X.env) (some (assign (.Name y np) X.env))) (fun _ s' => Q .next s') E s := by
          refine comp_core ok co hc hA he (comp_hx hA k) rp hp (h'.mono (fun a ha D L s' W' m le rp' sh hv hn ut => ?_) fun _ z => z)
          show wpAny _ _ (assign (.Name y np) X.env (.ref D)) (fun _ s'' => ∃ m, s''.heap.Ns L m ∧ ∀ h', Heap.SameBut L s''.heap h' → Q .next { s'' with heap := h' }) E s'
          refine PyProof.Rows.assign_Name (sto le rp' sh hv hn ut fun s'' hn'' rp'' sh'' => ⟨m, hn'', fun h' hs => ?_⟩)
          exact ha { s'' with heap := h' } W' le (rp''.chg (fun b => b = L) (fun b e => e ▸ ut) ok fun b o hb e => hs.extBut b o hb e) (sh''.trans (.heap s'' h' s''.toks))
        have plain : wpAny (model PW X.w) A (comprehension value p.scope X.env (p.iter.pos) (newList []) false (eval p.iter X.env) none) (fun v s₁ => wpAny (model PW X.w) A (storeName X.env y v) (fun _ s' => Q .next s') E s₁) E s := by
          refine comp_core ok co hc hA he (comp_hx hA k) rp hp (h'.mono (fun a ha D L s' W' m le rp' sh hv hn ut => ?_) fun _ z => z)
          show ∃ m, s'.heap.Ns L m ∧ ∀ h', Heap.SameBut L s'.heap h' → wpAny (model PW X.w) A (storeName X.env y (.ref D)) (fun _ s' => Q .next s') E { s' with heap := h' }
          refine ⟨m, hn, fun h' hs => ?_⟩
          have rp₂ := rp'.chg (fun b => b = L) (fun b e => e ▸ ut) ok fun b o hb e => hs.extBut b o hb e
          obtain ⟨m', hm, hval⟩ := rp₂.n.ns
          refine wpAny_storeName_local (co.names y _ hl) hm (fun h₂ hn' hs' => ?_) ?_
          · exact ha _ W' le (rp₂.storeL ok hval hn' hs' hv) (sh.trans (.heap s' h₂ (s'.toks + 1)))
          · show (X.scope.kind == .class || (X.scope.kind == .module && X.L != X.env.globals)) = false
            rw [ok.kind]; rfl
        rw [e] at used plain ⊢
        cases hsw : (X.env.blockKind == .function && X.env.kindOf y == some .local && np.line == (Expr.ListComp p.elt [⟨p.tg, p.iter, p.ifs, 0⟩] p.scope vpos).pos.line && !(p.scope.names.any fun (n, k) => n == y && (k == .local || k == .cell))) with
        | true =>
          have hsw' : swapsWith (.ListComp p.elt [⟨p.tg, p.iter, p.ifs, 0⟩] p.scope vpos) (some (.Name y np)) pos.line X.env = pure true := by
            show (pure _ : Sem Bool) = _
            exact congrArg pure hsw
          rw [exec_Assign_Name_used _ _ _ _ hsw']
          refine wpAny_bind (wpAny_standAt (wpAny_bind ?_))
          show wpAny _ A (do let _ ← comprehension (.ListComp p.elt [⟨p.tg, p.iter, p.ifs, 0⟩] p.scope vpos) p.scope X.env p.iter.pos (newList []) false (eval p.iter X.env) (some (assign (.Name y np) X.env))) _ _ s
          exact wpAny_bind (wpAny_mono used (fun _ s' hq => wpAny_pure (wpAny_pure hq)) fun _ _ z => z)
        | false =>
          exact wpAny_Assign_Name plain (by show (pure _ : Sem Bool) = _; exact congrArg pure hsw)
      · exact h.elim
    · exact D _ h
  · intro y np value pos h
    dsimp only [exS2] at h
    split at h
    · next i q => exact augL_sound ok co hc hA he rp q h
    · exact D _ h
end
theorem exN_sound {n : Nat} {A : Around} {C : Cx} (hA : OKA n A) : ∀ k {X : Fx}, FxOK X → CxOK n C X → CellsOK C X → SX X A (exN C k)
  | 0, _, _, _, _ => fun _ _ _ _ _ _ _ h => h.elim
  | k + 1, X, ok, co, hc => fun b st W s Q E rp h => by
    rcases b with _ | ⟨x, rest⟩
    · exact wpAny_execs_nil (h s W (.refl W) rp (.refl s))
    ·
      obtain ⟨he, ht⟩ := ev2_sound (n := n) (A := A) ok co hc hA k
      refine wpAny_execs_cons (exS2_sound ok co hc hA k he ht (fun X' kx => exN_sound hA k kx.ok kx.co kx.hc) x st W s _ E rp ((T.holds_bind h).mono (fun f hf s' W' le rp' sh => ?_) fun _ z => z))
      split at hf
      · next e => (try rw [e]); exact exN_sound hA k ok co hc rest f.2 W' s' Q E rp' (hf.mono (fun _ z => z.step le sh) fun _ z => z.step le sh)
      · next v e => (try rw [e]); intro u hu; exact hf s' W' le rp' sh u hu
/-- a def of the text, as the head left it -/
inductive FnAt (P : Params) (f : Nat) (ps : List Str) (body : List Stmt) (names : List (Str × NameKind)) : Prop
  | mk (o : Obj) (fd : FuncData) (h1 : (kmk.heap_1 P).lookup f = some o) (h2 : o.data = .func fd) (h3 : codeIn (kmk.heap_1 P) fd.code fd.qualname = true) (h4 : fd.body = .stmts body)
    (h5 : fd.scope.kind = .function) (h6 : fd.scope.names = names) (h7 : fd.scope.isCoroutine = false) (h8 : fd.scope.isGenerator = false) (h9 : fd.closure = []) (h10 : fd.globals = mainGlobals) (h11 : fd.builtins = builtinsNs) (h12 : ∀ (vals : List Value) (S : Setting), vals.length = ps.length → peek (kmk.heap_1 P) S (bindArgs fd { pos := vals, kw := [] }) = some (ps.zip vals)) : FnAt P f ps body names
noncomputable def FnOK (f : Nat) (ps : List Str) (body : List Stmt) (names : List (Str × NameKind)) : Prop := ∀ P : Params, FnAt P f ps body names
set_option tactic.hygienic false in
theorem len_s {α : Type} {n : Nat} {l : List α} (h : l.length = n + 1) : ∃ v r, l = v :: r ∧ r.length = n := by
  rcases l with _ | ⟨v, r⟩
  · exact Nat.noConfusion h
  · exact ⟨v, r, rfl, Nat.succ.inj h⟩
set_option tactic.hygienic false in
theorem wpAny_binds {K : Frag} {M : Model} {A : Around} {E : Value → Shared → Prop} {Q : List (Str × Value) → Shared → Prop} {s : Shared} {fd : FuncData} {args : Args} {binds : List (Str × Value)} (X : K.In s.heap) (e : ∀ S, peek K S (bindArgs fd args) = some binds) (q : Q binds s) : wpAny M A (bindArgs fd args) Q E s :=
  (Looks.of_peek (M := M) X (e _)).here q
/-- how the arguments lie in the frame -/
noncomputable def initS (names : List (Str × NameKind)) : List Str → List SV → Option (List (Str × SV) × List (Str × SV))
  | [], [] => some ([], [])
  | x :: xs, v :: vs => match initS names xs vs with
    | some (a, b) => match lk x names with
      | some .local => some ((x, v) :: a, b)
      | some .cell => some (a, (x, v) :: b)
      | _ => none
    | none => none
  | _, _ => none
noncomputable def resV (st : St) (v : SV) : Option SV := match v with
  | .ml i => match st.mls[i]? with
    | some (_, l) => match okRs l with
      | true => some (.fl l)
      | false => none
    | none => none
  | v => match okR v with
    | true => some v
    | false => none
noncomputable def outT : TS Fl → T Unit SV
  | .ret (.next, _) => .ret .none
  | .ret (.ret v, st) => match resV st v with
    | some r => .ret r
    | none => .stuck
  | .dec b t e => .dec b (outT t) (outT e)
  | .need b t => .need b (outT t)
  | .exc _ => .stuck
  | .stuck => .stuck
noncomputable def run (names : List (Str × NameKind)) (glo : List (Str × SV)) (F : Nat → List SV → T Unit SV) (k : Nat) (ps : List Str) (body : List Stmt) (args : List SV) : T Unit SV := match initS names ps args with
  | some (a, b) => match nodupS ps with
    | true => outT (exN ⟨names, glo, F⟩ k body ⟨a, b, []⟩)
    | false => .stuck
  | none => .stuck
theorem holds_out {K : SV → Prop} {KX : Unit → Prop} : ∀ {t : TS Fl}, (outT t).Holds K KX → t.Holds (fun r => match r.1 with | .next => K .none | .ret v => ∃ x, resV r.2 v = some x ∧ K x) (fun _ => False)
  | .ret (.next, _), h => h
  | .ret (.ret v, st), h => by
    unfold outT at h
    split at h
    · next r e => exact ⟨r, e, h⟩
    · exact h.elim
  | .dec _ _ _, h => ⟨fun q => holds_out (h.1 q), fun q => holds_out (h.2 q)⟩
  | .need _ _, h => ⟨h.1, holds_out h.2⟩
  | .exc _, h => h
  | .stuck, h => h
set_option tactic.hygienic false in
theorem bindL_get {kindOf : Str → Option NameKind} {x : Str} : ∀ (l : List (Str × Value)) (m : Str → Option Value), x ∉ l.map (·.1) → bindL kindOf l m x = m x
  | [], _, _ => rfl
  | (n, v) :: r, m, h => by
    rw [List.map_cons, List.mem_cons, not_or] at h
    unfold bindL
    rw [bindL_get r _ h.2]
    split
    · exact if_neg h.1
    · rfl
set_option tactic.hygienic false in
theorem bindC_get {kindOf : Str → Option NameKind} {x : Str} : ∀ (l : List (Str × Value)) (m : Str → Option Value), x ∉ l.map (·.1) → bindC kindOf l m x = m x
  | [], _, _ => rfl
  | (n, v) :: r, m, h => by
    rw [List.map_cons, List.mem_cons, not_or] at h
    unfold bindC
    rw [bindC_get r _ h.2]
    split
    · rfl
    · exact if_neg h.1
theorem init_sound {W : Wd} {names : List (Str × NameKind)} {kindOf : Str → Option NameKind} (hk : ∀ x k, lk x names = some k → kindOf x = some k) : ∀ {ps : List Str} {vs : List SV} {us : List Value} {a b : List (Str × SV)} {m cm : Str → Option Value}, initS names ps vs = some (a, b) → ps.Nodup → VRs W vs us →
    (∀ x v, lk x a = some v → ∃ u, bindL kindOf (ps.zip us) m x = some u ∧ VR W v u) ∧ (∀ x v, lk x b = some v → (lk x names = some .cell) ∧ ∃ u, bindC kindOf (ps.zip us) cm x = some u ∧ VR W v u)
  | [], [], us, a, b, m, cm, e, _, hv => by
    simp only [initS] at e
    cases e
    exact ⟨fun x v h => (nomatch h), fun x v h => (nomatch h)⟩
  | x :: ps, v :: vs, us, a, b, m, cm, e, nd, hv => by
    obtain ⟨n1, n2⟩ := List.nodup_cons.mp nd
    simp only [VRs] at hv
    obtain ⟨u, rs, rfl, h1, h2⟩ := hv
    have hlen : ∀ y, y ∉ ps → y ∉ (ps.zip rs).map (·.1) := fun y hy hm => by
      obtain ⟨p, hp, rfl⟩ := List.mem_map.mp hm
      exact hy (List.of_mem_zip hp).1
    simp only [initS] at e
    split at e
    · next a' b' e' =>
      have ih := fun m cm => init_sound (m := m) (cm := cm) hk e' n2 h2
      rw [List.zip_cons_cons]
      split at e
      · next q =>
        cases e
        have kx := hk _ _ q
        constructor
        · intro y w hy
          simp only [lk] at hy
          unfold bindL
          rw [if_pos kx]
          split at hy
          · next hs =>
            obtain rfl := sq_iff.mp hs
            cases hy
            refine ⟨u, ?_, h1⟩
            rw [bindL_get _ _ (hlen _ n1)]
            exact if_pos rfl
          · exact (ih _ cm).1 y w hy
        · intro y w hy
          unfold bindC
          rw [if_pos kx]
          exact (ih m _).2 y w hy
      · next q =>
        cases e
        have kx := hk _ _ q
        constructor
        · intro y w hy
          unfold bindL
          rw [if_neg (by rw [kx]; simp)]
          exact (ih _ cm).1 y w hy
        · intro y w hy
          simp only [lk] at hy
          unfold bindC
          rw [if_neg (by rw [kx]; simp)]
          split at hy
          · next hs =>
            obtain rfl := sq_iff.mp hs
            cases hy
            refine ⟨q, u, ?_, h1⟩
            rw [bindC_get _ _ (hlen _ n1)]
            exact if_pos rfl
          · exact (ih m _).2 y w hy
      · cases e
    · cases e
  | [], _ :: _, _, _, _, _, _, e, _, _ => by simp only [initS] at e; cases e
  | _ :: _, [], _, _, _, _, _, e, _, _ => by simp only [initS] at e; cases e

set_option tactic.hygienic false in
theorem nodup_of {l : List Str} (h : nodupS l = true) : l.Nodup := nodupS_iff h
set_option tactic.hygienic false in
theorem pairwise_inj {cs : List (Str × Addr)} (h : cs.Pairwise fun x y => x.2 ≠ y.2) {x y : Str} {c : Addr} (hx : (x, c) ∈ cs) (hy : (y, c) ∈ cs) : x = y := by
  induction cs with
  | nil => cases hx
  | cons p r ih =>
    obtain ⟨h1, h2⟩ := List.pairwise_cons.mp h
    rcases List.mem_cons.mp hx with e | hx
    · rcases List.mem_cons.mp hy with e' | hy
      · rw [← e'] at e; exact congrArg Prod.fst e
      · exact absurd (by rw [← e]) (h1 _ hy)
    · rcases List.mem_cons.mp hy with e' | hy
      · exact absurd (by rw [← e']) (h1 _ hx)
      · exact ih h2 hx hy
set_option tactic.hygienic false in
theorem mem_of_lk {α : Type} {x : Str} {v : α} : ∀ {l : List (Str × α)}, l.lookup x = some v → (x, v) ∈ l
  | [], h => nomatch h
  | (y, w) :: r, h => by
    rw [List.lookup_cons] at h
    rcases e : x == y with _ | _
    rotate_left
    · rw [e] at h; cases h; rw [eq_of_beq e]; exact List.mem_cons_self
    · rw [e] at h; exact List.mem_cons_of_mem _ (mem_of_lk h)
set_option backward.match.sparseCases true in
/-- a call of a def: its frame is made -/
theorem enter {n f : Nat} {ps : List Str} {body : List Stmt} {names : List (Str × NameKind)} {glo : List (Str × SV)} {F : Nat → List SV → T Unit SV} (fok : FnOK f ps body names) (hF : FOK n F) (hg : GloOK ⟨names, glo, F⟩) {args : List SV} {w : World} {mg mb : Str → Option Value} {A : Around} {s : Shared} {H HL : Addr → Obj → Prop} {vals : List Value} {R : Result → Shared → Prop} {a b : List (Str × SV)} (Ex : Env → Value → Shared → Prop)
    (hEx : ∀ env e s', Ex env e s' → wpAny (model PW w) (A.deeper env) (leaving env e) (fun _ s'' => R (.error e) s'') (fun e' s'' => R (.error e') s'') s')
    (hA : OKC (n + 1) A) (pre : CallPre w mg mb s H HL) (hv : VRs ⟨H, HL, []⟩ args vals) (e : initS names ps args = some (a, b)) (nd : nodupS ps = true)
    (k : ∀ X hp tk, FxOK X → CxOK n ⟨names, glo, F⟩ X → CellsOK ⟨names, glo, F⟩ X → OKA n (A.deeper X.env) → X.w = w → X.h0 = s.heap → X.H0 = H → (∀ b o, ¬ X.R b o) → X.ro = false → (∃ o fd, (kmk.heap_1 w.params).lookup f = some o ∧ o.data = .func fd ∧ X.env.code = fd.code ∧ X.env.frame = some X.env.locals) → Rep X ⟨H, HL, []⟩ ⟨a, b, []⟩ hp →
      wpAny (model PW w) (A.deeper X.env) (execs body X.env) (fun f s' => R (.ok (.ret (match f with | .ret v => v | _ => .none))) s') (Ex X.env) { s with heap := hp, toks := tk }) :
    codeAny (model PW w) A (.call (.ref f) ⟨vals, []⟩) R s := by
  have nd := nodupS_iff nd
  obtain ⟨o, fd, h1, h2, h3, h4, h5, h6, h7, h8, h9, h10, h11, h12⟩ := fok w.params
  have hlen : vals.length = ps.length := by
    have key : ∀ (ps : List Str) (vs : List SV) r, initS names ps vs = some r → vs.length = ps.length := by
      intro ps
      induction ps with
      | nil =>
        intro vs r h; rcases vs with _ | ⟨_, _⟩
        · rfl
        · simp only [initS] at h; cases h
      | cons x ps ih =>
        intro vs r h; rcases vs with _ | ⟨v, vs⟩
        · simp only [initS] at h; cases h
        ·
          simp only [initS] at h
          split at h
          · next e' => rw [List.length_cons, List.length_cons, ih _ _ e']
          · cases h
    rw [hv.length, key _ _ _ e]
  have hd : A.depth < recursionLimit := by have := hA.d; unfold recursionLimit; omega
  refine codeAny_call_function hd (pre.kx _ _ h1) h2 h7 h8 h4 (codeRec_of pre.kx h3) ?_
  refine wpAny_binds pre.kx (fun S => h12 vals S hlen) ?_
  have knd : ∀ x ∈ ps.zip vals, fd.scope.names.lookup x.1 = some .local ∨ (fd.scope.names.lookup x.1 = some .cell ∧ ((cellsFrom (s.heap.objs.size + 1) fd.scope.names []).lookup x.1).isSome = true) := by
    intro x hx
    have hx1 := (List.of_mem_zip hx).1
    have key : ∀ (ps : List Str) (vs : List SV) r, initS names ps vs = some r → ∀ x ∈ ps, lk x names = some .local ∨ lk x names = some .cell := by
      intro ps
      induction ps with
      | nil => intro vs r _ x hx; cases hx
      | cons y ps ih =>
        intro vs r h x hx; rcases vs with _ | ⟨v, vs⟩
        · simp only [initS] at h; cases h
        ·
          simp only [initS] at h
          split at h
          · next e' =>
            rcases List.mem_cons.mp hx with rfl | hx
            · split at h
              · next q => exact .inl q
              · next q => exact .inr q
              · cases h
            · exact ih _ _ e' x hx
          · cases h
    rw [h6]
    rcases key _ _ _ e x.1 hx1 with q | q
    · exact .inl (lk_lookup.symm.trans q)
    · have q := lk_lookup.symm.trans q
      exact .inr ⟨q, cellsFrom_some _ _ _ (.inl q)⟩
  rw [h9, h10, h11]
  refine wpAny_newFunctionEnv_cells h5 knd fun env' he s' x => ?_
  subst he
  obtain ⟨hp, tk, rfl, hk⟩ := x.done
  have kx' : (kmk.heap_1 w.params).In hp := pre.kx.keeps hk
  refine ⟨pre.top.nolimit.keeps hk, codeAny_func ?_⟩
  let X : Fx := ⟨w, mg, mb, s.heap, H, fun _ _ => False, fun _ => False, envX fd.qualname fd.scope s.heap.objs.size f fd.code (cellsFrom (s.heap.objs.size + 1) fd.scope.names []), false⟩
  have ok : FxOK X := ⟨pre.kx, pre.top, let ⟨o, _, q, _⟩ := pre.tab; ⟨o, q⟩, pre.bm, fun _ q => q.elim, h5, rfl, rfl, by
    have : (kmk.heap_1 w.params).lookup 371 ≠ none := by
      intro q
      have z : ((kmk.heap_1 w.params).lookup 371).isSome = true := by kernel_rfl
      rw [q] at z; cases z
    rcases q : (kmk.heap_1 w.params).lookup 371 with _ | o
    · exact absurd q this
    · exact Heap.lt_size (pre.kx _ _ q)⟩
  have kindOf : ∀ x k, lk x names = some k → X.env.kindOf x = some k := fun x k q => by
    show fd.scope.names.lookup x = some k
    rw [h6]; exact lk_lookup.symm.trans q
  have co : CxOK n ⟨names, glo, F⟩ X := ⟨hF, hg, kindOf⟩
  have hc : CellsOK ⟨names, glo, F⟩ X := by
    refine fun x q => ⟨rfl, ?_⟩
    have q : fd.scope.names.lookup x = some .cell := by rw [h6]; exact lk_lookup.symm.trans q
    exact Option.isSome_iff_exists.mp (cellsFrom_some _ _ _ (.inl q))
  have fresh : ∀ b, @LE.le Nat _ s.heap.objs.size b → Own X ⟨H, HL, []⟩ b := fun b hb => by
    refine ⟨fresh_none hb, fun o => ⟨fun q => q.elim, fun q => ?_, fun q => ?_⟩⟩
    · have := (pre.sub _ _ q).1; rw [fresh_none hb] at this; cases this
    · have := (pre.subL _ _ q).1; rw [fresh_none hb] at this; cases this
  have ini := init_sound (m := fun _ => none) (cm := fun _ => none) kindOf e nd hv
  have rep : Rep X ⟨H, HL, []⟩ ⟨a, b, []⟩ hp := by
    refine ⟨⟨pre.tab.at fun o q => hk _ o q, fun b o _ q => hk b o q, fun _ _ q => q.elim, fun b o q => hk b o (pre.sub b o q).1, fun b o q => hk b o (pre.subL b o q).1, pre.kh, fun b o q => .inl q, fun o => ⟨id, fun q => (pre.sub _ _ q).2 rfl, fun q => (pre.subL _ _ q).2 rfl⟩, fun _ q => q.elim⟩,
      ⟨fresh _ (Nat.le_refl _), _, x.toInCall.ns, fun y v q => ini.1 y v q⟩, ⟨fun y c q => ?_, fun y z c q1 q2 => ?_, fun y v q => ?_⟩, ⟨rfl, fun i fz l q => by simp at q, fun i j a q => by simp at q⟩⟩
    · have := x.above y c (mem_of_lk q)
      exact ⟨fresh c (Nat.le_of_lt this), Nat.ne_of_gt this, _, x.cell y c q⟩
    · exact pairwise_inj x.apart (mem_of_lk q1) (mem_of_lk q2)
    · obtain ⟨q1, u, q2, q3⟩ := ini.2 y v q
      obtain ⟨c, q4⟩ := (hc y q1).2
      refine ⟨c, u, q4, ?_, q3⟩
      exact q2 ▸ (show hp.IsCell c (bindC X.env.kindOf (ps.zip vals) (fun _ => none) y) from x.cell y c q4)
  have hA' : OKA n (A.deeper X.env) := ⟨hA.h, by have := hA.d; show A.depth + 1 + n ≤ 900; omega, by have := hA.u; show A.units + 3 + 10 * n + 5 ≤ 3000; omega⟩
  exact wpAny_mono (k X hp tk ok co hc hA' rfl rfl rfl (fun _ _ z => z) rfl ⟨o, fd, h1, h2, rfl, rfl⟩ rep) (fun _ _ z => z) fun e s' z => hEx X.env e s' z
/-- THE RUN OF A DEF IS WHAT ITS CALL DOES -/
theorem run_sound {n f k : Nat} {ps : List Str} {body : List Stmt} {names : List (Str × NameKind)} {glo : List (Str × SV)} {F : Nat → List SV → T Unit SV} (fok : FnOK f ps body names) (hF : FOK n F) (hg : GloOK ⟨names, glo, F⟩) (args : List SV) :
    Con (n + 1) f args (run names glo F k ps body args) := by
  intro w mg mb A s H HL vals Q E hA pre hv hh
  unfold run at hh
  split at hh
  · next a b e =>
    split at hh
    · next nd =>
      refine wpAny_call (enter fok hF hg (fun _ _ _ => False) (fun _ _ _ z => z.elim) hA pre hv e nd fun X hp tk ok co hc hA' hw hX0 hXH _ _ _ rep => ?_)
      subst hw
      have callP : ∀ {s' : Shared} {W' : Wd} {st' : St} {HL' : Addr → Obj → Prop}, (∀ a o, H a o → W'.H a o) → Rep X W' st' s'.heap → Sh { s with heap := hp, toks := tk } s' → (∀ b o, HL' b o → s'.heap.get? b = some o ∧ s.heap.get? b = none) → CallPost s H s' W'.H HL' := fun kh r' sh' hl => by
        refine ⟨r'.z.tab, hX0 ▸ r'.z.base, kh, fun b o q => ⟨r'.z.sub b o q, hX0 ▸ hXH ▸ r'.z.solid b o q⟩, hl, ⟨sh'.d, sh'.o, sh'.g⟩⟩
      refine exN_sound hA' k ok co hc body ⟨a, b, []⟩ ⟨H, HL, []⟩ _ _ _ rep ((holds_out hh).mono (fun r hr s' W' le r' sh' => ?_) fun σ hx => hx.elim)
      · split at hr
        · next q =>
          try rw [q]
          exact hr s' W'.H (fun _ _ => False) .none (callP le.h r' sh' fun _ _ z => z.elim) (by simp only [VR])
        · next v q =>
          try rw [q]
          intro u hu
          obtain ⟨y, q2, hr⟩ := hr
          have etaF : ∀ (i : Nat) (b : Addr), W'.eta[i]? = some b → s.heap.get? b = none := fun i b q => by
            have hlt : i < r.2.mls.length := r'.l.len ▸ (List.getElem?_eq_some_iff.mp q).1
            obtain ⟨c, hc, d⟩ := r'.l.at_ i (r.2.mls[i]).1 (r.2.mls[i]).2 (List.getElem?_eq_getElem hlt)
            rw [q] at hc
            cases hc
            exact hX0 ▸ d.new
          refine hr s' W'.H (fun b o => (∃ i : Nat, W'.eta[i]? = some b) ∧ s'.heap.get? b = some o) u (callP le.h r' sh' fun b o z => ⟨z.2, let ⟨i, hi⟩ := z.1; etaF i b hi⟩) ?_
          unfold resV at q2
          split at q2
          · next i =>
            split at q2
            · next fz l q3 =>
              split at q2
              · next q4 =>
                cases q2
                simp only [VR] at hu ⊢
                obtain ⟨ad, rfl, ha⟩ := hu
                obtain ⟨a', ha', d⟩ := r'.l.at_ _ _ _ q3
                rw [ha] at ha'
                cases ha'
                obtain ⟨o, items, g, y, z, _⟩ := d.at_
                exact ⟨ad, o, items, rfl, ⟨⟨i, ha⟩, g⟩, y, VRs.out (W := W') (W' := ⟨W'.H, fun b o => (∃ i : Nat, W'.eta[i]? = some b) ∧ s'.heap.get? b = some o, []⟩) (fun _ _ h => h) q4 z⟩
              · cases q2
            · cases q2
          · split at q2
            · next q4 => cases q2; exact VR.out (W := W') (W' := ⟨W'.H, fun b o => (∃ i : Nat, W'.eta[i]? = some b) ∧ s'.heap.get? b = some o, []⟩) (fun _ _ h => h) q4 hu
            · cases q2
    · exact hh.elim
  · exact hh.elim
abbrev PQ : Program := PySem.Challenge.pw_lh0035_01
noncomputable def top (i : Nat) : Option Stmt := PQ.main.body[i]?
noncomputable def fnB : Option Stmt → List Stmt
  | some (.FunctionDef _ _ b _ _ _ _ _ _ _) => b
  | _ => []
noncomputable def fnN : Option Stmt → List (Str × NameKind)
  | some (.FunctionDef _ _ _ _ _ _ sc _ _ _) => sc.names
  | _ => []
noncomputable def fnP : Option Stmt → List Str
  | some (.FunctionDef _ a _ _ _ _ _ _ _ _) => a.args.map (·.arg)
  | _ => []
noncomputable def inCls : Option Stmt → Nat → Option Stmt
  | some (.ClassDef _ _ _ b _ _ _ _ _ _ _), i => b[i]?
  | _, _ => none
noncomputable def objAt (P : Params) (f : Nat) : Obj := ((kmk.heap_1 P).lookup f).getD default
noncomputable def fdAt (o : Obj) : FuncData := match o.data with
  | .func fd => fd
  | _ => { (default : FuncData) with closure := [] }
set_option tactic.hygienic false in
theorem fok_mul : FnOK 305 (fnP (top 25)) (fnB (top 25)) (fnN (top 25)) := fun P => by
  refine ⟨objAt P 305, fdAt (objAt P 305), by kernel_rfl, by kernel_rfl, by kernel_rfl, by kernel_rfl, by kernel_rfl, by kernel_rfl, by kernel_rfl, by kernel_rfl, by kernel_rfl, by kernel_rfl, by kernel_rfl, fun vals S h => ?_⟩
  have : (fnP (top 25)).length = 3 := by kernel_rfl
  rw [this] at h
  obtain ⟨a, r0, rfl, h0⟩ := len_s h
  obtain ⟨b, r1, rfl, h1⟩ := len_s h0
  obtain ⟨c, r2, rfl, h2⟩ := len_s h1
  obtain rfl := List.eq_nil_of_length_eq_zero h2
  kernel_rfl
set_option tactic.hygienic false in
theorem run_mul (p x y u v : Int) : run (fnN (top 25)) [] (fun _ _ => .stuck) 30 (fnP (top 25)) (fnB (top 25)) [.md p, .tup [.int x (some 100), .int y (some 100)], .tup [.int u (some 100), .int v (some 100)]] =
   .ret (.tup [.int ((x * u - y * v).fmod p) (some 100), .int ((x * v + y * u).fmod p) (some 100)]) := by kernel_rfl
section
variable {w : World} {A : Around} {E : Value → Shared → Prop} {s : Shared} {x dx : Addr} {es : List DictEntry} {n : Nat}
set_option tactic.hygienic false in
theorem instI (hx : s.heap.get? x = some (instObj 242 dx)) (hd : s.heap.get? dx = some (dictOf es n)) : PySem.W.InstAt s.heap x (instObj 242 dx) 242 (some (dictOf es n)) := ⟨hx, rfl, rfl, hd⟩
set_option tactic.hygienic false in
theorem putL_len {name : Str} {hsh : Int} {k v : Value} : ∀ es : List DictEntry, (putL name hsh k v es).length ≤ es.length + 1
  | [] => Nat.le_refl _
  | e :: r => by
    unfold putL
    split
    · exact Nat.le_succ _
    · rw [List.length_cons, List.length_cons]; exact Nat.succ_le_succ (putL_len r)
theorem self_set {name : Str} {v : Value} {Q : Unit → Shared → Prop} (X : (kmk.heap_1 w.params).In s.heap) (hx : s.heap.get? x = some (instObj 242 dx)) (hd : s.heap.get? dx = some (dictOf es n)) (ht : takerIn (kmk.heap_1 w.params) 242 name = some none)
    (hl : (getL name es).isSome = true) (hz : es.length ≤ 100)
    (h : ∀ h' tk, Heap.SameBut dx s.heap h' → h'.get? dx = some (dictOf (putL name (PyData.keyHash w.params name) (.str name (s.toks + 1)) v es) (putN name es n)) → Q () { s with heap := h', toks := tk }) :
    wpAny (model PW w) A (setAttr (.ref x) name v) Q E s := by
  have I := instI hx hd
  refine set_plain X I (by kernel_rfl) (osa_open (s := { s with toks := s.toks + 1 }) X I (by kernel_rfl) ht fun b => ?_)
  have hh : (clsIn (kmk.heap_1 w.params) 242).any (·.hasDict) = true := by kernel_rfl
  obtain ⟨cd, hc, hd'⟩ := any_some hh
  have e := putName_dict name (PyData.keyHash w.params name) (.str name (s.toks + 1)) v es n
  have D' := Heap.get?_update_self (h := s.heap) (Obj.putName name (PyData.keyHash w.params name) (.str name (s.toks + 1)) v) hd (by rw [e]; rfl)
  rw [e] at D'
  have hz' : (putL name (PyData.keyHash w.params name) (.str name (s.toks + 1)) v es).length ≤ es.length + 1 := by
    exact putL_len es
  refine wpAny_bind (wpAny_pure (wpAny_bind (wpAny_bind (wpAny_loadPart hx (wpAny_bind ((looks_clsIn X hc).here (s := { s with toks := s.toks + 1 }) ?_))))))
  rw [hd']
  refine wpAny_pure (a := some dx) (wpAny_bind (wpAny_pure (wpAny_bind ?_)))
  unfold nsSet
  refine wpAny_bind (wpAny_bind (wpAny_askSetting (wpAny_pure (wpAny_bind (wpAny_mkText (wpAny_bind (wpAny_loadPart hd ?_)))))))
  have hl' := hl
  unfold getL at hl'
  have c : (!es.toArray.any (·.key.isStr name) && es.toArray.any (·.refKey)) = false := by
    rw [← Array.any_toList, ← Array.any_toList]
    split at hl'
    · rename_i en he
      rw [List.any_eq_true.mpr ⟨en, List.mem_of_find?_eq_some he, List.find?_some he⟩]; rfl
    · split at hl'
      · cases hl'
      · rename_i z; rw [Bool.not_eq_true] at z; rw [z, Bool.and_false]
  dsimp only [dictOf]
  rw [aRefKeyMayBeTheName_at, c]
  refine wpAny_updatePart hd ?_
  refine wpAny_bind (wpAny_lookBehind D' (by exact pastItsLine_dict (by rw [List.size_toArray, sizeLine_eq]; omega)) ?_)
  exact wpAny_pure (h _ _ (Heap.SameBut.update ..) D')
set_option tactic.hygienic false in
theorem self_get {L : Addr} {m : Str → Option Value} {name : Str} {v : Value} {Q : Value → Shared → Prop} (X : (kmk.heap_1 w.params).In s.heap) (hn : s.heap.Ns L m) (big : @LE.le Nat _ 372 L) (hx : s.heap.get? x = some (instObj 242 dx)) (hd : s.heap.get? dx = some (dictOf es n))
    (h1 : plainGet (kmk.heap_1 w.params) 242 name = true) (h3 : findIn (kmk.heap_1 w.params) (.ref 242) name = some none) (hg : getL name es = some (some v)) (hh : handedIn v = true) (h : Q v { s with toks := s.toks + 1 }) :
    wpAny (model PW w) A (getAttr (.ref x) name true) Q E s := by
  have F : Fr (trunc s.heap) L s.heap m := ⟨hn, fun b o e => (trunc_get e).1, by
    refine Nat.le_trans ?_ big
    have : (s.heap.objs.extract 0 372).size = min 372 s.heap.objs.size := by rw [Array.size_extract]; omega
    show (s.heap.objs.extract 0 372).size ≤ 372
    rw [this]; exact Nat.min_le_left _ _⟩
  exact get_own F (fun a o e => get_trunc (X a o e) (k_lt e)) (instI hx hd) h1 (by kernel_rfl) h3 (by kernel_rfl) hg hh h
end

noncomputable def fldOf : Data → Option (Array Value)
  | .fields vs => some vs
  | _ => none
set_option tactic.hygienic false in
theorem fldOf_eq {d : Data} {vs : Array Value} (h : fldOf d = some vs) : d = .fields vs := by
  cases d <;> (try exact none_neQ h)
  rw [Option.some.inj h]
noncomputable def isRefN (p : Addr) : Value → Bool
  | .ref q => Nat.beq q p
  | _ => false
set_option tactic.hygienic false in
theorem isRefN_eq {p : Addr} {v : Value} (h : isRefN p v = true) : v = .ref p := by
  cases v <;> (try exact Bool.noConfusion h)
  rw [Nat.eq_of_beq_eq_true h]
noncomputable def isStrK : Value → Bool
  | .str _ _ => true
  | _ => false
set_option tactic.hygienic false in
theorem isStrK_eq {v : Value} (h : isStrK v = true) : ∃ a b, v = .str a b := by
  cases v <;> (try exact Bool.noConfusion h)
  exact ⟨_, _, rfl⟩
noncomputable def isIntK : Value → Bool
  | .int _ _ => true
  | _ => false
set_option tactic.hygienic false in
theorem isIntK_eq {v : Value} (h : isIntK v = true) : ∃ a b, v = .int a b := by
  cases v <;> (try exact Bool.noConfusion h)
  exact ⟨_, _, rfl⟩
noncomputable def isBooK : Value → Bool
  | .bool _ => true
  | _ => false
set_option tactic.hygienic false in
theorem isBooK_eq {v : Value} (h : isBooK v = true) : ∃ a, v = .bool a := by
  cases v <;> (try exact Bool.noConfusion h)
  exact ⟨_, rfl⟩
noncomputable def fldB (f : Array Value → Bool) (d : Data) : Bool := match fldOf d with
  | some vs => f vs
  | none => false
set_option tactic.hygienic false in
theorem fldB_eq {f : Array Value → Bool} {d : Data} (h : fldB f d = true) : ∃ vs, d = .fields vs ∧ f vs = true := by
  unfold fldB at h
  rcases e : fldOf d with _ | vs
  · rw [e] at h; exact Bool.noConfusion h
  · rw [e] at h; exact ⟨vs, fldOf_eq e, h⟩
/-- the code object of __init__ -/
noncomputable def codeRecOK (x : Option Obj) : Bool := objB (fun o => fldB (fun vs => isRefN 101 (vs.getD 11 .none) && (isStrK (vs.getD 18 .none) && (isIntK (vs.getD 7 .none) && (isBooK (vs.getD 9 .none) && isIntK (vs.getD 10 .none))))) o.data) x
set_option tactic.hygienic false in
theorem genexprCode_tab {M : Model} {A : Around} {E : Value → Shared → Prop} {s : Shared} {env : Env} {c P : Addr} {ps : Array Value} {pos : Pos} {qualname : Str} {scope : Scope} {Q : Value → Shared → Prop} (hc : env.code = .ref c) (hok : s.heap.IsCode c P ps) (ht : s.heap.TableAt c P ps)
    (hQ : ∀ code h' tk ps', Heap.ExtBut P s.heap h' → h'.IsCode c P ps' → h'.get? P = some (tabO ps') → Q code { s with heap := h', toks := tk }) : wpAny M A (genexprCode env pos qualname scope) Q E s := by
  rcases hnf : codeAmong pos ps.toList with _ | cv
  rotate_left
  · exact wpAny_genexprCode_hit hc hok hnf (hQ cv s.heap s.toks ps (Heap.ExtBut.refl _ _) hok ht.2)
  · exact wpAny_genexprCodeX hc hok ht hnf fun c' h' tk e _ _ ic _ tb _ => hQ _ h' tk _ e ic tb.2
noncomputable def refO (p : Addr) : Option Value → Bool
  | some v => isRefN p v
  | none => false
noncomputable def codeOf (P : Addr) (x : Option Obj) : Bool := objB (fun o => isTyp o.cls "code" && fldB (fun vs => refO P vs[11]?) o.data) x
set_option tactic.hygienic false in
theorem codeOf_ok {P : Addr} {h : Heap} {c : Addr} {x : Option Obj} (hx : codeOf P x = true) (k : ∀ o, x = some o → h.get? c = some o) : ∃ o vs, h.get? c = some o ∧ o.cls = .type "code" ∧ o.data = .fields vs ∧ vs[11]? = some (.ref P) := by
  obtain ⟨o, hx1, hx2⟩ := objB_eq hx
  obtain ⟨f1, f2⟩ := Bool.and_eq_true_iff.mp hx2
  obtain ⟨vs, f3, f4⟩ := fldB_eq f2
  refine ⟨o, vs, k o hx1, isTyp_eq f1, f3, ?_⟩
  rcases e : vs[11]? with _ | v
  · rw [e] at f4; exact Bool.noConfusion f4
  · rw [e] at f4; rw [isRefN_eq f4]
set_option tactic.hygienic false in
theorem init_code {X : Fx} {W : Wd} {st : St} {h : Heap} (ok : FxOK X) (rp : Rep X W st h) : ∃ ps, h.IsCode (103 : Addr) PT ps ∧ h.TableAt (103 : Addr) PT ps := by
  obtain ⟨op, vs, g, d, tr, tb⟩ := rp.z.tab
  have hcode := codeOf_ok (P := PT) (h := h) (c := 103) (x := (kmk.heap_1 X.w.params).lookup 103) (by kernel_rfl) (fun o e => rp.z.kx ok _ _ e)
  have key : codeRecOK ((kmk.heap_1 X.w.params).lookup 103) = true := by kernel_rfl
  obtain ⟨o, k1, q⟩ := objB_eq key
  obtain ⟨vs', k2, q⟩ := fldB_eq q
  obtain ⟨f1, q⟩ := Bool.and_eq_true_iff.mp q
  obtain ⟨f2, q⟩ := Bool.and_eq_true_iff.mp q
  obtain ⟨f3, q⟩ := Bool.and_eq_true_iff.mp q
  obtain ⟨f4, f5⟩ := Bool.and_eq_true_iff.mp q
  have k3 := isRefN_eq f1
  obtain ⟨_, _, k4⟩ := isStrK_eq f2
  obtain ⟨_, _, k5⟩ := isIntK_eq f3
  obtain ⟨_, k6⟩ := isBooK_eq f4
  obtain ⟨_, _, k7⟩ := isIntK_eq f5
  exact ⟨vs, ⟨o, vs', _, _, _, _, _, _, _, op, rp.z.kx ok _ _ k1, k2, k3, k4, k5, k6, k7, g, d, tr, by decide⟩, hcode, g.trans (congrArg some tb)⟩
section
variable {n : Nat} {X : Fx} {A : Around} {C : Cx}
set_option tactic.hygienic false in
theorem asI_int {W : Wd} {v : SV} {u : Value} {k : Bool} {a : Int} {b : Option Nat} (h : VR W v u) (e : asI v = some (k, a, b)) : ∃ t, u = .int a t := (asI_VR h e).1
/-- the parts of the generator expression -/
structure GP (nmC nmT nmV nmS : Str) (scope : Scope) : Prop where
  kind : scope.kind = .function
  co : scope.isCoroutine = false
  names : scope.names = [(Str.ofString ".0", .local), (nmV, .local), (nmS, .free)]
  S : sq nmS (Str.ofString "__debug__") = false
  V : sq nmV (Str.ofString "__debug__") = false
  v0 : sq nmV (Str.ofString ".0") = false
  s0 : sq nmS (Str.ofString ".0") = false
  sv : sq nmS nmV = false
  cd : sq nmS (Str.ofString "__classdict__") = false
set_option tactic.hygienic false in
theorem sq_ne {a b : Str} (h : sq a b = false) : (a == b) = false := by
  rw [beq_eq_false_iff_ne]
  intro e
  rw [sq_iff.mpr e] at h; cases h
/-- the two numbers, in a list or a tuple -/
noncomputable def cvS (t : Bool) (v1 v2 : SV) : SV := match t with
  | true => .tup [v1, v2]
  | false => .fl [v1, v2]
inductive CvSrc (X : Fx) (W : Wd) (s : Shared) (v1 v2 : SV) (u : Value) : Prop
  | mk (l : Addr) (o : Obj) (items : Array Value) (io : Obj) (SI : Addr → Nat → Heap → Prop) (e : u = .ref l) (g : s.heap.get? l = some o) (ne : l ≠ PT) (vs : VRs W [v1, v2] items.toList) (fr : io.isFreed = false)
    (it : ∀ A' Q' E', Q' (.ref s.heap.objs.size) { s with heap := s.heap.push io } → wpAny (model PW X.w) A' (pyIter (.ref l)) Q' E' s)
    (wk : ∀ A', A'.handled = none → ∀ I, l ≠ I → Walks PW X.w A' I [I, l] [I] items.size (fun i v => items[i]? = some v) (SI I)) (st : ∀ I h, h.get? I = some io → h.get? l = some o → SI I 0 h) : CvSrc X W s v1 v2 u
set_option tactic.hygienic false in
theorem cv_src {W : Wd} {st : St} {s : Shared} {t : Bool} {v1 v2 : SV} {u : Value} (rp : Rep X W st s.heap) (hv : VR W (cvS t v1 v2) u) : CvSrc X W s v1 v2 u := by
  rcases t with _ | _
  rotate_left
  ·
    simp only [cvS, VR] at hv
    obtain ⟨l, o, items, rfl, h1, h2, h3⟩ := hv
    have g := rp.z.sub _ _ h1
    exact ⟨l, o, items, { cls := .type "tuple_iterator", data := .fields #[.ref l, .int 0 0] }, fun I i h => h.IsTupleIter I l i ∧ h.IsTuple l items, rfl, g, fun e => (rp.z.npt o).2.1 (e ▸ h1), h3, rfl, fun A' Q' E' h => wpAny_pyIter_tuple (h2.is g) h, fun A' hh I ne => Walks.tuple hh I l ne items, fun I h e1 e2 => ⟨⟨_, e1, rfl, rfl⟩, h2.is e2⟩⟩
  ·
    simp only [cvS, VR] at hv
    obtain ⟨l, o, items, rfl, h1, h2, h3⟩ := hv
    have g := rp.z.subL _ _ h1
    exact ⟨l, o, items, { cls := .type "list_iterator", data := .fields #[.ref l, .int 0 0] }, fun I i h => h.IsListIter I l i ∧ h.IsList l items, rfl, g, fun e => (rp.z.npt o).2.2 (e ▸ h1), h3, rfl, fun A' Q' E' h => wpAny_pyIter_list (h2.is g) h, fun A' hh I ne => Walks.list hh I l ne items, fun I h e1 e2 => ⟨⟨_, e1, rfl, rfl⟩, h2.is e2⟩⟩
set_option tactic.hygienic false in
/-- the tuple of the residues -/
theorem gen_sound {W : Wd} {st : St} {s : Shared} {Q : Value → Shared → Prop} {E : Value → Shared → Prop} {nmC nmT nmV nmS : Str} {p1 p2 p3 p4 p5 p6 p7 p8 p9 : Pos} {scope : Scope} {x dx : Addr} {es : List DictEntry} {k : Nat} {v1 v2 : SV} {a1 a2 p : Int} {t0 : Tok} {k1 k2 : Bool} {b1 b2 : Option Nat}
    (ok : FxOK X) (co : CxOK n C X) (hA : OKA n A) (rp : Rep X W st s.heap) (hcode : X.env.code = .ref (103 : Addr)) (hT : nameV C nmT st = .ret (.bi .tuple, st)) {tb : Bool} (hL : nameV C nmC st = .ret (cvS tb v1 v2, st)) (e1 : asI v1 = some (k1, a1, b1)) (e2 : asI v2 = some (k2, a2, b2))
    (hx : X.R x (instObj 242 dx)) (hd : X.R dx (dictOf es k)) (hg : getL nmFM es = some (some (.int p t0))) (hp : p ≠ 0)
    (hS2 : lk nmS st.cel = some (.fn x)) (gp : GP nmC nmT nmV nmS scope)
    (h : Post X W s Q (.tup [.int (a1.fmod p) none, .int (a2.fmod p) none], st)) :
    wpAny (model PW X.w) A (eval (.Call (.Name nmT p1) [.GeneratorExp (.BinOp (.Name nmV p2) .Mod (.Attribute (.Name nmS p3) nmFM p4) p5) [⟨.Name nmV p6, .Name nmC p7, [], 0⟩] scope p8] [] p9) X.env) Q E s := by
  obtain ⟨g1, g2, g3, g4, g5, g6, g7, g8, g9⟩ := gp
  refine wpAny_Call_NameR (nameV_sound (C := C) ok co (W := W) (st := st) rp (by
    rw [hT]
    intro s₁ W₁ u le₁ rp₁ sh₁ hv
    simp only [VR] at hv
    subst hv
    obtain ⟨cS, uS, c1, _, _⟩ := rp.c.val _ _ hS2
    have hcl : ∀ y ∈ scope.names, y.2 = .free → ∃ c, X.env.cells.lookup y.1 = some c := by
      rw [g3]
      intro y hy q
      simp only [List.mem_cons, List.not_mem_nil, or_false] at hy
      rcases hy with rfl | rfl | rfl
      · cases q
      · cases q
      · exact ⟨cS, c1⟩
    have ecl : clOf X.env.cells scope.names [] = [(nmS, cS)] := by
      rw [g3]
      show (match X.env.cells.lookup nmS with | some c => _ | none => _) = _
      rw [c1]; rfl
    have lkV : scope.names.lookup nmV = some .local := by
      rw [g3, List.lookup_cons, sq_ne g6, List.lookup_cons, BEq.rfl]
    have lkS : scope.names.lookup nmS = some .free := by
      rw [g3, List.lookup_cons, sq_ne g7, List.lookup_cons, sq_ne g8, List.lookup_cons, BEq.rfl]
    refine PyProof.Rows.callWith_type1 (T := "tuple") (PyProof.Rows.spliced_more ?_ rfl) rfl rfl
    refine wpAny_GeneratorExp_walksQ hA.h g2 ((closure_of hcl).trans (congrArg pure ecl)) (by rw [g3]; intro y hy; simp only [List.mem_cons, List.not_mem_nil, or_false] at hy; rcases hy with rfl | rfl | rfl <;> exact nofun)
      (by rw [g3, List.lookup_cons, BEq.rfl]) lkV g1 (by have := hA.d; unfold recursionLimit; omega) ?_ (fun _ => rfl)
    refine nameV_sound (C := C) ok co (W := W₁) (st := st) rp₁ (by
      rw [hL]
      intro s₂ W₂ u₂ le₂ rp₂ sh₂ hv₂
      obtain ⟨l, o, items, io, SI, rfl, gl, lP, hvs, hio, hiter, hW, hSI⟩ := cv_src rp₂ hv₂
      have llt : @LT.lt Nat _ l s₂.heap.objs.size := Heap.lt_size gl
      refine hiter _ _ _ ?_
      have T := rp₂.z.top ok
      have KX := rp₂.z.kx ok
      obtain ⟨ps, hic, hta⟩ := init_code ok rp₂
      have pu : ∀ b o', s₂.heap.get? b = some o' → (s₂.heap.push io).get? b = some o' := fun b o' e => Heap.get?_push_of_some _ e
      have hI := Heap.get?_push_size s₂.heap (o := io) hio
      generalize hH1 : s₂.heap.push io = H1 at pu hI ⊢
      generalize hIe : s₂.heap.objs.size = I at hI llt ⊢
      have nP : I ≠ PT := fun e => by
        obtain ⟨o', _, q, _⟩ := rp₂.z.tab
        have : @LT.lt Nat _ PT I := hIe ▸ Heap.lt_size q
        exact absurd (e ▸ this) (Nat.lt_irrefl _)
      refine ⟨T.nolimit.keeps pu, genexprCode_tab hcode (hic.keeps pu) (hta.keeps pu) fun code h₃ tk₃ ps' ex hic' htb' => ?_⟩
      have up : ∀ b o', b ≠ PT → s₂.heap.get? b = some o' → h₃.get? b = some o' := fun b o' hb e => ex b o' hb (pu b o' e)
      obtain ⟨ob, b1', b2', b3', b4'⟩ := ok.bm
      refine wpAny_builtinsFor (s := { s₂ with heap := h₃, toks := tk₃ }) (bm := (4 : Addr)) (by rw [ok.glob]; exact T.g.at' fun o e => up _ o (by decide) e) (mg_of KX T.g (by kernel_rfl)) (by decide) (up _ _ (by decide) (rp₂.z.base _ _ (by decide) b1')) b2' b3' b4' ?_
      have hsz : @LT.lt Nat _ I h₃.objs.size := Heap.lt_size (ex _ _ nP hI)
      have blt : ∀ b o', b ≠ PT → s₂.heap.get? b = some o' → @LT.lt Nat _ b h₃.objs.size := fun b o' hb e => Heap.lt_size (up b o' hb e)
      have bI : ∀ b o', s₂.heap.get? b = some o' → b ∉ ([I] : List Addr) := fun b o' e q => by
        rw [List.mem_singleton.mp q, ← hIe] at e
        exact absurd (Heap.lt_size e) (Nat.lt_irrefl _)
      refine ⟨I, [I, l], [I], items.size, _, _, fun _ => true, fun i y => ∃ t, y = .int (if i = 0 then a1.fmod p else a2.fmod p) t, rfl, fun A' hh => hW A' hh I (Nat.ne_of_lt llt), hSI I _ (ex _ _ nP hI) (up _ o lP gl), ?_, ?_, ?_, ?_, ?_⟩
      · intro b hb
        rcases List.mem_cons.mp hb with rfl | hb
        · exact hsz
        · rw [List.mem_singleton.mp hb]; exact Nat.lt_trans llt hsz
      · obtain ⟨mc, a, b⟩ := T.nolimit
        exact ⟨mc, a.at' fun o' e => up _ o' (by decide) e, b⟩
      · obtain ⟨mc, ⟨o', _, _, e, _⟩, _⟩ := T.nolimit
        exact bI _ _ e
      · intro href hk
        have hrf : ∀ b o', b ≠ PT → s₂.heap.get? b = some o' → href.get? b = some o' := fun b o' hb e => hk b o' (up b o' hb e)
        refine ⟨fun A' E' i v s₃ m₂ hh hP hn hm hkp => wpAny_tests_nil ⟨rfl, ⟨s₃.heap, s₃.toks, rfl, fun _ _ e => e⟩⟩, fun A' E' i v s₃ m₂ hh hP _ hn hm hkp => ?_⟩
        have at3 : ∀ b o', b ≠ PT → s₂.heap.get? b = some o' → s₃.heap.get? b = some o' := fun b o' hb e => hkp b (List.mem_range.mpr (blt b o' hb e)) (bI b o' e) o' (hrf b o' hb e)
        have K3 : (kmk.heap_1 X.w.params).In s₃.heap := fun a o' e => at3 a o' (fun q => by
          subst q
          have : (kmk.heap_1 X.w.params).lookup PT = none := by kernel_rfl
          rw [this] at e; cases e) (KX a o' e)
        obtain ⟨c, u, q1, q2, q3⟩ := rp₂.c.val _ _ hS2
        have : c = cS := by rw [c1] at q1; exact (Option.some.inj q1).symm
        subst this
        simp only [VR] at q3
        subst q3
        have nPc : c ≠ PT := (rp₂.c.own _ _ q1).1.ne_pt ok
        have hcell : s₃.heap.IsCell c (some (.ref x)) := let ⟨o', e, r⟩ := q2; ⟨o', at3 c o' nPc e, r⟩
        have nPx : x ≠ PT := fun e => (rp₂.z.npt _).1 (e ▸ hx)
        have nPd : dx ≠ PT := fun e => (rp₂.z.npt _).1 (e ▸ hd)
        have big : @LE.le Nat _ 372 h₃.objs.size := by
          obtain ⟨m', hm', _⟩ := rp₂.n.ns
          obtain ⟨o', e⟩ := Ns_some hm'
          exact Nat.le_trans ok.big (Nat.le_of_lt (blt _ o' (rp₂.n.own.ne_pt ok) e))
        have hv : ∃ t, v = .int (if i = 0 then a1 else a2) t := by
          simp only [VRs] at hvs
          obtain ⟨x1, r1, f1, f2, x2, r2, f3, f4, f5⟩ := hvs
          rw [f3, f5] at f1
          have hP' : items.toList[i]? = some v := by rw [Array.getElem?_toList]; exact hP
          rw [f1] at hP'
          rcases i with _ | _ | i
          · cases hP'; exact asI_int f2 e1
          · cases hP'; exact asI_int f4 e2
          · simp at hP'
        obtain ⟨t, rfl⟩ := hv
        refine wpAny_BinOp (wpAny_Name (wpAny_loadName_local g1 lkV hn hm ?_) (sq_ne g5))
        refine Attribute_any_ (wpAny_Name (wpAny_loadName_free g1 lkS (by show List.lookup nmS [(nmS, c)] = some c; rw [List.lookup_cons, BEq.rfl]) hcell ?_ (sq_ne g9)) (sq_ne g4)) rfl
        refine self_get K3 hn big (at3 _ _ nPx (rp₂.z.prot _ _ hx)) (at3 _ _ nPd (rp₂.z.prot _ _ hd)) (by kernel_rfl) (by kernel_rfl) hg rfl ?_
        refine mod_int hp ⟨?_, ⟨s₃.heap, _, rfl, fun _ _ e => e⟩⟩
        by_cases hi : i = 0
        · simp only [hi, if_true]; exact ⟨_, rfl⟩
        · simp only [hi, if_false]; exact ⟨_, rfl⟩
      · intro a h₅ tk₅ gs hgs hal hsz5 hk5 Wk hst
        refine PyProof.Rows.spliced_none ?_
        have it2 : items.size = 2 := by rw [← Array.length_toList, hvs.length]; rfl
        have plen : (passing (fun _ => true) items.size 0).length = 2 := by rw [it2]; rfl
        refine call_tuple_gen (hsz := by rw [plen, sizeLine_eq]; decide) (WalksS.of_in1 (A := A.in1.in1.in1) Wk) (fun i s' z => z.1.typeIs) hst (fun b hb => ?_) List.mem_cons_self fun s₆ acc hmv hit => ?_
        · show @LT.lt Nat _ b h₅.objs.size
          rw [hsz5]
          have hal' : @LT.lt Nat _ h₃.objs.size a := hal
          rcases List.mem_cons.mp hb with rfl | hb
          · exact Nat.lt_succ_self _
          · rcases List.mem_cons.mp hb with rfl | hb
            · exact Nat.lt_succ_of_lt hal'
            · exact Nat.lt_succ_of_lt (Nat.lt_trans (List.mem_range.mp hb) hal')
        · have up6 : ∀ b o', h₃.get? b = some o' → b ≠ I → s₆.heap.get? b = some o' := fun b o' e hb => hmv.heap b o' (fun q => by
            rcases List.mem_cons.mp q with rfl | q
            · exact absurd (Heap.lt_size e) (Nat.lt_irrefl _)
            · exact hb (List.mem_singleton.mp q)) (hk5 b o' e)
          have k6 : ∀ b o', b ≠ PT → s₂.heap.get? b = some o' → s₆.heap.get? b = some o' := fun b o' hb e => up6 b o' (up b o' hb e) fun q => bI b o' e (List.mem_singleton.mpr q)
          have tab6 : TabOK s₆.heap := by
            obtain ⟨_, _, _, _, _, _, _, _, _, op, _, _, _, _, _, _, _, z1, z2, z3, _⟩ := hic'
            exact ⟨op, ps', up6 _ _ z1 nP.symm, z2, z3, Option.some.inj (z1.symm.trans htb')⟩
          obtain ⟨_, r6⟩ := rp₂.extend (H' := W₂.H) (HL' := W₂.HL) ok k6 tab6 (fun _ _ e => e) (fun _ _ e => e) (fun b o' e => ⟨k6 b o' (fun q => (rp₂.z.npt o').2.1 (q ▸ e)) (rp₂.z.sub b o' e), .inl e⟩) (fun b o' e => ⟨k6 b o' (fun q => (rp₂.z.npt o').2.2 (q ▸ e)) (rp₂.z.subL b o' e), .inl e⟩)
          have r7 := r6.grow (h' := s₆.heap.push { cls := .type "tuple", data := .seq acc }) fun b o' e => Heap.get?_push_of_some _ e
          obtain ⟨le8, r8⟩ := r6.addH ok r7 (fresh_none (Nat.le_refl _)) (Heap.get?_push_size _ rfl)
          obtain ⟨hsa, hia⟩ := hit
          rw [plen] at hsa
          obtain ⟨y0, y1, ey⟩ : ∃ y0 y1, acc.toList = [y0, y1] := by
            have : acc.toList.length = 2 := by rw [Array.length_toList]; exact hsa
            match acc.toList, this with
            | [a, b], _ => exact ⟨a, b, rfl⟩
          have h0 := hia 0 y0 (by rw [← Array.getElem?_toList, ey]; rfl)
          have h1 := hia 1 y1 (by rw [← Array.getElem?_toList, ey]; rfl)
          rw [it2] at h0 h1
          obtain ⟨i0, w0, t0', rfl⟩ := h0
          obtain ⟨i1, w1, t1', rfl⟩ := h1
          cases w0
          cases w1
          refine h _ _ _ ((le₁.trans le₂).trans le8) r8 ((sh₁.trans sh₂).trans ⟨hmv.drawn, hmv.os, fun q => ?_⟩) ?_
          · refine GenOnlyQ.bare hmv.gens fun y hy => ?_
            rcases Array.mem_push.mp hy with hy | rfl
            · exact q y hy
            · exact hgs
          · simp only [VR]
            refine ⟨_, _, acc, rfl, .inr ⟨rfl, rfl⟩, ⟨rfl, rfl, _, rfl⟩, ?_⟩
            rw [ey]
            exact .cons (by simp only [VR]; exact ⟨⟨t0', rfl⟩, trivial⟩) (.one (by simp only [VR]; exact ⟨⟨t1', rfl⟩, trivial⟩)))))
end
noncomputable def nm (s : String) : Str := Str.ofString s
noncomputable def mths (i : Nat) : Option Stmt := inCls (top 18) i
noncomputable def stm (i : Nat) : Option Stmt := (fnB (mths 0))[i]?
noncomputable def pz : Pos := ⟨0, 0, 0, 0⟩
noncomputable def aP : Option Stmt → Pos × Pos × Pos × Expr
  | some (.Assign [.Attribute (.Name _ p) _ q] v r) => (p, q, r, v)
  | _ => (pz, pz, pz, .Constant .none 0 pz)
noncomputable def iP : Option Stmt → Expr × List Stmt × List Stmt × Pos
  | some (.If t b o p) => (t, b, o, p)
  | _ => (.Constant .none 0 pz, [], [], pz)
noncomputable def asgF (s : Option Stmt) (self name : Str) : Stmt := .Assign [.Attribute (.Name self (aP s).1) name (aP s).2.1] (aP s).2.2.2 (aP s).2.2.1
noncomputable def stC : Option Stmt := (iP (stm 3)).2.1[0]?
set_option tactic.hygienic false in
theorem init_form : fnB (mths 0) = [asgF (stm 0) (nm "self") nmFM, asgF (stm 1) (nm "self") nmMC, .If (iP (stm 2)).1 (iP (stm 2)).2.1 [] (iP (stm 2)).2.2.2, .If (iP (stm 3)).1 [asgF stC (nm "self") nmCO] (iP (stm 3)).2.2.1 (iP (stm 3)).2.2.2,
  asgF (stm 4) (nm "self") nmMO, asgF (stm 5) (nm "self") nmDG] := by kernel_rfl
noncomputable def gP : Expr → Pos × Pos × Pos × Pos × Pos × Pos × Pos × Pos × Pos × Scope
  | .Call (.Name _ p1) [.GeneratorExp (.BinOp (.Name _ p2) _ (.Attribute (.Name _ p3) _ p4) p5) [⟨.Name _ p6, .Name _ p7, _, _⟩] sc p8] _ p9 => (p1, p2, p3, p4, p5, p6, p7, p8, p9, sc)
  | _ => (pz, pz, pz, pz, pz, pz, pz, pz, pz, ⟨.module, [], false, false, []⟩)
noncomputable abbrev gq := gP (aP stC).2.2.2
set_option tactic.hygienic false in
theorem gen_form : (aP stC).2.2.2 = .Call (.Name (nm "tuple") gq.1) [.GeneratorExp (.BinOp (.Name (nm "coeff") gq.2.1) .Mod (.Attribute (.Name (nm "self") gq.2.2.1) nmFM gq.2.2.2.1) gq.2.2.2.2.1) [⟨.Name (nm "coeff") gq.2.2.2.2.2.1, .Name (nm "coeffs") gq.2.2.2.2.2.2.1, [], 0⟩] gq.2.2.2.2.2.2.2.2.2 gq.2.2.2.2.2.2.2.1] [] gq.2.2.2.2.2.2.2.2.1 := by kernel_rfl
set_option tactic.hygienic false in
theorem gen_parts : GP (nm "coeffs") (nm "tuple") (nm "coeff") (nm "self") gq.2.2.2.2.2.2.2.2.2 := by
  constructor <;> kernel_rfl
noncomputable def lP : Expr → Pos × Pos × Pos × Pos
  | .Call (.Name _ p1) [.Attribute (.Name _ p2) _ p3] _ p4 => (p1, p2, p3, p4)
  | _ => (pz, pz, pz, pz)
noncomputable abbrev lq := lP (aP (stm 5)).2.2.2
set_option tactic.hygienic false in
theorem len_form : (aP (stm 5)).2.2.2 = .Call (.Name (nm "len") lq.1) [.Attribute (.Name (nm "self") lq.2.1) nmMO lq.2.2.1] [] lq.2.2.2 := by kernel_rfl
noncomputable def gloI : List (Str × SV) := [(nm "enumerate", .bi .enumerate), (nm "len", .bi .len), (nm "isinstance", .bi .isinstance), (nm "int", .bi .int), (nm "tuple", .bi .tuple)]
noncomputable def CI : Cx := ⟨fnN (mths 0), gloI, fun _ _ => .stuck⟩
set_option tactic.hygienic false in
theorem fok_init : FnOK 104 (fnP (mths 0)) (fnB (mths 0)) (fnN (mths 0)) := fun P => by
  refine ⟨objAt P 104, fdAt (objAt P 104), by kernel_rfl, by kernel_rfl, by kernel_rfl, by kernel_rfl, by kernel_rfl, by kernel_rfl, by kernel_rfl, by kernel_rfl, by kernel_rfl, by kernel_rfl, by kernel_rfl, fun vals S h => ?_⟩
  have : (fnP (mths 0)).length = 4 := by kernel_rfl
  rw [this] at h
  obtain ⟨a, r0, rfl, h0⟩ := len_s h
  obtain ⟨b, r1, rfl, h1⟩ := len_s h0
  obtain ⟨c, r2, rfl, h2⟩ := len_s h1
  obtain ⟨d, r3, rfl, h3⟩ := len_s h2
  obtain rfl := List.eq_nil_of_length_eq_zero h3
  kernel_rfl
set_option tactic.hygienic false in
theorem glo_bi {x : Str} {b : Bi} {P : Params} (h : nsIn (kmk.heap_1 P) mainGlobals x = some none) (e : bootBuiltins x = some b.val) (n : sq x (Str.ofString "__name__") = false) : ∃ u, (nsIn (kmk.heap_1 P) mainGlobals x = some (some u) ∨ (nsIn (kmk.heap_1 P) mainGlobals x = some none ∧ bootBuiltins x = some u ∧ x ≠ "__name__")) ∧
  ∀ W : Wd, (∀ a o, (kmk.heap_1 P).lookup a = some o → W.H a o) → VR W (.bi b) u := ⟨b.val, .inr ⟨h, e, beq_eq_false_iff_ne.mp (sq_ne n)⟩, fun W _ => by simp only [VR]⟩
theorem glo_init : GloOK CI := by
  intro x v h P
  have h' : lk x gloI = some v := h
  unfold gloI at h'
  simp only [lk] at h'
  repeat' (split at h')
  all_goals first | (cases h'; done) | skip
  all_goals (next q => cases h'; obtain rfl := sq_iff.mp q; exact glo_bi (by kernel_rfl) (by kernel_rfl) (by kernel_rfl))
/-- the entries of an object's dict: text keys alone -/
noncomputable def Strs (es : List DictEntry) : Prop := ∀ e ∈ es, ∃ n t, e.key = .str n t
set_option tactic.hygienic false in
theorem putL_strs {name : Str} {h : Int} {tk : Tok} {v : Value} : ∀ {es : List DictEntry}, Strs es → Strs (putL name h (.str name tk) v es)
  | [], _ => fun e he => by rw [List.mem_singleton.mp he]; exact ⟨_, _, rfl⟩
  | x :: r, hs => by
    unfold putL
    split
    · intro e he
      rcases List.mem_cons.mp he with rfl | he
      · exact hs x List.mem_cons_self
      · exact hs e (List.mem_cons_of_mem _ he)
    · intro e he
      rcases List.mem_cons.mp he with rfl | he
      · exact hs e List.mem_cons_self
      · exact putL_strs (fun e he => hs e (List.mem_cons_of_mem _ he)) e he
set_option tactic.hygienic false in
theorem getL_cons {m : Str} {x : DictEntry} {r : List DictEntry} {n : Str} {t : Tok} (hx : x.key = .str n t) : getL m (x :: r) = if m = n then some (some x.val) else getL m r := by
  unfold getL
  have e1 : x.key.isStr m = decide (m = n) := by
    rw [hx]
    show (n == m) = _
    by_cases q : m = n
    · subst q; simp
    · rw [decide_eq_false q, beq_eq_false_iff_ne]; exact fun e => q e.symm
  have e2 : x.refKey = false := by unfold DictEntry.refKey; rw [hx]
  rw [List.find?_cons, e1, List.any_cons, e2, Bool.false_or]
  by_cases q : m = n
  · rw [if_pos q, decide_eq_true q]
  · rw [if_neg q, decide_eq_false q]
set_option tactic.hygienic false in
theorem getL_nil {m : Str} : getL m [] = some none := rfl
set_option tactic.hygienic false in
theorem getL_put {m name : Str} {h : Int} {tk : Tok} {v : Value} : ∀ {es : List DictEntry}, Strs es → getL m (putL name h (.str name tk) v es) = if m = name then some (some v) else getL m es
  | [], _ => by unfold putL; rw [getL_cons rfl]
  | x :: r, hs => by
    obtain ⟨n, t, hx⟩ := hs x List.mem_cons_self
    have hr : Strs r := fun e he => hs e (List.mem_cons_of_mem _ he)
    unfold putL
    have e1 : x.key.isStr name = decide (name = n) := by
      rw [hx]
      show (n == name) = _
      by_cases q : name = n
      · subst q; simp
      · rw [decide_eq_false q, beq_eq_false_iff_ne]; exact fun e => q e.symm
    rw [e1]
    by_cases q : name = n
    · rw [decide_eq_true q, if_pos rfl, getL_cons (x := ⟨x.hash, x.key, v⟩) hx, getL_cons hx, q]
      by_cases w : m = n
      · rw [if_pos w, if_pos w]
      · rw [if_neg w, if_neg w, if_neg w]
    · rw [decide_eq_false q, if_neg (by decide), getL_cons hx, getL_put hr, getL_cons hx]
      by_cases w : m = n
      · rw [if_pos w, if_pos w, if_neg (fun e => q (e.symm.trans w))]
      · rw [if_neg w, if_neg w]
set_option tactic.hygienic false in
theorem getL_some {m : Str} : ∀ {es : List DictEntry}, Strs es → (getL m es).isSome = true
  | [], _ => rfl
  | x :: r, hs => by
    obtain ⟨n, t, hx⟩ := hs x List.mem_cons_self
    rw [getL_cons hx]
    split
    · rfl
    · exact getL_some fun e he => hs e (List.mem_cons_of_mem _ he)
/-- an object that is being made -/
structure Ini (X : Fx) (W : Wd) (st : St) (x dx : Addr) (h : Heap) (es : List DictEntry) (k : Nat) : Prop where
  rp : Rep X W st h
  f : FpOK X W st h [x, dx] [dx]
  hx : h.get? x = some (instObj 242 dx)
  hd : h.get? dx = some (dictOf es k)
  st : Strs es
  len : es.length ≤ 50
  ne : x ≠ dx
section
variable {n : Nat} {X : Fx} {A : Around} {C : Cx} {r : Ev} {W : Wd} {st : St} {s : Shared} {x dx : Addr} {es : List DictEntry} {k : Nat} {E : Value → Shared → Prop}
set_option tactic.hygienic false in
theorem Ini.held (I : Ini X W st x dx s.heap es k) : Rep (X.hold s.heap [x, dx] [dx]) W st s.heap := I.rp.hold I.f
set_option tactic.hygienic false in
theorem Ini.back (ok : FxOK X) (I : Ini X W st x dx s.heap es k) {W' : Wd} {st' : St} {h' : Heap} (rp : Rep (X.hold s.heap [x, dx] [dx]) W' st' h') : Ini X W' st' x dx h' es k :=
  ⟨rp.unhold, I.f.after ok rp, rp.z.prot _ _ (.inr ⟨List.mem_cons_self, I.hx⟩), rp.z.prot _ _ (.inr ⟨List.mem_cons_of_mem _ List.mem_cons_self, I.hd⟩), I.st, I.len, I.ne⟩
set_option tactic.hygienic false in
theorem Ini.okh (ok : FxOK X) (I : Ini X W st x dx s.heap es k) : FxOK (X.hold s.heap [x, dx] [dx]) := ok.hold I.f.sub I.f.here
set_option tactic.hygienic false in
theorem Ini.ev {value : Expr} {Q : Value → Shared → Prop} (ok : FxOK X) (I : Ini X W st x dx s.heap es k) (he : SE (X.hold s.heap [x, dx] [dx]) A r.e)
    (h : (r.e value st).Holds (fun a => ∀ s' W' u, W.le W' → Ini X W' a.2 x dx s'.heap es k → Sh s s' → VR W' a.1 u → Q u s') (fun _ => False)) : wpAny (model PW X.w) A (eval value X.env) Q E s :=
  he value st W s Q E I.held (h.mono (fun a ha s' W' u le rp sh hv => ha s' W' u le (I.back ok rp) sh hv) fun _ z => z.elim)
set_option tactic.hygienic false in
theorem Ini.set (ok : FxOK X) (I : Ini X W st x dx s.heap es k) {name : Str} {v : Value} {Q : Unit → Shared → Prop} (ht : takerIn (kmk.heap_1 X.w.params) 242 name = some none) (hl : es.length ≤ 40)
    (h : ∀ s' es' k', (∀ m, getL m es' = if m = name then some (some v) else getL m es) → es'.length ≤ es.length + 1 → Ini X W st x dx s'.heap es' k' → Sh s s' → Q () s') : wpAny (model PW X.w) A (setAttr (.ref x) name v) Q E s := by
  refine self_set (I.rp.z.kx ok) I.hx I.hd ht (getL_some I.st) (by omega) fun h' tk hs hd' => ?_
  have kk : ∀ b o, b ∉ ([dx] : List Addr) → s.heap.get? b = some o → h'.get? b = some o := fun b o hb e => hs.extBut b o (fun q => hb (List.mem_singleton.mpr q)) e
  refine h { s with heap := h', toks := tk } _ _ (fun m => getL_put I.st) (putL_len es) ⟨I.rp.turn I.f kk, I.f.turn fun b hb => ?_, hs.extBut _ _ I.ne I.hx, hd', putL_strs I.st, Nat.le_trans (putL_len es) (by omega), I.ne⟩ (.heap s h' tk)
  rcases List.mem_cons.mp hb with rfl | hb
  · exact ⟨_, hs.extBut _ _ I.ne I.hx⟩
  · rw [List.mem_singleton.mp hb]; exact ⟨_, hd'⟩
set_option tactic.hygienic false in
theorem Ini.self {nmS : Str} {p : Pos} {Q : Value → Shared → Prop} (ok : FxOK X) (co : CxOK n C X) (I : Ini X W st x dx s.heap es k) (hv : nameV C nmS st = .ret (.fn x, st)) (h : ∀ s' W', W.le W' → Ini X W' st x dx s'.heap es k → Sh s s' → Q (.ref x) s') : wpAny (model PW X.w) A (eval (.Name nmS p) X.env) Q E s := by
  refine nameV_sound (X := X.hold s.heap [x, dx] [dx]) (I.okh ok) ⟨co.F, co.glo, co.names⟩ I.held (C := C) ?_
  rw [hv]
  intro s' W' u le rp sh hu
  simp only [VR] at hu
  subst hu
  exact h s' W' le (I.back ok rp) sh
set_option tactic.hygienic false in
theorem swap_attr {v t : Expr} {name : Str} {p : Pos} {line : Nat} {env : Env} : swapsWith v (some (.Attribute t name p)) line env = pure false := by
  cases v <;> rfl
/-- a statement «self.name = value» -/
theorem Ini.assign {s₀ : Option Stmt} {nmS name : Str} {Q : Flow → Shared → Prop} (ok : FxOK X) (co : CxOK n C X) (hl : es.length ≤ 40) (ht : takerIn (kmk.heap_1 X.w.params) 242 name = some none)
    (hev : wpAny (model PW X.w) A (eval (aP s₀).2.2.2 X.env) (fun u s₁ => ∃ W₁ st₁ k₁, Ini X W₁ st₁ x dx s₁.heap es k₁ ∧ Sh s s₁ ∧ nameV C nmS st₁ = .ret (.fn x, st₁) ∧
      ∀ s₂ W₂ es' k', W₁.le W₂ → (∀ m, getL m es' = if m = name then some (some u) else getL m es) → es'.length ≤ es.length + 1 → Ini X W₂ st₁ x dx s₂.heap es' k' → Sh s s₂ → Q .next s₂) E s) :
    wpAny (model PW X.w) A (exec (asgF s₀ nmS name) X.env) Q E s := by
  unfold asgF
  refine plainObj_wpAny_Assign_Attribute (wpAny_mono hev (fun u s₁ ⟨W₁, st₁, k₁, I₁, sh₁, hv, hq⟩ => ?_) fun _ _ z => z) swap_attr
  refine I₁.self ok co hv fun s₂ W₂ le₂ I₂ sh₂ => ?_
  exact I₂.set ok ht hl fun s₃ es' k' hg hlen I₃ sh₃ => hq s₃ W₂ es' k' le₂ hg hlen I₃ (sh₁.trans (sh₂.trans sh₃))
set_option tactic.hygienic false in
theorem Ini.evT {value : Expr} {Q : Bool → Shared → Prop} (ok : FxOK X) (I : Ini X W st x dx s.heap es k) (ht : STt (X.hold s.heap [x, dx] [dx]) A r.t)
    (h : (r.t value st).Holds (fun a => ∀ s' W' b, W.le W' → Ini X W' a.2 x dx s'.heap es k → Sh s s' → isB a.1 b → Q b s') (fun _ => False)) : wpAny (model PW X.w) A (PySem.isTrue value X.env (eval value X.env)) Q E s :=
  ht value st W s Q E I.held (h.mono (fun a ha s' W' b le rp sh hv => ha s' W' b le (I.back ok rp) sh hv) fun _ z => z.elim)
set_option tactic.hygienic false in
theorem evK (ok : FxOK X) (co : CxOK n C X) (hc : CellsOK C X) (hA : OKA n A) (I : Ini X W st x dx s.heap es k) (j : Nat) : SE (X.hold s.heap [x, dx] [dx]) A (ev2 C j).e ∧ STt (X.hold s.heap [x, dx] [dx]) A (ev2 C j).t :=
  ev2_sound (I.okh ok) ⟨co.F, co.glo, co.names⟩ hc hA j
end
noncomputable def S0 (tb : Bool) (v1 v2 q : SV) (x : Addr) : St := ⟨[(nm "coeffs", cvS tb v1 v2), (nm "modulus_coeffs", .tup [.num 1, .num 0]), (nm "field_modulus", q)], [(nm "self", .fn x)], []⟩
noncomputable def S1 (tb : Bool) (v1 v2 q : SV) (x : Addr) : St := { S0 tb v1 v2 q x with mls := [(false, [.tup [.num 0, .num 1]])] }
section
variable (tb : Bool) (v1 v2 q : SV) (x : Addr)
set_option tactic.hygienic false in
theorem irun0 : (ev2 CI 8).e (aP (stm 0)).2.2.2 (S0 tb v1 v2 q x) = .ret (q, S0 tb v1 v2 q x) := by kernel_rfl
set_option tactic.hygienic false in
theorem irun1 : (ev2 CI 8).e (aP (stm 1)).2.2.2 (S0 tb v1 v2 q x) = .ret (.ml 0, S1 tb v1 v2 q x) := by kernel_rfl
set_option tactic.hygienic false in
theorem irun2 : (ev2 CI 8).t (iP (stm 2)).1 (S1 tb v1 v2 q x) = .ret (.bool false, S1 tb v1 v2 q x) := by cases tb <;> kernel_rfl
set_option tactic.hygienic false in
theorem irun3 {k : Bool} {a : Int} {b : Option Nat} (h : asI v1 = some (k, a, b)) : (ev2 CI 8).t (iP (stm 3)).1 (S1 tb v1 v2 q x) = .ret (.bool true, S1 tb v1 v2 q x) := by
  cases tb <;> cases v1 <;> first | (cases h; done) | kernel_rfl
set_option tactic.hygienic false in
theorem irun4 : (ev2 CI 8).e (aP (stm 4)).2.2.2 (S1 tb v1 v2 q x) = .ret (.tup [.num 1, .num 0], S1 tb v1 v2 q x) := by kernel_rfl
set_option tactic.hygienic false in
theorem iself0 : nameV CI (nm "self") (S0 tb v1 v2 q x) = .ret (.fn x, S0 tb v1 v2 q x) := by kernel_rfl
set_option tactic.hygienic false in
theorem iself1 : nameV CI (nm "self") (S1 tb v1 v2 q x) = .ret (.fn x, S1 tb v1 v2 q x) := by kernel_rfl
set_option tactic.hygienic false in
theorem itup1 : nameV CI (nm "tuple") (S1 tb v1 v2 q x) = .ret (.bi .tuple, S1 tb v1 v2 q x) := by kernel_rfl
set_option tactic.hygienic false in
theorem ilen1 : nameV CI (nm "len") (S1 tb v1 v2 q x) = .ret (.bi .len, S1 tb v1 v2 q x) := by kernel_rfl
set_option tactic.hygienic false in
theorem ico1 : nameV CI (nm "coeffs") (S1 tb v1 v2 q x) = .ret (cvS tb v1 v2, S1 tb v1 v2 q x) := by kernel_rfl
end
section
variable {n : Nat} {X : Fx} {A : Around} {W : Wd} {s : Shared} {x dx : Addr} {k : Nat} {E : Value → Shared → Prop}
/-- the modulus: its value -/
noncomputable def modOf : SV → Option Int
  | .md p => some p
  | .num p => match decide (0 < p) && decide (p < 100) with
    | true => some p
    | false => none
  | _ => none
theorem modOf_VR {W : Wd} {q : SV} {p : Int} {u : Value} (e : modOf q = some p) (h : VR W q u) : (∃ t, u = .int p t) ∧ 0 < p ∧ p < 100 := by
  cases q <;> (try exact none_neQ e) <;> simp only [modOf] at e
  · split at e
    · next w =>
      cases e
      simp only [Bool.and_eq_true, decide_eq_true_eq] at w
      simp only [VR] at h
      exact ⟨h, w⟩
    · cases e
  · cases e
    simp only [VR] at h
    exact ⟨h.1, h.2⟩
/-- THE BODY OF __init__ -/
theorem init_body {tb : Bool} {v1 v2 q : SV} {a1 a2 p : Int} {k1 k2 : Bool} {b1 b2 : Option Nat} {Q : Flow → Shared → Prop} (ok : FxOK X) (co : CxOK n CI X) (hc : CellsOK CI X) (hA : OKA n A) (hcode : X.env.code = .ref (103 : Addr)) (e1 : asI v1 = some (k1, a1, b1)) (e2 : asI v2 = some (k2, a2, b2)) (ep : modOf q = some p)
    (I0 : Ini X W (S0 tb v1 v2 q x) x dx s.heap [] k)
    (hQ : ∀ s' W' st' es k' lm tc tm t1 t2, W.le W' → Ini X W' st' x dx s'.heap es k' → Sh s s' → getL nmFM es = some (some (.int p t1)) → getL nmMC es = some (some (.ref lm)) → getL nmCO es = some (some (.ref tc)) → getL nmMO es = some (some (.ref tm)) → getL nmDG es = some (some (.int 2 t2)) →
      (∀ m, sq m nmFM = false → sq m nmMC = false → sq m nmCO = false → sq m nmMO = false → sq m nmDG = false → getL m es = some none) → (0 < p ∧ p < 100) →
      (∃ (i : Nat) (l : List SV), st'.mls[i]? = some (false, l) ∧ W'.eta[i]? = some lm ∧ l = [SV.tup [SV.num 0, SV.num 1]]) → VR W' (.tup [.int (a1.fmod p) none, .int (a2.fmod p) none]) (.ref tc) → VR W' (.tup [.num 1, .num 0]) (.ref tm) → Q .next s') :
    wpAny (model PW X.w) A (execs (fnB (mths 0)) X.env) Q E s := by
  have ne : ∀ {a b : Str}, sq a b = false → a ≠ b := fun h e => by rw [sq_iff.mpr e] at h; cases h
  rw [init_form]
  -- field_modulus
  refine wpAny_execs_cons (Ini.assign (x := x) (dx := dx) (es := []) ok co (by decide) (by kernel_rfl) (I0.ev ok (evK ok co hc hA I0 8).1 ?_))
  rw [irun0]
  intro s₁ W₁ u le₁ I₁ sh₁ hu
  obtain ⟨⟨t1, rfl⟩, hp⟩ := modOf_VR ep hu
  refine ⟨W₁, _, _, I₁, sh₁, iself0 .., fun s₂ W₂ es₂ j₂ le₂ g₂ l₂ I₂ sh₂ => ?_⟩
  -- mc_tuples
  refine wpAny_execs_cons (Ini.assign (x := x) (dx := dx) (es := es₂) ok co (by simp only [List.length_nil] at l₂; omega) (by kernel_rfl) (I₂.ev ok (evK ok co hc hA I₂ 8).1 ?_))
  rw [irun1]
  intro s₃ W₃ u₃ le₃ I₃ sh₃ hu₃
  simp only [VR] at hu₃
  obtain ⟨lm, rfl, hlm⟩ := hu₃
  refine ⟨W₃, _, _, I₃, sh₃, iself1 .., fun s₄ W₄ es₄ j₄ le₄ g₄ l₄ I₄ sh₄ => ?_⟩
  -- the lengths
  refine wpAny_execs_cons (wpAny_If (I₄.evT ok (evK ok co hc hA I₄ 8).2 ?_))
  rw [irun2]
  intro s₅ W₅ bb le₅ I₅ sh₅ hb
  obtain rfl : bb = false := by rcases hb with q | q <;> cases q; rfl
  refine wpAny_execs_nil ?_
  -- coeffs
  refine wpAny_execs_cons (wpAny_If (I₅.evT ok (evK ok co hc hA I₅ 8).2 ?_))
  rw [irun3 tb v1 v2 q x e1]
  intro s₆ W₆ bb le₆ I₆ sh₆ hb
  obtain rfl : bb = true := by rcases hb with q | q <;> cases q; rfl
  simp only [List.length_nil] at l₂
  refine wpAny_execs_cons (Ini.assign (x := x) (dx := dx) (es := es₄) ok co (by omega) (by kernel_rfl) ?_)
  rw [gen_form]
  have f6 : getL nmFM es₄ = some (some (.int p t1)) := by rw [g₄, if_neg (ne (by kernel_rfl)), g₂, if_pos rfl]
  refine gen_sound (X := X.hold s₆.heap [x, dx] [dx]) (I₆.okh ok) ⟨co.F, co.glo, co.names⟩ hA I₆.held hcode (itup1 ..) (ico1 ..) e1 e2 (.inr ⟨List.mem_cons_self, I₆.hx⟩) (.inr ⟨List.mem_cons_of_mem _ List.mem_cons_self, I₆.hd⟩) f6 (by omega) (by kernel_rfl) gen_parts ?_
  intro s₇ W₇ u₇ le₇ rp₇ sh₇ hu₇
  have I₇ := I₆.back ok rp₇
  obtain ⟨tc, rfl⟩ : ∃ tc, u₇ = .ref tc := by simp only [VR] at hu₇; obtain ⟨a, _, _, e, _⟩ := hu₇; exact ⟨a, e⟩
  refine ⟨W₇, _, _, I₇, sh₇, iself1 .., fun s₈ W₈ es₈ j₈ le₈ g₈ l₈ I₈ sh₈ => ?_⟩
  refine wpAny_execs_nil ?_
  -- modulus_coeffs
  refine wpAny_execs_cons (Ini.assign (x := x) (dx := dx) (es := es₈) ok co (by omega) (by kernel_rfl) (I₈.ev ok (evK ok co hc hA I₈ 8).1 ?_))
  rw [irun4]
  intro s₉ W₉ u₉ le₉ I₉ sh₉ hu₉
  obtain ⟨tm, rfl⟩ : ∃ tm, u₉ = .ref tm := by simp only [VR] at hu₉; obtain ⟨a, _, _, e, _⟩ := hu₉; exact ⟨a, e⟩
  refine ⟨W₉, _, _, I₉, sh₉, iself1 .., fun s₁₀ W₁₀ es₁₀ j₁₀ le₁₀ g₁₀ l₁₀ I₁₀ sh₁₀ => ?_⟩
  -- degree
  refine wpAny_execs_cons (Ini.assign (x := x) (dx := dx) (es := es₁₀) ok co (by omega) (by kernel_rfl) ?_)
  rw [len_form]
  refine wpAny_Call_NameR (nameV_sound (X := X.hold s₁₀.heap [x, dx] [dx]) (I₁₀.okh ok) ⟨co.F, co.glo, co.names⟩ I₁₀.held (C := CI) ?_)
  rw [ilen1]
  intro s₁₁ W₁₁ u₁₁ le₁₁ rp₁₁ sh₁₁ hu₁₁
  have I₁₁ := I₁₀.back ok rp₁₁
  simp only [VR] at hu₁₁
  subst hu₁₁
  have mo : getL nmMO es₁₀ = some (some (.ref tm)) := by rw [g₁₀, if_pos rfl]
  refine PyProof.Rows.callWith_builtin1 (id := "len") (PyProof.Rows.spliced_more (Attribute_any_ (I₁₁.self ok co (iself1 ..) fun s₁₂ W₁₂ le₁₂ I₁₂ sh₁₂ => ?_) rfl) rfl) rfl rfl
  obtain ⟨mL, hmL, _⟩ := I₁₂.rp.n.ns
  refine self_get (I₁₂.rp.z.kx ok) hmL ok.big I₁₂.hx I₁₂.hd (by kernel_rfl) (by kernel_rfl) mo rfl ?_
  refine PyProof.Rows.spliced_none ?_
  have hu₉' : VR W₁₂ (.tup [.num 1, .num 0]) (.ref tm) := hu₉.mono ((le₁₀.trans le₁₁).trans le₁₂)
  refine callB_sound (X := X.hold s₁₂.heap [x, dx] [dx]) (b := .len) (st := S1 tb v1 v2 q x) (s := { s₁₂ with toks := s₁₂.toks + 1 }) (I₁₂.okh ok) (show Rep _ W₁₂ _ _ from I₁₂.held) (.one hu₉') ?_
  show Post _ W₁₂ _ _ (.num 2, S1 tb v1 v2 q x)
  intro s₁₃ W₁₃ u₁₃ le₁₃ rp₁₃ sh₁₃ hu₁₃
  have I₁₃ := I₁₂.back ok rp₁₃
  simp only [VR] at hu₁₃
  obtain ⟨t2, rfl⟩ := hu₁₃
  refine ⟨W₁₃, _, _, I₁₃, (sh₁₁.trans sh₁₂).trans (.trans (.heap s₁₂ s₁₂.heap _) sh₁₃), iself1 .., fun s₁₄ W₁₄ es₁₄ j₁₄ le₁₄ g₁₄ l₁₄ I₁₄ sh₁₄ => ?_⟩
  refine wpAny_execs_nil ?_
  have L9 := le₁₀.trans (le₁₁.trans (le₁₂.trans (le₁₃.trans le₁₄)))
  have L7 := le₈.trans (le₉.trans L9)
  have L3 := le₄.trans (le₅.trans (le₆.trans (le₇.trans L7)))
  refine hQ s₁₄ W₁₄ _ es₁₄ j₁₄ lm tc tm t1 t2 (le₁.trans (le₂.trans (le₃.trans L3))) I₁₄ (sh₂.trans (sh₄.trans (sh₅.trans (sh₆.trans (sh₈.trans (sh₁₀.trans sh₁₄)))))) ?_ ?_ ?_ ?_ ?_ (fun m m1 m2 m3 m4 m5 => ?_) hp ⟨0, _, rfl, L3.e _ _ hlm, rfl⟩ (hu₇.mono L7) (hu₉.mono L9)
  · rw [g₁₄, if_neg (ne (by kernel_rfl)), g₁₀, if_neg (ne (by kernel_rfl)), g₈, if_neg (ne (by kernel_rfl)), f6]
  · rw [g₁₄, if_neg (ne (by kernel_rfl)), g₁₀, if_neg (ne (by kernel_rfl)), g₈, if_neg (ne (by kernel_rfl)), g₄, if_pos rfl]
  · rw [g₁₄, if_neg (ne (by kernel_rfl)), g₁₀, if_neg (ne (by kernel_rfl)), g₈, if_pos rfl]
  · rw [g₁₄, if_neg (ne (by kernel_rfl)), g₁₀, if_pos rfl]
  · rw [g₁₄, if_pos rfl]
  · rw [g₁₄, if_neg (ne m5), g₁₀, if_neg (ne m4), g₈, if_neg (ne m3), g₄, if_neg (ne m2), g₂, if_neg (ne m1)]; rfl
end
set_option tactic.hygienic false in
/-- an old object is taken out of the base, so that it may turn -/
theorem Rep.hideB {X : Fx} {W : Wd} {st : St} {h : Heap} {dx : Addr} (ok : FxOK X) (rp : Rep X W st h) (hro : X.ro = false) (big : @LE.le Nat _ 372 dx) (d0 : ∃ o, X.h0.get? dx = some o) (nW : ∀ o, ¬ X.R dx o ∧ ¬ W.H dx o ∧ ¬ W.HL dx o) :
    ∃ h0 : Heap, h0.get? dx = none ∧ (∀ b, b ≠ dx → h0.get? b = X.h0.get? b) ∧ FxOK { X with h0 := h0 } ∧ Rep { X with h0 := h0 } W st h ∧ Untr { X with h0 := h0 } W dx := by
  obtain ⟨h0, e1, e2⟩ := hide X.h0 dx
  obtain ⟨od, hd⟩ := d0
  have ne : ∀ {b : Addr}, @LT.lt Nat _ b 372 → b ≠ dx := fun hb e => absurd big (Nat.not_le.mpr (e ▸ hb))
  have none_ : ∀ {b}, X.h0.get? b = none → h0.get? b = none := fun {b} q => by
    by_cases w : b = dx
    · rw [w]; exact e1
    · exact (e2 b w).trans q
  have own : ∀ {b}, Own X W b → Own { X with h0 := h0 } W b := fun q => ⟨none_ q.1, q.2⟩
  have T := ok.top
  have nd : ∀ {b}, Own X W b → b ≠ dx := fun q e => by rw [e] at q; exact absurd (q.1.symm.trans hd) (by simp)
  refine ⟨h0, e1, e2, ⟨fun a o q => ?_, ⟨T.g.at' fun o e => ?_, T.b.at' fun o e => ?_, ?_, T.builtins, T.free⟩, ?_, ?_, ok.nR, ok.kind, ok.glob, ok.blt, ok.big⟩,
    ⟨⟨rp.z.tab, fun b o hb e => ?_, rp.z.prot, rp.z.sub, rp.z.subL, rp.z.kh, fun b o q => ?_, rp.z.npt, rp.z.nos⟩, ⟨own rp.n.own, rp.n.ns⟩, ⟨fun x c q => ?_, rp.c.inj, rp.c.val⟩, ⟨rp.l.len, fun i fz l q => ?_, rp.l.inj⟩⟩, ⟨⟨e1, nW⟩, (nd rp.n.own).symm, fun x q => ?_, fun i q => ?_⟩⟩
  · exact (e2 a (fun e => (nW o).2.1 (rp.z.kh dx o (e ▸ q)))).trans (ok.kx a o q)
  · exact (e2 _ (ne (by decide))).trans e
  · exact (e2 _ (ne (by decide))).trans e
  · obtain ⟨mc, a, b⟩ := T.nolimit
    exact ⟨mc, a.at' fun o e => (e2 _ (ne (by decide))).trans e, b⟩
  · obtain ⟨o, q⟩ := ok.pt; exact ⟨o, (e2 _ (ne (by decide))).trans q⟩
  · obtain ⟨o, q, z⟩ := ok.bm; exact ⟨o, (e2 _ (ne (by decide))).trans q, z⟩
  · have : b ≠ dx := fun q => by rw [q] at e; exact absurd (e1.symm.trans e) (by simp)
    exact rp.z.base b o hb ((e2 b this).symm.trans e)
  · rcases rp.z.solid b o q with z | z
    · exact .inl z
    · exact .inr (none_ z)
  · obtain ⟨a, b⟩ := rp.c.own x c q
    refine ⟨?_, b⟩
    unfold OwnC at a ⊢
    show (match X.ro with | false => _ | true => _)
    rw [hro] at a ⊢
    exact own a
  · obtain ⟨a, b, d⟩ := rp.l.at_ i fz l q
    exact ⟨a, b, d.at_, d.nL, d.nC, none_ d.new, fun z => own (d.own z)⟩
  · obtain ⟨a, _⟩ := rp.c.own x dx q
    unfold OwnC at a
    rw [hro] at a
    exact nd a rfl
  · have hlt : i < st.mls.length := rp.l.len ▸ (List.getElem?_eq_some_iff.mp q).1
    obtain ⟨c, hc, d⟩ := rp.l.at_ i (st.mls[i]).1 (st.mls[i]).2 (List.getElem?_eq_getElem hlt)
    rw [q] at hc
    cases hc
    exact absurd (d.new.symm.trans hd) (by simp)
noncomputable def cvOf : SV → Option (Bool × SV × SV)
  | .fl [a, b] => some (false, a, b)
  | .tup [a, b] => some (true, a, b)
  | _ => none
set_option tactic.hygienic false in
theorem none_neC {α : Type} {a : α} {P : Prop} (h : (none : Option α) = some a) : P := nomatch h
theorem cvOf_eq {c v1 v2 : SV} {tb : Bool} (h : cvOf c = some (tb, v1, v2)) : c = cvS tb v1 v2 := by
  cases c <;> (try exact none_neC h) <;> (rename_i l; rcases l with _ | ⟨a, _ | ⟨b, _ | ⟨_, _⟩⟩⟩ <;> (try exact none_neC h))
  all_goals (have h2 := Option.some.inj h; clear h; obtain ⟨rfl, h3⟩ := Prod.mk.inj h2; obtain ⟨rfl, rfl⟩ := Prod.mk.inj h3; rfl)
noncomputable def is10 (v : SV) : Bool := match v with
  | .tup l => match l with
    | [a, b] => match a with
      | .num i => match b with
        | .num j => decide (i = 1) && decide (j = 0)
        | _ => false
      | _ => false
    | _ => false
  | _ => false
theorem is10_eq {v : SV} (h : is10 v = true) : v = .tup [.num 1, .num 0] := by
  cases v <;> (try exact (Bool.noConfusion h))
  rename_i l
  rcases l with _ | ⟨a, _ | ⟨b, _ | ⟨_, _⟩⟩⟩ <;> (try exact (Bool.noConfusion h))
  cases a <;> (try exact (Bool.noConfusion h))
  cases b <;> (try exact (Bool.noConfusion h))
  obtain ⟨h1, h2⟩ := Bool.and_eq_true_iff.mp h
  rw [of_decide_eq_true h1, of_decide_eq_true h2]
noncomputable def mkV (c q : SV) : T Unit SV := match cvOf c with
  | some t => match asI t.2.1 with
    | some x => match asI t.2.2 with
      | some y => match modOf q with
        | some p => .ret (.el p (x.2.1.fmod p) (y.2.1.fmod p))
        | none => .stuck
      | none => .stuck
    | none => .stuck
  | none => .stuck
noncomputable def mkF (args : List SV) : T Unit SV := match args with
  | [c, d, q] => match is10 d with
    | true => mkV c q
    | false => .stuck
  | _ => .stuck
set_option tactic.hygienic false in
theorem fok_stuck (n : Nat) : FOK n (fun _ _ => .stuck) := fun _ _ _ _ _ _ _ _ _ _ _ _ _ _ _ h => h.elim
set_option tactic.hygienic false in
theorem tup2 {W : Wd} {x y : Int} {b c : Option Nat} {tc : Addr} (h : VR W (.tup [.int x b, .int y c]) (.ref tc)) : ∃ o s1 s2, W.H tc o ∧ TupO o #[.int x s1, .int y s2] := by
  simp only [VR, VRs] at h
  obtain ⟨a, o, items, e, h1, h2, v, r, e1, ⟨⟨s1, rfl⟩, _⟩, v2, r2, rfl, ⟨⟨s2, rfl⟩, _⟩, rfl⟩ := h
  cases e
  have : items = #[.int x s1, .int y s2] := by apply Array.toList_inj.mp; exact e1
  subst this
  exact ⟨o, s1, s2, h1, h2⟩
set_option tactic.hygienic false in
theorem tup2n {W : Wd} {x y : Int} {tc : Addr} (h : VR W (.tup [.num x, .num y]) (.ref tc)) : ∃ o s1 s2, W.H tc o ∧ TupO o #[.int x s1, .int y s2] := by
  simp only [VR, VRs] at h
  obtain ⟨a, o, items, e, h1, h2, v, r, e1, ⟨s1, rfl⟩, v2, r2, rfl, ⟨s2, rfl⟩, rfl⟩ := h
  cases e
  have : items = #[.int x s1, .int y s2] := by apply Array.toList_inj.mp; exact e1
  subst this
  exact ⟨o, s1, s2, h1, h2⟩
set_option tactic.hygienic false in
theorem init_code_at (P : Params) : (∃ o, (kmk.heap_1 P).lookup 104 = some o ∧ (match o.data with | .func fd => fd.code | _ => .none) = .ref (103 : Addr)) := ⟨objAt P 104, by kernel_rfl, by kernel_rfl⟩
set_option tactic.hygienic false in
/-- THE CALL OF THE CLASS -/
theorem mk_con (args : List SV) : Con 2 242 args (mkF args) := by
  intro w mg mb A s H HL vals Q E hA pre hv hh
  rcases args with _ | ⟨c, _ | ⟨d, _ | ⟨q, _ | ⟨_, _⟩⟩⟩⟩ <;> (try exact hh.elim)
  cases hd : is10 d with
  | false => dsimp only [mkF] at hh; rw [hd] at hh; exact hh.elim
  | true =>
  obtain rfl := is10_eq hd
  replace hh : (mkV c q).Holds _ _ := hh
  unfold mkV at hh
  cases ec : cvOf c with
  | none => rw [ec] at hh; exact hh.elim
  | some tt =>
  obtain ⟨tb, v1, v2⟩ := tt
  rw [ec] at hh
  dsimp only at hh
  obtain rfl := cvOf_eq ec
  cases e1 : asI v1 with
  | none => rw [e1] at hh; exact hh.elim
  | some t1 =>
  obtain ⟨k1, a1, b1⟩ := t1
  rw [e1] at hh
  rcases e2 : asI v2 with _ | t2
  · rw [e2] at hh; exact hh.elim
  obtain ⟨k2, a2, b2⟩ := t2
  rw [e2] at hh
  rcases ep : modOf q with _ | p
  · rw [ep] at hh; exact hh.elim
  rw [ep] at hh
  dsimp only at hh
  obtain ⟨hp, g, d, t, os⟩ := s
  refine wpAny_call (make_core (makes_of pre.kx (by kernel_rfl)) (looks_findIn (r := some (.ref 104)) pre.kx (by kernel_rfl)) (fun self => bind_fn pre.kx self (by kernel_rfl)) (.inl rfl) ?_)
  have hA1 : OKC 1 (A.under (.builtin "type.__call__" ⟨.ref 242 :: vals, []⟩)) := by
    refine ⟨hA.h, ?_, ?_⟩
    · have := hA.d
      show A.depth + (Code.builtin "type.__call__" ⟨.ref 242 :: vals, []⟩).weight + 1 ≤ 900
      have e : (Code.builtin "type.__call__" ⟨.ref 242 :: vals, []⟩).weight = 1 := by kernel_rfl
      omega
    · have := hA.u
      show A.units + (Code.builtin "type.__call__" ⟨.ref 242 :: vals, []⟩).cUnits + 10 * 1 + 0 ≤ 3000
      have e : (Code.builtin "type.__call__" ⟨.ref 242 :: vals, []⟩).cUnits = 1 := by kernel_rfl
      omega
  let dx : Addr := hp.objs.size
  let x : Addr := hp.objs.size + 1
  have z1 : (hp.push emptyDict).objs.size = hp.objs.size + 1 := Heap.size_push ..
  have k2 : ∀ b o, hp.get? b = some o → ((hp.push emptyDict).push (instObj 242 hp.objs.size)).get? b = some o := fun b o e => Heap.get?_push_of_some _ (Heap.get?_push_of_some _ e)
  have gx : ((hp.push emptyDict).push (instObj 242 hp.objs.size)).get? (hp.objs.size + 1) = some (instObj 242 hp.objs.size) := by
    have := Heap.get?_push_size (hp.push emptyDict) (o := instObj 242 hp.objs.size) rfl
    rw [z1] at this; exact this
  have gd : ((hp.push emptyDict).push (instObj 242 hp.objs.size)).get? hp.objs.size = some (dictOf [] 0) := Heap.get?_push_of_some _ (Heap.get?_push_size hp rfl)
  have fr : ∀ {b : Addr} {o}, hp.get? b = some o → @LT.lt Nat _ b hp.objs.size := fun e => Heap.lt_size e
  have pre' : CallPre w mg mb ⟨(hp.push emptyDict).push (instObj 242 hp.objs.size), g, d, t, os⟩ H HL := by
    refine ⟨pre.kx.keeps k2, pre.top.keeps k2, pre.tab.at fun o e => k2 _ o e, ?_, pre.kh, fun b o q => ⟨k2 _ _ (pre.sub b o q).1, (pre.sub b o q).2⟩, fun b o q => ⟨k2 _ _ (pre.subL b o q).1, (pre.subL b o q).2⟩⟩
    obtain ⟨o, e, q⟩ := pre.bm
    exact ⟨o, k2 _ o e, q⟩
  have nPT : ∀ {b : Addr}, @LE.le Nat _ hp.objs.size b → b ≠ PT := fun hb e => by
    obtain ⟨o, _, q, _⟩ := pre.tab
    exact absurd (fr q) (Nat.not_lt.mpr (e ▸ hb))
  have big : @LE.le Nat _ 372 hp.objs.size := by
    have : (kmk.heap_1 w.params).lookup 371 ≠ none := by
      intro q
      have z : ((kmk.heap_1 w.params).lookup 371).isSome = true := by kernel_rfl
      rw [q] at z; cases z
    rcases q : (kmk.heap_1 w.params).lookup 371 with _ | o
    · exact absurd q this
    · exact fr (pre.kx _ _ q)
  simp only [VRs] at hv
  refine enter (a := [(nm "coeffs", cvS tb v1 v2), (nm "modulus_coeffs", .tup [.num 1, .num 0]), (nm "field_modulus", q)]) (b := [(nm "self", .fn (hp.objs.size + 1))]) fok_init (fok_stuck 0) glo_init (args := [.fn (hp.objs.size + 1), cvS tb v1 v2, .tup [.num 1, .num 0], q]) (fun _ _ _ => False) (fun _ _ _ z => z.elim) hA1 pre' (.cons (by simp only [VR]) (by simpa only [VRs] using hv)) (by kernel_rfl) (by kernel_rfl) ?_
  intro X hp' tk ok co hc hA' hw hX0 hXH hXR hro hcode rep
  subst hw
  have hdH : ∀ o, ¬ H (hp.objs.size : Addr) o := fun o q => absurd (fr (pre.sub _ _ q).1) (Nat.lt_irrefl _)
  have hdL : ∀ o, ¬ HL (hp.objs.size : Addr) o := fun o q => absurd (fr (pre.subL _ _ q).1) (Nat.lt_irrefl _)
  obtain ⟨h0, d1, d2, ok2, rep2, ut⟩ := rep.hideB (dx := hp.objs.size) ok hro big ⟨_, by rw [hX0]; exact gd⟩ (fun o => ⟨hXR _ o, hdH o, hdL o⟩)
  have bx := rep.z.base (hp.objs.size + 1) _ (nPT (Nat.le_succ _)) (by rw [hX0]; exact gx)
  have bd := rep.z.base hp.objs.size _ (nPT (Nat.le_refl _)) (by rw [hX0]; exact gd)
  have xO : ∀ {c}, Own X ⟨H, HL, []⟩ c → (hp.objs.size + 1 : Addr) ≠ c := fun q e => by
    have := q.1
    rw [← e, hX0] at this
    exact absurd (this.symm.trans gx) (by simp)
  have fp : FpOK { X with h0 := h0 } ⟨H, HL, []⟩ (S0 tb v1 v2 q (hp.objs.size + 1)) hp' [hp.objs.size + 1, hp.objs.size] [hp.objs.size] := by
    have two : ∀ {P : Addr → Prop}, P (hp.objs.size + 1) → P hp.objs.size → ∀ b ∈ ([hp.objs.size + 1, hp.objs.size] : List Addr), P b := fun h1 h2 b hb => by
      rcases List.mem_cons.mp hb with rfl | hb
      · exact h1
      · rw [List.mem_singleton.mp hb]; exact h2
    refine ⟨fun b hb => List.mem_cons_of_mem _ hb, two ⟨_, bx⟩ ⟨_, bd⟩, two (nPT (Nat.le_succ _)) (nPT (Nat.le_refl _)), two (xO rep.n.own) ut.nL, two (fun y e => ?_) ut.nC, fun b hb i l e => by simp [S0] at e, fun b hb => by rw [List.mem_singleton.mp hb]; exact ut⟩
    have := (rep.c.own y _ e).1
    unfold OwnC at this
    rw [hro] at this
    exact xO this rfl
  have I : Ini { X with h0 := h0 } ⟨H, HL, []⟩ (S0 tb v1 v2 q (hp.objs.size + 1)) (hp.objs.size + 1) hp.objs.size hp' [] 0 :=
    ⟨rep2, fp, bx, bd, fun _ q => (nomatch q), by decide, Nat.succ_ne_self _⟩
  have hcd : X.env.code = .ref (103 : Addr) := by
    obtain ⟨o, fd, g1, g2, g3, _⟩ := hcode
    obtain ⟨o', g4, g5⟩ := init_code_at X.w.params
    rw [g4] at g1
    cases g1
    rw [g2] at g5
    exact g3.trans g5
  refine init_body (X := { X with h0 := h0 }) (s := { heap := hp', gens := g, drawn := d, toks := tk, os := os }) ok2 ⟨co.F, co.glo, co.names⟩ hc hA' hcd e1 e2 ep I ?_
  intro s' W' st' es k' lm tc tm t1 t2 le I' sh f1 f2 f3 f4 f5 f6 hpp hli hco hmo
  obtain ⟨il, ll, l1, l2, rfl⟩ := hli
  refine ⟨rfl, ?_⟩
  obtain ⟨lm', l3, dl⟩ := I'.rp.l.at_ il false _ l1
  have : lm' = lm := by rw [l2] at l3; exact (Option.some.inj l3).symm
  subst this
  obtain ⟨ol, itl, ol1, ol2, ol3, _⟩ := dl.at_
  have base : ∀ b o, b ≠ PT → hp.get? b = some o → s'.heap.get? b = some o := fun b o hb e => I'.rp.z.base b o hb ((d2 b (Nat.ne_of_lt (fr e))).trans (by rw [hX0]; exact k2 b o e))
  have new0 : ∀ {b}, h0.get? b = none → hp.get? b = none := fun {b} q => by
    rcases e : hp.get? b with _ | o
    · rfl
    · have := (d2 b (Nat.ne_of_lt (fr e))).trans (by rw [hX0]; exact k2 b o e : X.h0.get? b = some o); exact absurd (q.symm.trans this) (by simp)
  have fresh : ∀ {b : Addr}, @LE.le Nat _ hp.objs.size b → hp.get? b = none := fun hb => fresh_none hb
  refine hh s' (fun b o => W'.H b o ∨ (b = (hp.objs.size + 1 : Addr) ∧ o = instObj 242 hp.objs.size) ∨ (b = (hp.objs.size : Addr) ∧ o = dictOf es k') ∨ (b = lm' ∧ o = ol)) (fun _ _ => False) _
    ⟨I'.rp.z.tab, base, fun b o q => .inl (le.h b o q), fun b o q => ?_, fun _ _ q => q.elim, ⟨sh.d, sh.o, sh.g⟩⟩ ?_
  · rcases q with q | ⟨rfl, rfl⟩ | ⟨rfl, rfl⟩ | ⟨rfl, rfl⟩
    · refine ⟨I'.rp.z.sub b o q, ?_⟩
      rcases I'.rp.z.solid b o q with z | z
      · exact .inl (hXH ▸ z)
      · exact .inr (new0 z)
    · exact ⟨I'.hx, .inr (fresh (Nat.le_succ _))⟩
    · exact ⟨I'.hd, .inr (fresh (Nat.le_refl _))⟩
    · exact ⟨ol1, .inr (new0 dl.new)⟩
  · simp only [VR]
    refine ⟨_, rfl, ⟨hpp.1, hpp.2, Int.fmod_nonneg_of_pos _ hpp.1, Int.fmod_lt_of_pos _ hpp.1, Int.fmod_nonneg_of_pos _ hpp.1, Int.fmod_lt_of_pos _ hpp.1⟩, ?_⟩
    obtain ⟨oc, c1, c2, c3, c4⟩ := tup2 hco
    obtain ⟨om, m1, m2, m3, m4⟩ := tup2n hmo
    simp only [VRs] at ol3
    obtain ⟨vt, rt, rt1, rt2, rt3⟩ := ol3
    subst rt3
    obtain ⟨ta, rfl⟩ : ∃ ta, vt = .ref ta := by simp only [VR] at rt2; obtain ⟨a, _, _, e, _⟩ := rt2; exact ⟨a, e⟩
    obtain ⟨ot, n1, n2, n3, n4⟩ := tup2n rt2
    have eit : itl = #[.ref ta] := by apply Array.toList_inj.mp; exact rt1
    subst eit
    refine ⟨instObj 242 hp.objs.size, hp.objs.size, es, k', lm', tc, tm, ta, .inr (.inl ⟨rfl, rfl⟩), rfl, rfl, rfl, .inr (.inr (.inl ⟨rfl, rfl⟩)), ⟨⟨t1, f1⟩, f2, f3, f4, ⟨t2, f5⟩, fun m hm => ?_⟩, ⟨ol, .inr (.inr (.inr ⟨rfl, rfl⟩)), ol2⟩, ⟨ot, n1, n2, .inl n3, n4⟩, ⟨oc, c1, c2, .inl c3, c4⟩, ⟨om, m1, m2, .inl m3, m4⟩⟩
    simp only [nmMeths, List.mem_cons, List.not_mem_nil, or_false] at hm
    rcases hm with rfl | rfl | rfl | rfl | rfl <;> exact f6 _ (by kernel_rfl) (by kernel_rfl) (by kernel_rfl) (by kernel_rfl) (by kernel_rfl)
noncomputable def s_made : Option Stmt := (inCls (top 19) 0)
set_option tactic.hygienic false in
theorem fok_made : FnOK 231 (fnP s_made) (fnB s_made) (fnN s_made) := fun P => by
  refine ⟨objAt P 231, fdAt (objAt P 231), by kernel_rfl, by kernel_rfl, by kernel_rfl, by kernel_rfl, by kernel_rfl, by kernel_rfl, by kernel_rfl, by kernel_rfl, by kernel_rfl, by kernel_rfl, by kernel_rfl, fun vals S h => ?_⟩
  have : (fnP s_made).length = 2 := by kernel_rfl
  rw [this] at h
  obtain ⟨v0, r0, rfl, h0⟩ := len_s h
  obtain ⟨v1, r1, rfl, h1⟩ := len_s h0
  obtain rfl := List.eq_nil_of_length_eq_zero h1
  kernel_rfl
noncomputable def s_add : Option Stmt := (mths 2)
set_option tactic.hygienic false in
theorem fok_add : FnOK 116 (fnP s_add) (fnB s_add) (fnN s_add) := fun P => by
  refine ⟨objAt P 116, fdAt (objAt P 116), by kernel_rfl, by kernel_rfl, by kernel_rfl, by kernel_rfl, by kernel_rfl, by kernel_rfl, by kernel_rfl, by kernel_rfl, by kernel_rfl, by kernel_rfl, by kernel_rfl, fun vals S h => ?_⟩
  have : (fnP s_add).length = 2 := by kernel_rfl
  rw [this] at h
  obtain ⟨v0, r0, rfl, h0⟩ := len_s h
  obtain ⟨v1, r1, rfl, h1⟩ := len_s h0
  obtain rfl := List.eq_nil_of_length_eq_zero h1
  kernel_rfl
noncomputable def s_sub : Option Stmt := (mths 3)
set_option tactic.hygienic false in
theorem fok_sub : FnOK 121 (fnP s_sub) (fnB s_sub) (fnN s_sub) := fun P => by
  refine ⟨objAt P 121, fdAt (objAt P 121), by kernel_rfl, by kernel_rfl, by kernel_rfl, by kernel_rfl, by kernel_rfl, by kernel_rfl, by kernel_rfl, by kernel_rfl, by kernel_rfl, by kernel_rfl, by kernel_rfl, fun vals S h => ?_⟩
  have : (fnP s_sub).length = 2 := by kernel_rfl
  rw [this] at h
  obtain ⟨v0, r0, rfl, h0⟩ := len_s h
  obtain ⟨v1, r1, rfl, h1⟩ := len_s h0
  obtain rfl := List.eq_nil_of_length_eq_zero h1
  kernel_rfl
noncomputable def s_mulm : Option Stmt := (mths 5)
set_option tactic.hygienic false in
theorem fok_mulm : FnOK 133 (fnP s_mulm) (fnB s_mulm) (fnN s_mulm) := fun P => by
  refine ⟨objAt P 133, fdAt (objAt P 133), by kernel_rfl, by kernel_rfl, by kernel_rfl, by kernel_rfl, by kernel_rfl, by kernel_rfl, by kernel_rfl, by kernel_rfl, by kernel_rfl, by kernel_rfl, by kernel_rfl, fun vals S h => ?_⟩
  have : (fnP s_mulm).length = 2 := by kernel_rfl
  rw [this] at h
  obtain ⟨v0, r0, rfl, h0⟩ := len_s h
  obtain ⟨v1, r1, rfl, h1⟩ := len_s h0
  obtain rfl := List.eq_nil_of_length_eq_zero h1
  kernel_rfl
noncomputable def s_div : Option Stmt := (mths 7)
set_option tactic.hygienic false in
theorem fok_div : FnOK 145 (fnP s_div) (fnB s_div) (fnN s_div) := fun P => by
  refine ⟨objAt P 145, fdAt (objAt P 145), by kernel_rfl, by kernel_rfl, by kernel_rfl, by kernel_rfl, by kernel_rfl, by kernel_rfl, by kernel_rfl, by kernel_rfl, by kernel_rfl, by kernel_rfl, by kernel_rfl, fun vals S h => ?_⟩
  have : (fnP s_div).length = 2 := by kernel_rfl
  rw [this] at h
  obtain ⟨v0, r0, rfl, h0⟩ := len_s h
  obtain ⟨v1, r1, rfl, h1⟩ := len_s h0
  obtain rfl := List.eq_nil_of_length_eq_zero h1
  kernel_rfl
noncomputable def s_powm : Option Stmt := (mths 8)
set_option tactic.hygienic false in
theorem fok_powm : FnOK 152 (fnP s_powm) (fnB s_powm) (fnN s_powm) := fun P => by
  refine ⟨objAt P 152, fdAt (objAt P 152), by kernel_rfl, by kernel_rfl, by kernel_rfl, by kernel_rfl, by kernel_rfl, by kernel_rfl, by kernel_rfl, by kernel_rfl, by kernel_rfl, by kernel_rfl, by kernel_rfl, fun vals S h => ?_⟩
  have : (fnP s_powm).length = 2 := by kernel_rfl
  rw [this] at h
  obtain ⟨v0, r0, rfl, h0⟩ := len_s h
  obtain ⟨v1, r1, rfl, h1⟩ := len_s h0
  obtain rfl := List.eq_nil_of_length_eq_zero h1
  kernel_rfl
noncomputable def s_pdiv : Option Stmt := (mths 9)
set_option tactic.hygienic false in
theorem fok_pdiv : FnOK 157 (fnP s_pdiv) (fnB s_pdiv) (fnN s_pdiv) := fun P => by
  refine ⟨objAt P 157, fdAt (objAt P 157), by kernel_rfl, by kernel_rfl, by kernel_rfl, by kernel_rfl, by kernel_rfl, by kernel_rfl, by kernel_rfl, by kernel_rfl, by kernel_rfl, by kernel_rfl, by kernel_rfl, fun vals S h => ?_⟩
  have : (fnP s_pdiv).length = 3 := by kernel_rfl
  rw [this] at h
  obtain ⟨v0, r0, rfl, h0⟩ := len_s h
  obtain ⟨v1, r1, rfl, h1⟩ := len_s h0
  obtain ⟨v2, r2, rfl, h2⟩ := len_s h1
  obtain rfl := List.eq_nil_of_length_eq_zero h2
  kernel_rfl
noncomputable def s_inv : Option Stmt := (mths 10)
set_option tactic.hygienic false in
theorem fok_inv : FnOK 162 (fnP s_inv) (fnB s_inv) (fnN s_inv) := fun P => by
  refine ⟨objAt P 162, fdAt (objAt P 162), by kernel_rfl, by kernel_rfl, by kernel_rfl, by kernel_rfl, by kernel_rfl, by kernel_rfl, by kernel_rfl, by kernel_rfl, by kernel_rfl, by kernel_rfl, by kernel_rfl, fun vals S h => ?_⟩
  have : (fnP s_inv).length = 1 := by kernel_rfl
  rw [this] at h
  obtain ⟨v0, r0, rfl, h0⟩ := len_s h
  obtain rfl := List.eq_nil_of_length_eq_zero h0
  kernel_rfl
noncomputable def s_eq : Option Stmt := (mths 12)
set_option tactic.hygienic false in
theorem fok_eq : FnOK 176 (fnP s_eq) (fnB s_eq) (fnN s_eq) := fun P => by
  refine ⟨objAt P 176, fdAt (objAt P 176), by kernel_rfl, by kernel_rfl, by kernel_rfl, by kernel_rfl, by kernel_rfl, by kernel_rfl, by kernel_rfl, by kernel_rfl, by kernel_rfl, by kernel_rfl, by kernel_rfl, fun vals S h => ?_⟩
  have : (fnP s_eq).length = 2 := by kernel_rfl
  rw [this] at h
  obtain ⟨v0, r0, rfl, h0⟩ := len_s h
  obtain ⟨v1, r1, rfl, h1⟩ := len_s h0
  obtain rfl := List.eq_nil_of_length_eq_zero h1
  kernel_rfl
noncomputable def s_neg : Option Stmt := (mths 14)
set_option tactic.hygienic false in
theorem fok_neg : FnOK 188 (fnP s_neg) (fnB s_neg) (fnN s_neg) := fun P => by
  refine ⟨objAt P 188, fdAt (objAt P 188), by kernel_rfl, by kernel_rfl, by kernel_rfl, by kernel_rfl, by kernel_rfl, by kernel_rfl, by kernel_rfl, by kernel_rfl, by kernel_rfl, by kernel_rfl, by kernel_rfl, fun vals S h => ?_⟩
  have : (fnP s_neg).length = 1 := by kernel_rfl
  rw [this] at h
  obtain ⟨v0, r0, rfl, h0⟩ := len_s h
  obtain rfl := List.eq_nil_of_length_eq_zero h0
  kernel_rfl
noncomputable def s_one : Option Stmt := (mths 16)
set_option tactic.hygienic false in
theorem fok_one : FnOK 203 (fnP s_one) (fnB s_one) (fnN s_one) := fun P => by
  refine ⟨objAt P 203, fdAt (objAt P 203), by kernel_rfl, by kernel_rfl, by kernel_rfl, by kernel_rfl, by kernel_rfl, by kernel_rfl, by kernel_rfl, by kernel_rfl, by kernel_rfl, by kernel_rfl, by kernel_rfl, fun vals S h => ?_⟩
  have : (fnP s_one).length = 1 := by kernel_rfl
  rw [this] at h
  obtain ⟨v0, r0, rfl, h0⟩ := len_s h
  obtain rfl := List.eq_nil_of_length_eq_zero h0
  kernel_rfl
noncomputable def s_zero : Option Stmt := (mths 17)
set_option tactic.hygienic false in
theorem fok_zero : FnOK 210 (fnP s_zero) (fnB s_zero) (fnN s_zero) := fun P => by
  refine ⟨objAt P 210, fdAt (objAt P 210), by kernel_rfl, by kernel_rfl, by kernel_rfl, by kernel_rfl, by kernel_rfl, by kernel_rfl, by kernel_rfl, by kernel_rfl, by kernel_rfl, by kernel_rfl, by kernel_rfl, fun vals S h => ?_⟩
  have : (fnP s_zero).length = 1 := by kernel_rfl
  rw [this] at h
  obtain ⟨v0, r0, rfl, h0⟩ := len_s h
  obtain rfl := List.eq_nil_of_length_eq_zero h0
  kernel_rfl
noncomputable def s_deg : Option Stmt := (top 16)
set_option tactic.hygienic false in
theorem fok_deg : FnOK 92 (fnP s_deg) (fnB s_deg) (fnN s_deg) := fun P => by
  refine ⟨objAt P 92, fdAt (objAt P 92), by kernel_rfl, by kernel_rfl, by kernel_rfl, by kernel_rfl, by kernel_rfl, by kernel_rfl, by kernel_rfl, by kernel_rfl, by kernel_rfl, by kernel_rfl, by kernel_rfl, fun vals S h => ?_⟩
  have : (fnP s_deg).length = 1 := by kernel_rfl
  rw [this] at h
  obtain ⟨v0, r0, rfl, h0⟩ := len_s h
  obtain rfl := List.eq_nil_of_length_eq_zero h0
  kernel_rfl
noncomputable def s_pfi : Option Stmt := (top 15)
set_option tactic.hygienic false in
theorem fok_pfi : FnOK 85 (fnP s_pfi) (fnB s_pfi) (fnN s_pfi) := fun P => by
  refine ⟨objAt P 85, fdAt (objAt P 85), by kernel_rfl, by kernel_rfl, by kernel_rfl, by kernel_rfl, by kernel_rfl, by kernel_rfl, by kernel_rfl, by kernel_rfl, by kernel_rfl, by kernel_rfl, by kernel_rfl, fun vals S h => ?_⟩
  have : (fnP s_pfi).length = 2 := by kernel_rfl
  rw [this] at h
  obtain ⟨v0, r0, rfl, h0⟩ := len_s h
  obtain ⟨v1, r1, rfl, h1⟩ := len_s h0
  obtain rfl := List.eq_nil_of_length_eq_zero h1
  kernel_rfl
noncomputable def s_isinf : Option Stmt := (top 2)
set_option tactic.hygienic false in
theorem fok_isinf : FnOK 28 (fnP s_isinf) (fnB s_isinf) (fnN s_isinf) := fun P => by
  refine ⟨objAt P 28, fdAt (objAt P 28), by kernel_rfl, by kernel_rfl, by kernel_rfl, by kernel_rfl, by kernel_rfl, by kernel_rfl, by kernel_rfl, by kernel_rfl, by kernel_rfl, by kernel_rfl, by kernel_rfl, fun vals S h => ?_⟩
  have : (fnP s_isinf).length = 1 := by kernel_rfl
  rw [this] at h
  obtain ⟨v0, r0, rfl, h0⟩ := len_s h
  obtain rfl := List.eq_nil_of_length_eq_zero h0
  kernel_rfl
noncomputable def s_oncurve : Option Stmt := (top 3)
set_option tactic.hygienic false in
theorem fok_oncurve : FnOK 35 (fnP s_oncurve) (fnB s_oncurve) (fnN s_oncurve) := fun P => by
  refine ⟨objAt P 35, fdAt (objAt P 35), by kernel_rfl, by kernel_rfl, by kernel_rfl, by kernel_rfl, by kernel_rfl, by kernel_rfl, by kernel_rfl, by kernel_rfl, by kernel_rfl, by kernel_rfl, by kernel_rfl, fun vals S h => ?_⟩
  have : (fnP s_oncurve).length = 2 := by kernel_rfl
  rw [this] at h
  obtain ⟨v0, r0, rfl, h0⟩ := len_s h
  obtain ⟨v1, r1, rfl, h1⟩ := len_s h0
  obtain rfl := List.eq_nil_of_length_eq_zero h1
  kernel_rfl
noncomputable def s_normal : Option Stmt := (top 4)
set_option tactic.hygienic false in
theorem fok_normal : FnOK 42 (fnP s_normal) (fnB s_normal) (fnN s_normal) := fun P => by
  refine ⟨objAt P 42, fdAt (objAt P 42), by kernel_rfl, by kernel_rfl, by kernel_rfl, by kernel_rfl, by kernel_rfl, by kernel_rfl, by kernel_rfl, by kernel_rfl, by kernel_rfl, by kernel_rfl, by kernel_rfl, fun vals S h => ?_⟩
  have : (fnP s_normal).length = 1 := by kernel_rfl
  rw [this] at h
  obtain ⟨v0, r0, rfl, h0⟩ := len_s h
  obtain rfl := List.eq_nil_of_length_eq_zero h0
  kernel_rfl
noncomputable def s_flags : Option Stmt := (top 9)
set_option tactic.hygienic false in
theorem fok_flags : FnOK 49 (fnP s_flags) (fnB s_flags) (fnN s_flags) := fun P => by
  refine ⟨objAt P 49, fdAt (objAt P 49), by kernel_rfl, by kernel_rfl, by kernel_rfl, by kernel_rfl, by kernel_rfl, by kernel_rfl, by kernel_rfl, by kernel_rfl, by kernel_rfl, by kernel_rfl, by kernel_rfl, fun vals S h => ?_⟩
  have : (fnP s_flags).length = 1 := by kernel_rfl
  rw [this] at h
  obtain ⟨v0, r0, rfl, h0⟩ := len_s h
  obtain rfl := List.eq_nil_of_length_eq_zero h0
  kernel_rfl
noncomputable def s_ptinf : Option Stmt := (top 10)
set_option tactic.hygienic false in
theorem fok_ptinf : FnOK 57 (fnP s_ptinf) (fnB s_ptinf) (fnN s_ptinf) := fun P => by
  refine ⟨objAt P 57, fdAt (objAt P 57), by kernel_rfl, by kernel_rfl, by kernel_rfl, by kernel_rfl, by kernel_rfl, by kernel_rfl, by kernel_rfl, by kernel_rfl, by kernel_rfl, by kernel_rfl, by kernel_rfl, fun vals S h => ?_⟩
  have : (fnP s_ptinf).length = 2 := by kernel_rfl
  rw [this] at h
  obtain ⟨v0, r0, rfl, h0⟩ := len_s h
  obtain ⟨v1, r1, rfl, h1⟩ := len_s h0
  obtain rfl := List.eq_nil_of_length_eq_zero h1
  kernel_rfl
noncomputable def s_sqrt : Option Stmt := (top 11)
set_option tactic.hygienic false in
theorem fok_sqrt : FnOK 64 (fnP s_sqrt) (fnB s_sqrt) (fnN s_sqrt) := fun P => by
  refine ⟨objAt P 64, fdAt (objAt P 64), by kernel_rfl, by kernel_rfl, by kernel_rfl, by kernel_rfl, by kernel_rfl, by kernel_rfl, by kernel_rfl, by kernel_rfl, by kernel_rfl, by kernel_rfl, by kernel_rfl, fun vals S h => ?_⟩
  have : (fnP s_sqrt).length = 2 := by kernel_rfl
  rw [this] at h
  obtain ⟨v0, r0, rfl, h0⟩ := len_s h
  obtain ⟨v1, r1, rfl, h1⟩ := len_s h0
  obtain rfl := List.eq_nil_of_length_eq_zero h1
  kernel_rfl
noncomputable def s_compress : Option Stmt := (top 12)
set_option tactic.hygienic false in
theorem fok_compress : FnOK 71 (fnP s_compress) (fnB s_compress) (fnN s_compress) := fun P => by
  refine ⟨objAt P 71, fdAt (objAt P 71), by kernel_rfl, by kernel_rfl, by kernel_rfl, by kernel_rfl, by kernel_rfl, by kernel_rfl, by kernel_rfl, by kernel_rfl, by kernel_rfl, by kernel_rfl, by kernel_rfl, fun vals S h => ?_⟩
  have : (fnP s_compress).length = 2 := by kernel_rfl
  rw [this] at h
  obtain ⟨v0, r0, rfl, h0⟩ := len_s h
  obtain ⟨v1, r1, rfl, h1⟩ := len_s h0
  obtain rfl := List.eq_nil_of_length_eq_zero h1
  kernel_rfl
noncomputable def s_decompress : Option Stmt := (top 13)
set_option tactic.hygienic false in
theorem fok_decompress : FnOK 78 (fnP s_decompress) (fnB s_decompress) (fnN s_decompress) := fun P => by
  refine ⟨objAt P 78, fdAt (objAt P 78), by kernel_rfl, by kernel_rfl, by kernel_rfl, by kernel_rfl, by kernel_rfl, by kernel_rfl, by kernel_rfl, by kernel_rfl, by kernel_rfl, by kernel_rfl, by kernel_rfl, fun vals S h => ?_⟩
  have : (fnP s_decompress).length = 3 := by kernel_rfl
  rw [this] at h
  obtain ⟨v0, r0, rfl, h0⟩ := len_s h
  obtain ⟨v1, r1, rfl, h1⟩ := len_s h0
  obtain ⟨v2, r2, rfl, h2⟩ := len_s h1
  obtain rfl := List.eq_nil_of_length_eq_zero h2
  kernel_rfl
noncomputable def s_marks : Option Stmt := (top 21)
set_option tactic.hygienic false in
theorem fok_marks : FnOK 251 (fnP s_marks) (fnB s_marks) (fnN s_marks) := fun P => by
  refine ⟨objAt P 251, fdAt (objAt P 251), by kernel_rfl, by kernel_rfl, by kernel_rfl, by kernel_rfl, by kernel_rfl, by kernel_rfl, by kernel_rfl, by kernel_rfl, by kernel_rfl, by kernel_rfl, by kernel_rfl, fun vals S h => ?_⟩
  have : (fnP s_marks).length = 0 := by kernel_rfl
  rw [this] at h
  obtain rfl := List.eq_nil_of_length_eq_zero h
  kernel_rfl
noncomputable def s_at : Option Stmt := (top 24)
set_option tactic.hygienic false in
theorem fok_at : FnOK 298 (fnP s_at) (fnB s_at) (fnN s_at) := fun P => by
  refine ⟨objAt P 298, fdAt (objAt P 298), by kernel_rfl, by kernel_rfl, by kernel_rfl, by kernel_rfl, by kernel_rfl, by kernel_rfl, by kernel_rfl, by kernel_rfl, by kernel_rfl, by kernel_rfl, by kernel_rfl, fun vals S h => ?_⟩
  have : (fnP s_at).length = 2 := by kernel_rfl
  rw [this] at h
  obtain ⟨v0, r0, rfl, h0⟩ := len_s h
  obtain ⟨v1, r1, rfl, h1⟩ := len_s h0
  obtain rfl := List.eq_nil_of_length_eq_zero h1
  kernel_rfl
noncomputable def s_plus : Option Stmt := (top 26)
set_option tactic.hygienic false in
theorem fok_plus : FnOK 312 (fnP s_plus) (fnB s_plus) (fnN s_plus) := fun P => by
  refine ⟨objAt P 312, fdAt (objAt P 312), by kernel_rfl, by kernel_rfl, by kernel_rfl, by kernel_rfl, by kernel_rfl, by kernel_rfl, by kernel_rfl, by kernel_rfl, by kernel_rfl, by kernel_rfl, by kernel_rfl, fun vals S h => ?_⟩
  have : (fnP s_plus).length = 4 := by kernel_rfl
  rw [this] at h
  obtain ⟨v0, r0, rfl, h0⟩ := len_s h
  obtain ⟨v1, r1, rfl, h1⟩ := len_s h0
  obtain ⟨v2, r2, rfl, h2⟩ := len_s h1
  obtain ⟨v3, r3, rfl, h3⟩ := len_s h2
  obtain rfl := List.eq_nil_of_length_eq_zero h3
  kernel_rfl
noncomputable def s_root : Option Stmt := (top 27)
set_option tactic.hygienic false in
theorem fok_root : FnOK 319 (fnP s_root) (fnB s_root) (fnN s_root) := fun P => by
  refine ⟨objAt P 319, fdAt (objAt P 319), by kernel_rfl, by kernel_rfl, by kernel_rfl, by kernel_rfl, by kernel_rfl, by kernel_rfl, by kernel_rfl, by kernel_rfl, by kernel_rfl, by kernel_rfl, by kernel_rfl, fun vals S h => ?_⟩
  have : (fnP s_root).length = 2 := by kernel_rfl
  rw [this] at h
  obtain ⟨v0, r0, rfl, h0⟩ := len_s h
  obtain ⟨v1, r1, rfl, h1⟩ := len_s h0
  obtain rfl := List.eq_nil_of_length_eq_zero h1
  kernel_rfl
noncomputable def s_lmade : Option Stmt := (top 28)
set_option tactic.hygienic false in
theorem fok_lmade : FnOK 326 (fnP s_lmade) (fnB s_lmade) (fnN s_lmade) := fun P => by
  refine ⟨objAt P 326, fdAt (objAt P 326), by kernel_rfl, by kernel_rfl, by kernel_rfl, by kernel_rfl, by kernel_rfl, by kernel_rfl, by kernel_rfl, by kernel_rfl, by kernel_rfl, by kernel_rfl, by kernel_rfl, fun vals S h => ?_⟩
  have : (fnP s_lmade).length = 2 := by kernel_rfl
  rw [this] at h
  obtain ⟨v0, r0, rfl, h0⟩ := len_s h
  obtain ⟨v1, r1, rfl, h1⟩ := len_s h0
  obtain rfl := List.eq_nil_of_length_eq_zero h1
  kernel_rfl
noncomputable def s_opp : Option Stmt := (top 29)
set_option tactic.hygienic false in
theorem fok_opp : FnOK 333 (fnP s_opp) (fnB s_opp) (fnN s_opp) := fun P => by
  refine ⟨objAt P 333, fdAt (objAt P 333), by kernel_rfl, by kernel_rfl, by kernel_rfl, by kernel_rfl, by kernel_rfl, by kernel_rfl, by kernel_rfl, by kernel_rfl, by kernel_rfl, by kernel_rfl, by kernel_rfl, fun vals S h => ?_⟩
  have : (fnP s_opp).length = 2 := by kernel_rfl
  rw [this] at h
  obtain ⟨v0, r0, rfl, h0⟩ := len_s h
  obtain ⟨v1, r1, rfl, h1⟩ := len_s h0
  obtain rfl := List.eq_nil_of_length_eq_zero h1
  kernel_rfl
noncomputable def s_mark : Option Stmt := (top 30)
set_option tactic.hygienic false in
theorem fok_mark : FnOK 340 (fnP s_mark) (fnB s_mark) (fnN s_mark) := fun P => by
  refine ⟨objAt P 340, fdAt (objAt P 340), by kernel_rfl, by kernel_rfl, by kernel_rfl, by kernel_rfl, by kernel_rfl, by kernel_rfl, by kernel_rfl, by kernel_rfl, by kernel_rfl, by kernel_rfl, by kernel_rfl, fun vals S h => ?_⟩
  have : (fnP s_mark).length = 2 := by kernel_rfl
  rw [this] at h
  obtain ⟨v0, r0, rfl, h0⟩ := len_s h
  obtain ⟨v1, r1, rfl, h1⟩ := len_s h0
  obtain rfl := List.eq_nil_of_length_eq_zero h1
  kernel_rfl
noncomputable def s_told : Option Stmt := (top 31)
set_option tactic.hygienic false in
theorem fok_told : FnOK 347 (fnP s_told) (fnB s_told) (fnN s_told) := fun P => by
  refine ⟨objAt P 347, fdAt (objAt P 347), by kernel_rfl, by kernel_rfl, by kernel_rfl, by kernel_rfl, by kernel_rfl, by kernel_rfl, by kernel_rfl, by kernel_rfl, by kernel_rfl, by kernel_rfl, by kernel_rfl, fun vals S h => ?_⟩
  have : (fnP s_told).length = 4 := by kernel_rfl
  rw [this] at h
  obtain ⟨v0, r0, rfl, h0⟩ := len_s h
  obtain ⟨v1, r1, rfl, h1⟩ := len_s h0
  obtain ⟨v2, r2, rfl, h2⟩ := len_s h1
  obtain ⟨v3, r3, rfl, h3⟩ := len_s h2
  obtain rfl := List.eq_nil_of_length_eq_zero h3
  kernel_rfl
noncomputable def s_due : Option Stmt := (top 32)
set_option tactic.hygienic false in
theorem fok_due : FnOK 354 (fnP s_due) (fnB s_due) (fnN s_due) := fun P => by
  refine ⟨objAt P 354, fdAt (objAt P 354), by kernel_rfl, by kernel_rfl, by kernel_rfl, by kernel_rfl, by kernel_rfl, by kernel_rfl, by kernel_rfl, by kernel_rfl, by kernel_rfl, by kernel_rfl, by kernel_rfl, fun vals S h => ?_⟩
  have : (fnP s_due).length = 4 := by kernel_rfl
  rw [this] at h
  obtain ⟨v0, r0, rfl, h0⟩ := len_s h
  obtain ⟨v1, r1, rfl, h1⟩ := len_s h0
  obtain ⟨v2, r2, rfl, h2⟩ := len_s h1
  obtain ⟨v3, r3, rfl, h3⟩ := len_s h2
  obtain rfl := List.eq_nil_of_length_eq_zero h3
  kernel_rfl
noncomputable def s_numbers : Option Stmt := (top 33)
set_option tactic.hygienic false in
theorem fok_numbers : FnOK 361 (fnP s_numbers) (fnB s_numbers) (fnN s_numbers) := fun P => by
  refine ⟨objAt P 361, fdAt (objAt P 361), by kernel_rfl, by kernel_rfl, by kernel_rfl, by kernel_rfl, by kernel_rfl, by kernel_rfl, by kernel_rfl, by kernel_rfl, by kernel_rfl, by kernel_rfl, by kernel_rfl, fun vals S h => ?_⟩
  have : (fnP s_numbers).length = 2 := by kernel_rfl
  rw [this] at h
  obtain ⟨v0, r0, rfl, h0⟩ := len_s h
  obtain ⟨v1, r1, rfl, h1⟩ := len_s h0
  obtain rfl := List.eq_nil_of_length_eq_zero h1
  kernel_rfl
noncomputable def s_written : Option Stmt := (top 34)
set_option tactic.hygienic false in
theorem fok_written : FnOK 366 (fnP s_written) (fnB s_written) (fnN s_written) := fun P => by
  refine ⟨objAt P 366, fdAt (objAt P 366), by kernel_rfl, by kernel_rfl, by kernel_rfl, by kernel_rfl, by kernel_rfl, by kernel_rfl, by kernel_rfl, by kernel_rfl, by kernel_rfl, by kernel_rfl, by kernel_rfl, fun vals S h => ?_⟩
  have : (fnP s_written).length = 6 := by kernel_rfl
  rw [this] at h
  obtain ⟨v0, r0, rfl, h0⟩ := len_s h
  obtain ⟨v1, r1, rfl, h1⟩ := len_s h0
  obtain ⟨v2, r2, rfl, h2⟩ := len_s h1
  obtain ⟨v3, r3, rfl, h3⟩ := len_s h2
  obtain ⟨v4, r4, rfl, h4⟩ := len_s h3
  obtain ⟨v5, r5, rfl, h5⟩ := len_s h4
  obtain rfl := List.eq_nil_of_length_eq_zero h5
  kernel_rfl
noncomputable def s_law : Option Stmt := (top 35)
set_option tactic.hygienic false in
theorem fok_law : FnOK 371 (fnP s_law) (fnB s_law) (fnN s_law) := fun P => by
  refine ⟨objAt P 371, fdAt (objAt P 371), by kernel_rfl, by kernel_rfl, by kernel_rfl, by kernel_rfl, by kernel_rfl, by kernel_rfl, by kernel_rfl, by kernel_rfl, by kernel_rfl, by kernel_rfl, by kernel_rfl, fun vals S h => ?_⟩
  have : (fnP s_law).length = 1 := by kernel_rfl
  rw [this] at h
  obtain ⟨v0, r0, rfl, h0⟩ := len_s h
  obtain rfl := List.eq_nil_of_length_eq_zero h0
  kernel_rfl
/-- a value that tells at least as much as another -/
noncomputable def SVle (a a' : SV) : Prop := ∀ W v, VR W a v → VR W a' v
noncomputable def Kok (K : SV → Prop) : Prop := ∀ a a', SVle a a' → K a' → K a
structure TLe (t' t : T Unit SV) : Prop where
  h : ∀ K, Kok K → t'.Holds K (fun _ => False) → t.Holds K (fun _ => False)
set_option tactic.hygienic false in
theorem SVle.refl (a : SV) : SVle a a := fun _ _ h => h
set_option tactic.hygienic false in
theorem TLe.refl (t : T Unit SV) : TLe t t := ⟨fun _ _ h => h⟩
set_option tactic.hygienic false in
theorem TLe.stuck (t : T Unit SV) : TLe .stuck t := ⟨fun _ _ h => h.elim⟩
set_option tactic.hygienic false in
theorem TLe.of_eq {t t' : T Unit SV} (h : t = t') : TLe t' t := h ▸ .refl _
set_option tactic.hygienic false in
theorem TLe.ret {a a' : SV} (h : SVle a a') : TLe (.ret a') (.ret a) := ⟨fun _ k hk => k a a' h hk⟩
set_option tactic.hygienic false in
theorem TLe.trans {a b c : T Unit SV} (x : TLe a b) (y : TLe b c) : TLe a c := ⟨fun K k h => y.h K k (x.h K k h)⟩
set_option tactic.hygienic false in
theorem Con.conv {n f : Nat} {args : List SV} {t t' : T Unit SV} (h : Con n f args t) (le : TLe t' t) : Con n f args t' :=
  fun w mg mb A s H HL vals Q E hA pre hv hh => h w mg mb A s H HL vals Q E hA pre hv (le.h _ (fun _ _ le hk s' H' HL' u cp hu => hk s' H' HL' u cp (le _ _ hu)) hh)
set_option tactic.hygienic false in
theorem Con.stuck (n f : Nat) (args : List SV) : Con n f args .stuck := fun _ _ _ _ _ _ _ _ _ _ _ _ _ h => h.elim
set_option tactic.hygienic false in
theorem Con.le {n m f : Nat} {args : List SV} {t : T Unit SV} (h : Con n f args t) (nm : n ≤ m) : Con m f args t :=
  fun w mg mb A s H HL vals Q E hA pre hv hh => h w mg mb A s H HL vals Q E ⟨hA.h, by have := hA.d; omega, by have := hA.u; omega⟩ pre hv hh
set_option tactic.hygienic false in
/-- what the values tell may be used -/
theorem Con.facts {n f : Nat} {args : List SV} {t : T Unit SV} {P : Prop} (hp : ∀ W vals, VRs W args vals → P) (h : P → Con n f args t) : Con n f args t :=
  fun w mg mb A s H HL vals Q E hA pre hv hh => h (hp _ _ hv) w mg mb A s H HL vals Q E hA pre hv hh
set_option tactic.hygienic false in
theorem Con.args {n f : Nat} {args args' : List SV} {t : T Unit SV} (h : Con n f args' t) (k : ∀ W vals, VRs W args vals → VRs W args' vals) : Con n f args t :=
  fun w mg mb A s H HL vals Q E hA pre hv hh => h w mg mb A s H HL vals Q E hA pre (k _ _ hv) hh
noncomputable def addF (f : Nat) (G : List SV → T Unit SV) (F : Nat → List SV → T Unit SV) (g : Nat) (args : List SV) : T Unit SV := match Nat.beq g f with
  | true => G args
  | false => F g args
theorem FOK.add {n f : Nat} {G : List SV → T Unit SV} {F : Nat → List SV → T Unit SV} (h : FOK n F) (k : ∀ args, Con n f args (G args)) : FOK n (addF f G F) := by
  intro g args
  unfold addF
  split
  · next q => have := Nat.eq_of_beq_eq_true q; subst this; exact k args
  · exact h g args
set_option tactic.hygienic false in
theorem FOK.le {n m : Nat} {F : Nat → List SV → T Unit SV} (h : FOK n F) (nm : n ≤ m) : FOK m F := fun f args => (h f args).le nm
/-- one entry of the globals -/
noncomputable def GE (x : Str) (v : SV) : Prop := ∀ P : Params, ∃ u, (nsIn (kmk.heap_1 P) mainGlobals x = some (some u) ∨ (nsIn (kmk.heap_1 P) mainGlobals x = some none ∧ bootBuiltins x = some u ∧ x ≠ "__name__")) ∧
  ∀ W : Wd, (∀ a o, (kmk.heap_1 P).lookup a = some o → W.H a o) → VR W v u
set_option tactic.hygienic false in
theorem lk_mem {α : Type} {x : Str} {v : α} : ∀ {l : List (Str × α)}, lk x l = some v → (x, v) ∈ l := fun {l} h => mem_of_lk (lk_lookup ▸ h)
set_option tactic.hygienic false in
theorem glo_of {names : List (Str × NameKind)} {F : Nat → List SV → T Unit SV} {l : List (Str × SV)} (h : ∀ p ∈ l, GE p.1 p.2) : GloOK ⟨names, l, F⟩ := fun x v e P => h (x, v) (lk_mem e) P
set_option tactic.hygienic false in
theorem ge_bi {x : Str} {b : Bi} (h : ∀ P, nsIn (kmk.heap_1 P) mainGlobals x = some none) (e : bootBuiltins x = some b.val) (n : sq x (Str.ofString "__name__") = false) : GE x (.bi b) := fun P => glo_bi (h P) e n
set_option tactic.hygienic false in
theorem ge_fn {x : Str} {a : Nat} (h : ∀ P, nsIn (kmk.heap_1 P) mainGlobals x = some (some (.ref (a : Addr)))) : GE x (.fn a) := fun P => ⟨_, .inl (h P), fun W _ => by simp only [VR]⟩
noncomputable def tokI : Option (Option Value) → Tok
  | some (some (.int _ t)) => t
  | _ => default
set_option tactic.hygienic false in
theorem ge_num {x : Str} {n : Int} (h : ∀ P, nsIn (kmk.heap_1 P) mainGlobals x = some (some (.int n (tokI (nsIn (kmk.heap_1 P) mainGlobals x))))) : GE x (.num n) := fun P => ⟨_, .inl (h P), fun W _ => by simp only [VR]; exact ⟨_, rfl⟩⟩
set_option tactic.hygienic false in
theorem ge_nil {P : Str × SV → Prop} : ∀ p ∈ ([] : List (Str × SV)), P p := fun _ h => (nomatch h)
set_option tactic.hygienic false in
theorem ge_cons {P : Str × SV → Prop} {q : Str × SV} {l : List (Str × SV)} (h : P q) (k : ∀ p ∈ l, P p) : ∀ p ∈ q :: l, P p := fun p hp => by
  rcases List.mem_cons.mp hp with rfl | hp
  · exact h
  · exact k p hp
noncomputable def gloG : List (Str × SV) := [(nm "len", .bi .len), (nm "int", .bi .int), (nm "bool", .bi .bool), (nm "isinstance", .bi .isinstance), (nm "tuple", .bi .tuple), (nm "list", .bi .list), (nm "range", .bi .range), (nm "pow", .bi .pow), (nm "enumerate", .bi .enumerate), (nm "zip", .bi .zip),
  (nm "FQ2", .fn 242), (nm "FQP", .fn 213), (nm "prime_field_inv", .fn 85), (nm "deg", .fn 92), (nm "is_inf", .fn 28), (nm "is_on_curve", .fn 35), (nm "normalize", .fn 42), (nm "get_flags", .fn 49), (nm "is_point_at_infinity", .fn 57), (nm "modular_squareroot_in_FQ2", .fn 64),
  (nm "_law_marks", .fn 251), (nm "_law_at", .fn 298), (nm "_law_mul", .fn 305), (nm "_law_plus", .fn 312), (nm "_law_root", .fn 319), (nm "_law_made", .fn 326), (nm "_law_opposite", .fn 333), (nm "_law_mark", .fn 340), (nm "_law_due", .fn 354), (nm "_law_numbers", .fn 361),
  (nm "compress_G2", .fn 71), (nm "decompress_G2", .fn 78), (nm "_law_told", .fn 347), (nm "_law_written", .fn 366),
  (nm "POW_2_381", .num (2 ^ 381)), (nm "POW_2_382", .num (2 ^ 382)), (nm "POW_2_383", .num (2 ^ 383))]
set_option tactic.hygienic false in
theorem gloG_ok {names : List (Str × NameKind)} {F : Nat → List SV → T Unit SV} : GloOK ⟨names, gloG, F⟩ := by
  refine glo_of ?_
  unfold gloG
  repeat' (refine ge_cons ?_ ?_)
  all_goals first
    | exact ge_nil
    | exact ge_bi (fun P => by kernel_rfl) (by kernel_rfl) (by kernel_rfl)
    | exact ge_fn fun P => by kernel_rfl
    | exact ge_num fun P => by kernel_rfl
noncomputable def runM (F : Nat → List SV → T Unit SV) (o : Option Stmt) (args : List SV) : T Unit SV := run (fnN o) gloG F 60 (fnP o) (fnB o) args
set_option tactic.hygienic false in
theorem runM_con {n f : Nat} {F : Nat → List SV → T Unit SV} {o : Option Stmt} (fok : FnOK f (fnP o) (fnB o) (fnN o)) (hF : FOK n F) (args : List SV) : Con (n + 1) f args (runM F o args) := run_sound fok hF gloG_ok args
set_option tactic.hygienic false in
theorem ff (a p : Int) : (a.fmod p).fmod p = a.fmod p := Int.fmod_fmod a p
abbrev PP := Int × Int
noncomputable def tri3 (f : SV → SV → SV → T Unit SV) : SV → T Unit SV
  | .tup [a, b, c] => f a b c
  | _ => .stuck
noncomputable def elQ (f : Int → PP → T Unit SV) : SV → T Unit SV
  | .el p x y => f p (x, y)
  | _ => .stuck
theorem tri3_P {P : List SV → T Unit SV → Prop} (hs : ∀ l, P l .stuck) {r : List SV} {f : SV → SV → SV → T Unit SV} {v : SV} (h : ∀ a b c, P (.tup [a, b, c] :: r) (f a b c)) : P (v :: r) (tri3 f v) := by
  cases v <;> (try exact hs _)
  rename_i l
  rcases l with _ | ⟨a, _ | ⟨b, _ | ⟨c, _ | ⟨_, _⟩⟩⟩⟩ <;> (try exact hs _)
  exact h a b c
set_option tactic.hygienic false in
theorem elQ_P {P : List SV → T Unit SV → Prop} (hs : ∀ l, P l .stuck) {a : SV → List SV} {f : Int → PP → T Unit SV} {v : SV} (h : ∀ p x y, P (a (.el p x y)) (f p (x, y))) : P (a v) (elQ f v) := by
  cases v <;> (try exact hs _)
  exact h _ _ _
set_option tactic.hygienic false in
theorem tri3_con {n g : Nat} {r : List SV} {f : SV → SV → SV → T Unit SV} {v : SV} (h : ∀ a b c, Con n g (.tup [a, b, c] :: r) (f a b c)) : Con n g (v :: r) (tri3 f v) := tri3_P (P := Con n g) (Con.stuck n g) h
set_option tactic.hygienic false in
theorem elQ_con {n g : Nat} {a : SV → List SV} {f : Int → PP → T Unit SV} {v : SV} (h : ∀ p x y, Con n g (a (.el p x y)) (f p (x, y))) : Con n g (a v) (elQ f v) := elQ_P (P := Con n g) (Con.stuck n g) h
noncomputable def pairQ (f : SV → SV → T Unit SV) : SV → T Unit SV
  | .tup [a, c] => f a c
  | _ => .stuck
noncomputable def intQ (f : Int → Option Nat → T Unit SV) : SV → T Unit SV
  | .int z b => f z b
  | _ => .stuck
noncomputable def tupQ (f : List SV → T Unit SV) : SV → T Unit SV
  | .tup l => f l
  | _ => .stuck
theorem pairQ_P {P : SV → T Unit SV → Prop} (hs : ∀ l, P l .stuck) {f : SV → SV → T Unit SV} {v : SV} (h : ∀ a b, P (.tup [a, b]) (f a b)) : P v (pairQ f v) := by
  cases v <;> (try exact hs _)
  rename_i l
  rcases l with _ | ⟨a, _ | ⟨b, _ | ⟨_, _⟩⟩⟩ <;> (try exact hs _)
  exact h a b
set_option tactic.hygienic false in
theorem intQ_P {P : SV → T Unit SV → Prop} (hs : ∀ l, P l .stuck) {f : Int → Option Nat → T Unit SV} {v : SV} (h : ∀ z b, P (.int z b) (f z b)) : P v (intQ f v) := by
  cases v <;> (try exact hs _)
  exact h _ _
set_option tactic.hygienic false in
theorem tupQ_P {P : SV → T Unit SV → Prop} (hs : ∀ l, P l .stuck) {f : List SV → T Unit SV} {v : SV} (h : ∀ l, P (.tup l) (f l)) : P v (tupQ f v) := by
  cases v <;> (try exact hs _)
  exact h _
noncomputable def gtQ (b : Bool) (t : T Unit SV) : T Unit SV := match b with
  | true => t
  | false => .stuck
set_option tactic.hygienic false in
theorem gtQ_P {P : T Unit SV → Prop} (hs : P .stuck) {b : Bool} {t : T Unit SV} (h : b = true → P t) : P (gtQ b t) := by
  rcases b with _ | _
  · exact hs
  · exact h rfl
noncomputable def aiQ (f : Int → T Unit SV) (v : SV) : T Unit SV := match asI v with
  | some q => f q.2.1
  | none => .stuck
set_option tactic.hygienic false in
theorem aiQ_con {n g : Nat} {l : List SV} {f : Int → T Unit SV} {v : SV} (h : ∀ k a b, asI v = some (k, a, b) → Con n g l (f a)) : Con n g l (aiQ f v) := by
  unfold aiQ
  rcases q : asI v with _ | w
  · exact Con.stuck _ _ _
  · exact h w.1 w.2.1 w.2.2 q
noncomputable def elO (f : Int → PP → T Unit SV) (d : T Unit SV) : SV → T Unit SV
  | .el p x y => f p (x, y)
  | _ => d
set_option tactic.hygienic false in
theorem elO_con {n g : Nat} {a : SV → List SV} {f : Int → PP → T Unit SV} {d : T Unit SV} {v : SV} (h : ∀ p x y, Con n g (a (.el p x y)) (f p (x, y))) (hd : Con n g (a v) d) : Con n g (a v) (elO f d v) := by
  cases v <;> (try exact hd)
  exact h _ _ _
noncomputable def numT (f : Int → T Unit SV) : SV → T Unit SV
  | .num e => f e
  | _ => .stuck
set_option tactic.hygienic false in
theorem numT_con {n g : Nat} {a : SV → List SV} {f : Int → T Unit SV} {v : SV} (h : ∀ p, Con n g (a (.num p)) (f p)) : Con n g (a v) (numT f v) := by
  cases v <;> (try exact Con.stuck _ _ _)
  exact h _
noncomputable def mdT (f : Int → T Unit SV) : SV → T Unit SV
  | .md e => f e
  | _ => .stuck
set_option tactic.hygienic false in
theorem mdT_con {n g : Nat} {a : SV → List SV} {f : Int → T Unit SV} {v : SV} (h : ∀ p, Con n g (a (.md p)) (f p)) : Con n g (a v) (mdT f v) := by
  cases v <;> (try exact Con.stuck _ _ _)
  exact h _
/-- the class -/
noncomputable def F1 : Nat → List SV → T Unit SV := addF 242 mkF fun _ _ => .stuck
set_option tactic.hygienic false in
theorem F1_ok : FOK 2 F1 := FOK.add (fok_stuck 2) mk_con
/-- made -/
noncomputable def gMade : List SV → T Unit SV
  | [v, c] => elQ (fun p _ => match cvOf c with
    | some t => match asI t.2.1 with
      | some x => match asI t.2.2 with
        | some y => .ret (.el p (x.2.1.fmod p) (y.2.1.fmod p))
        | none => .stuck
      | none => .stuck
    | none => .stuck) v
  | _ => .stuck
set_option tactic.hygienic false in
theorem asI_run {v : SV} {t : Bool × Int × Option Nat} (h : asI v = some t) {P : SV → Prop} (h1 : ∀ n, n = t.2.1 → P (.num n)) (h2 : ∀ n, n = t.2.1 → P (.md n)) (h3 : ∀ n b, n = t.2.1 → P (.int n b)) : P v := by
  cases v <;> (try exact none_neC h)
  · exact h1 _ (congrArg (fun q : Bool × Int × Option Nat => q.2.1) (Option.some.inj h))
  · exact h2 _ (congrArg (fun q : Bool × Int × Option Nat => q.2.1) (Option.some.inj h))
  · exact h3 _ _ (congrArg (fun q : Bool × Int × Option Nat => q.2.1) (Option.some.inj h))
set_option tactic.hygienic false in
theorem made_con (args : List SV) : Con 3 231 args (gMade args) := by
  rcases args with _ | ⟨v, _ | ⟨c, _ | ⟨_, _⟩⟩⟩ <;> (try exact Con.stuck _ _ _)
  dsimp only [gMade]
  refine elQ_con (a := fun v => [v, c]) fun p u v => ?_
  try dsimp only
  rcases ec : cvOf c with _ | t
  · exact Con.stuck _ _ _
  obtain ⟨tb, a, b⟩ := t
  obtain rfl := cvOf_eq ec
  try dsimp only
  rcases e1 : asI a with _ | t1
  · exact Con.stuck _ _ _
  · rcases e2 : asI b with _ | t2
    · exact Con.stuck _ _ _
    ·
      refine (runM_con fok_made F1_ok _).conv (TLe.of_eq ?_)
      refine asI_run (P := fun a => runM F1 s_made [.el p u v, cvS tb a b] = .ret (.el p (t1.2.1.fmod p) (t2.2.1.fmod p))) e1 (fun x hx => ?_) (fun x hx => ?_) fun x k hx => ?_ <;> (rw [← hx]; refine asI_run (P := fun b => runM F1 s_made [.el p u v, cvS tb _ b] = .ret (.el p (x.fmod p) (t2.2.1.fmod p))) e2 (fun y hy => ?_) (fun y hy => ?_) fun y k hy => ?_ <;> (rw [← hy]; cases tb <;> kernel_rfl))
noncomputable def F2 : Nat → List SV → T Unit SV := addF 231 gMade F1
set_option tactic.hygienic false in
theorem F2_ok : FOK 3 F2 := FOK.add (F1_ok.le (by decide)) made_con
noncomputable def gAdd : List SV → T Unit SV
  | [a, c] => elQ (fun p x => elQ (fun _ u => .ret (.el p ((x.1 + u.1).fmod p) ((x.2 + u.2).fmod p))) c) a
  | _ => .stuck
set_option tactic.hygienic false in
theorem add_con (args : List SV) : Con 4 116 args (gAdd args) := by
  rcases args with _ | ⟨a, _ | ⟨c, _ | ⟨_, _⟩⟩⟩ <;> (try exact Con.stuck _ _ _)
  dsimp only [gAdd]
  refine elQ_con (a := fun a => [a, c]) fun p x y => ?_
  dsimp only
  refine elQ_con (a := fun c => [.el p x y, c]) fun q u v => ?_
  refine (runM_con fok_add F2_ok _).conv (TLe.of_eq ?_)
  rw [← ff (x + u), ← ff (y + v)]
  kernel_rfl
noncomputable def gSub : List SV → T Unit SV
  | [a, c] => elQ (fun p x => elQ (fun _ u => .ret (.el p ((x.1 - u.1).fmod p) ((x.2 - u.2).fmod p))) c) a
  | _ => .stuck
set_option tactic.hygienic false in
theorem sub_con (args : List SV) : Con 4 121 args (gSub args) := by
  rcases args with _ | ⟨a, _ | ⟨c, _ | ⟨_, _⟩⟩⟩ <;> (try exact Con.stuck _ _ _)
  dsimp only [gSub]
  refine elQ_con (a := fun a => [a, c]) fun p x y => ?_
  dsimp only
  refine elQ_con (a := fun c => [.el p x y, c]) fun q u v => ?_
  refine (runM_con fok_sub F2_ok _).conv (TLe.of_eq ?_)
  rw [← ff (x - u), ← ff (y - v)]
  kernel_rfl
noncomputable def gMul : List SV → T Unit SV
  | [a, c] => elQ (fun p x => match asI c with
    | some t => .ret (.el p ((x.1 * t.2.1).fmod p) ((x.2 * t.2.1).fmod p))
    | none => elQ (fun _ u => .ret (.el p ((x.1 * u.1 - x.2 * u.2).fmod p) ((x.1 * u.2 + x.2 * u.1).fmod p))) c) a
  | _ => .stuck
set_option tactic.hygienic false in
theorem mul_con (args : List SV) : Con 4 133 args (gMul args) := by
  rcases args with _ | ⟨a, _ | ⟨c, _ | ⟨_, _⟩⟩⟩ <;> (try exact Con.stuck _ _ _)
  dsimp only [gMul]
  refine elQ_con (a := fun a => [a, c]) fun p x y => ?_
  dsimp only
  rcases e1 : asI c with _ | t
  ·
    refine elQ_con (a := fun c => [.el p x y, c]) fun q u v => (runM_con fok_mulm F2_ok _).conv (TLe.of_eq ?_)
    have e : runM F2 s_mulm [.el p x y, .el q u v] = .ret (.el p (((0 + x * u - (0 + y * v) * 1).fmod p).fmod p) (((0 + x * v + y * u).fmod p).fmod p)) := by kernel_rfl
    rw [e, ff, ff, Int.zero_add, Int.zero_add, Int.zero_add, Int.mul_one]
  ·
    refine (runM_con fok_mulm F2_ok _).conv (TLe.of_eq ?_)
    refine asI_run (P := fun c => runM F2 s_mulm [.el p x y, c] = .ret (.el p ((x * t.2.1).fmod p) ((y * t.2.1).fmod p))) e1 (fun n hn => ?_) (fun n hn => ?_) fun n b hn => ?_ <;> (rw [← hn, ← ff (x * n), ← ff (y * n)]; kernel_rfl)
noncomputable def gNeg : List SV → T Unit SV
  | [v] => elQ (fun p x => .ret (.el p ((-x.1).fmod p) ((-x.2).fmod p))) v
  | _ => .stuck
set_option tactic.hygienic false in
theorem neg_con (args : List SV) : Con 4 188 args (gNeg args) := by
  rcases args with _ | ⟨v, _ | ⟨_, _⟩⟩ <;> (try exact Con.stuck _ _ _)
  dsimp only [gNeg]
  refine elQ_con (a := fun v => [v]) fun p x y => ?_
  exact (runM_con fok_neg F2_ok _).conv (TLe.of_eq (by kernel_rfl))
noncomputable def gOne : List SV → T Unit SV
  | [v] => elQ (fun p _ => .ret (.el p (Int.fmod 1 p) (Int.fmod 0 p))) v
  | _ => .stuck
set_option tactic.hygienic false in
theorem one_con (args : List SV) : Con 4 203 args (gOne args) := by
  rcases args with _ | ⟨v, _ | ⟨_, _⟩⟩ <;> (try exact Con.stuck _ _ _)
  dsimp only [gOne]
  refine elQ_con (a := fun v => [v]) fun p x y => ?_
  exact (runM_con fok_one F2_ok _).conv (TLe.of_eq (by kernel_rfl))
noncomputable def gZero : List SV → T Unit SV
  | [v] => elQ (fun p _ => .ret (.el p (Int.fmod 0 p) (Int.fmod 0 p))) v
  | _ => .stuck
set_option tactic.hygienic false in
theorem zero_con (args : List SV) : Con 4 210 args (gZero args) := by
  rcases args with _ | ⟨v, _ | ⟨_, _⟩⟩ <;> (try exact Con.stuck _ _ _)
  dsimp only [gZero]
  refine elQ_con (a := fun v => [v]) fun p x y => ?_
  exact (runM_con fok_zero F2_ok _).conv (TLe.of_eq (by kernel_rfl))
/-- equality -/
noncomputable def gEq : List SV → T Unit SV
  | [a, c] => elQ (fun _ x => elQ (fun _ u => .ret (.sb (x.1 == u.1 && x.2 == u.2))) c) a
  | _ => .stuck
set_option tactic.hygienic false in
theorem eq_con (args : List SV) : Con 4 176 args (gEq args) := by
  rcases args with _ | ⟨a, _ | ⟨c, _ | ⟨_, _⟩⟩⟩ <;> (try exact Con.stuck _ _ _)
  dsimp only [gEq]
  refine elQ_con (a := fun a => [a, c]) fun p x y => ?_
  dsimp only
  refine elQ_con (a := fun c => [.el p x y, c]) fun q u v => ?_
  refine (runM_con fok_eq F2_ok _).conv ?_
  have e : runM F2 s_eq [.el p x y, .el q u v] = .dec (x != u) (.ret (.bool false)) (.dec (y != v) (.ret (.bool false)) (.ret (.bool true))) := by kernel_rfl
  rw [e]
  refine ⟨fun K kk hk => ?_⟩
  have w : ∀ {b c : Bool}, c = b → K (.sb b) → K (.bool c) := fun {b c} q hk => kk _ _ (fun W v hv => by simp only [VR] at hv ⊢; rw [hv, q]) hk
  have hk : K (.sb (x == u && y == v)) := hk
  refine ⟨fun h => w ?_ hk, fun h => ⟨fun h' => w ?_ hk, fun h' => w ?_ hk⟩⟩
  · simp only [bne, Bool.not_eq_true', beq_eq_false_iff_ne] at h; simp [h]
  · simp only [bne, Bool.not_eq_true', beq_eq_false_iff_ne] at h'; simp [h']
  · simp only [bne, Bool.not_eq_false'] at h h'; rw [h, h']; rfl
noncomputable def F3 : Nat → List SV → T Unit SV := addF 133 gMul (addF 116 gAdd (addF 121 gSub (addF 188 gNeg (addF 203 gOne (addF 210 gZero (addF 176 gEq F2))))))
set_option tactic.hygienic false in
theorem F3_ok : FOK 4 F3 := FOK.add (FOK.add (FOK.add (FOK.add (FOK.add (FOK.add (FOK.add (F2_ok.le (by decide)) eq_con) zero_con) one_con) neg_con) sub_con) add_con) mul_con
/-- the road that the conditions take, when they are known -/
noncomputable def T.walk : T Unit SV → Option SV
  | .ret a => some a
  | .dec b t e => match b with
    | true => t.walk
    | false => e.walk
  | .need b t => match b with
    | true => t.walk
    | false => none
  | .exc _ => none
  | .stuck => none
set_option tactic.hygienic false in
theorem T.walk_holds {a : SV} {K : SV → Prop} {X : Unit → Prop} (hk : K a) : ∀ {t : T Unit SV}, t.walk = some a → t.Holds K X
  | .ret _, h => by cases h; exact hk
  | .dec true t e, h => ⟨fun _ => T.walk_holds (t := t) hk h, fun q => (nomatch q)⟩
  | .dec false t e, h => ⟨fun q => (nomatch q), fun _ => T.walk_holds (t := e) hk h⟩
  | .need true t, h => ⟨rfl, T.walk_holds (t := t) hk h⟩
  | .need false t, h => nomatch h
  | .exc _, h => nomatch h
  | .stuck, h => nomatch h
set_option tactic.hygienic false in
theorem TLe.walk {t : T Unit SV} {a a' : SV} (h : t.walk = some a) (le : SVle a a') : TLe (.ret a') t := ⟨fun K k hk => T.walk_holds (k a a' le hk) h⟩
/-- a known int -/
noncomputable def intIs (v : SV) (m : Int) : Bool := match v with
  | .num n => n == m && Nat.ble m.natAbs 100
  | .int n b => n == m && (match b with | some c => Nat.ble c 100 | none => false)
  | _ => false
set_option tactic.hygienic false in
theorem intIs_le {v : SV} {m : Int} (h : intIs v m = true) : SVle v (.int m (some 100)) := by
  intro W u hu
  unfold intIs at h
  split at h
  · simp only [Bool.and_eq_true, beq_iff_eq] at h
    obtain ⟨rfl, h⟩ := h
    have := Nat.le_of_ble_eq_true h
    simp only [VR] at hu ⊢
    exact ⟨hu, this⟩
  · simp only [Bool.and_eq_true, beq_iff_eq] at h
    obtain ⟨rfl, h⟩ := h
    split at h
    · have := Nat.le_of_ble_eq_true h
      simp only [VR] at hu ⊢
      refine ⟨hu.1, ?_⟩
      have h2 := hu.2
      simp only [bdd] at h2 ⊢
      omega
    · cases h
  · cases h
noncomputable def allN (f : Nat → Bool) : Nat → Bool
  | 0 => true
  | n + 1 => match f n with
    | true => allN f n
    | false => false
theorem allN_get {f : Nat → Bool} : ∀ {n i : Nat}, allN f n = true → i < n → f i = true
  | n + 1, i, h, hi => by
    unfold allN at h
    split at h
    · next q =>
      rcases Nat.lt_succ_iff_lt_or_eq.mp hi with hi | rfl
      · exact allN_get h hi
      · exact q
    · cases h
set_option tactic.hygienic false in
theorem fmod_nat {a p : Int} (h : 0 < p) : ∃ r : Nat, a.fmod p = (r : Int) ∧ r < p.toNat := by
  have h1 := Int.fmod_nonneg_of_pos a h
  have h2 := Int.fmod_lt_of_pos a h
  exact ⟨(a.fmod p).toNat, by omega, by omega⟩
/-- the inverse in the prime field -/
noncomputable def tab19 : List Int := [0, 1, 10, 13, 5, 4, 16, 11, 12, 17, 2, 7, 8, 3, 15, 14, 6, 9, 18]
noncomputable def tab43 : List Int := [0, 1, 22, 29, 11, 26, 36, 37, 27, 24, 13, 4, 18, 10, 40, 23, 35, 38, 12, 34, 28, 41, 2, 15, 9, 31, 5, 8, 20, 3, 33, 25, 39, 30, 19, 16, 6, 7, 17, 32, 14, 21, 42]
noncomputable def isP (p : Int) : Bool := p == 19 || p == 43
noncomputable def tabP (p : Int) : List Int := match p == 19 with
  | true => tab19
  | false => tab43
noncomputable def pfiS (p a : Int) : Int := (tabP p).getD (a.fmod p).toNat 0
noncomputable def tailP (p z : Int) : T Unit SV := outT (exN ⟨fnN s_pfi, gloG, fun _ _ => .stuck⟩ 59 ((fnB s_pfi).drop 1) ⟨[(nm "a", .num z), (nm "n", .num p)], [], []⟩)
noncomputable def pfiOK (p : Int) (r : Nat) : Bool := match (tailP p (r : Int)).walk with
  | some v => intIs v ((tabP p).getD r 0)
  | none => false
set_option tactic.hygienic false in
theorem pfi19 : allN (pfiOK 19) 19 = true := by kernel_rfl
set_option tactic.hygienic false in
theorem pfi43 : allN (pfiOK 43) 43 = true := by kernel_rfl
noncomputable def gPfi : List SV → T Unit SV
  | [v, w] => mdT (fun p => aiQ (fun a => gtQ (isP p) (.ret (.int (pfiS p a) (some 100)))) v) w
  | _ => .stuck
set_option tactic.hygienic false in
theorem pfi_ok {p : Int} (h : isP p = true) {r : Nat} (hr : r < p.toNat) : pfiOK p r = true := by
  unfold isP at h
  simp only [Bool.or_eq_true, beq_iff_eq] at h
  rcases h with rfl | rfl
  · exact allN_get pfi19 hr
  · exact allN_get pfi43 hr
set_option tactic.hygienic false in
theorem isP_pos {p : Int} (h : isP p = true) : 0 < p := by
  unfold isP at h
  simp only [Bool.or_eq_true, beq_iff_eq] at h
  omega
theorem pfi_con (args : List SV) : Con 4 85 args (gPfi args) := by
  rcases args with _ | ⟨v, _ | ⟨w, _ | ⟨_, _⟩⟩⟩ <;> (try exact Con.stuck _ _ _)
  refine mdT_con (a := fun w => [v, w]) fun p => ?_
  refine aiQ_con fun k a b e1 => ?_
  refine gtQ_P (Con.stuck _ _ _) fun hp => ?_
  have hp0 := isP_pos hp
  refine Con.args (args' := [.num a, .num p]) ((runM_con fok_pfi (fok_stuck 3) _).conv ?_) (fun W vals hv => ?_)
  case refine_2 =>
    simp only [VRs] at hv ⊢
    obtain ⟨v1, r1, rfl, h1, v2, r2, rfl, h2, rfl⟩ := hv
    refine ⟨v1, _, rfl, ?_, v2, [], rfl, ?_, rfl⟩
    · have := (asI_VR h1 e1).1
      simp only [VR]; exact this
    · simp only [VR] at h2 ⊢; exact h2.1
  have e : runM (fun _ _ => .stuck) s_pfi [.num a, .num p] = tailP p (a.fmod p) := by
    unfold isP at hp
    simp only [Bool.or_eq_true, beq_iff_eq] at hp
    rcases hp with rfl | rfl
    · kernel_rfl
    · kernel_rfl
  obtain ⟨r, hr, hlt⟩ := fmod_nat (a := a) hp0
  have := pfi_ok hp hlt
  unfold pfiOK at this
  rw [e, hr]
  split at this
  · next w hw =>
    refine TLe.walk hw ?_
    unfold pfiS
    rw [hr, Int.toNat_natCast]
    exact intIs_le this
  · cases this
noncomputable def F4 : Nat → List SV → T Unit SV := addF 85 gPfi F3
set_option tactic.hygienic false in
theorem F4_ok : FOK 4 F4 := FOK.add F3_ok pfi_con
noncomputable def gDeg (args : List SV) : T Unit SV := runM (fun _ _ => .stuck) s_deg args
set_option tactic.hygienic false in
theorem deg_con (args : List SV) : Con 4 92 args (gDeg args) := runM_con fok_deg (fok_stuck 3) _
/-- a quotient by an int -/
noncomputable def gDivI : List SV → T Unit SV
  | [v, w] => elQ (fun p x => aiQ (fun n => gtQ (isP p) (.ret (.el p ((x.1 * pfiS p n).fmod p) ((x.2 * pfiS p n).fmod p)))) w) v
  | _ => .stuck
set_option tactic.hygienic false in
theorem isP_cases {p : Int} (h : isP p = true) : p = 19 ∨ p = 43 := by
  unfold isP at h
  simp only [Bool.or_eq_true, beq_iff_eq] at h
  exact h
set_option tactic.hygienic false in
theorem divI_con (args : List SV) : Con 5 145 args (gDivI args) := by
  rcases args with _ | ⟨v, _ | ⟨w, _ | ⟨_, _⟩⟩⟩ <;> (try exact Con.stuck _ _ _)
  dsimp only [gDivI]
  refine elQ_con (a := fun v => [v, w]) fun p x y => ?_
  refine aiQ_con fun k n b e1 => ?_
  refine gtQ_P (Con.stuck _ _ _) fun hp => ?_
  refine (runM_con fok_div F4_ok _).conv (TLe.of_eq ?_)
  rw [← ff (x * pfiS p n), ← ff (y * pfiS p n)]
  rcases isP_cases hp with rfl | rfl
  all_goals (cases w <;> (try exact none_neQ e1))
  all_goals (simp only [asI, Option.some.injEq, Prod.mk.injEq] at e1; obtain ⟨-, rfl, -⟩ := e1; kernel_rfl)
noncomputable def F5 : Nat → List SV → T Unit SV := addF 92 gDeg (addF 145 gDivI F4)
set_option tactic.hygienic false in
theorem F5_ok : FOK 5 F5 := FOK.add (FOK.add (F4_ok.le (by decide)) divI_con) fun args => (deg_con args).le (by decide)
noncomputable def gPdiv (args : List SV) : T Unit SV := runM F5 s_pdiv args
set_option tactic.hygienic false in
theorem pdiv_con (args : List SV) : Con 6 157 args (gPdiv args) := runM_con fok_pdiv F5_ok _
noncomputable def F6 : Nat → List SV → T Unit SV := addF 157 gPdiv F5
set_option tactic.hygienic false in
theorem F6_ok : FOK 6 F6 := FOK.add (F5_ok.le (by decide)) pdiv_con
end Mine
set_option linter.unusedVariables false
namespace Mine
/-- one road through the conditions -/
noncomputable def T.path : List Bool → T Unit SV → T Unit SV
  | [], .ret a => .ret a
  | b :: bs, .dec c t e => match b with
    | true => .need c (T.path bs t)
    | false => .need (!c) (T.path bs e)
  | bs, .need c t => .need c (T.path bs t)
  | _, _ => .stuck
set_option tactic.hygienic false in
theorem path_le {K : SV → Prop} : ∀ (t : T Unit SV) (bs : List Bool), (T.path bs t).Holds K (fun _ => False) → t.Holds K (fun _ => False) := by
  intro t
  induction t with
  | ret a =>
    intro bs h; rcases bs with _ | ⟨_, _⟩
    · exact h
    · exact h.elim
  | dec c t e iht ihe =>
    intro bs h; rcases bs with _ | ⟨b, bs⟩
    · exact h.elim
    · cases b with
      | true =>
        have h : c = true ∧ (T.path bs t).Holds K (fun _ => False) := h
        exact ⟨fun _ => iht bs h.2, fun q => by rw [h.1] at q; cases q⟩
      | false =>
        have h : (!c) = true ∧ (T.path bs e).Holds K (fun _ => False) := h
        exact ⟨fun q => (by rw [q] at h; cases h.1), fun _ => ihe bs h.2⟩
  | need c t iht =>
    intro bs h; rcases bs with _ | ⟨b, bs⟩
    · exact ⟨h.1, iht [] h.2⟩
    · exact ⟨h.1, iht (b :: bs) h.2⟩
  | exc _ => intro bs h; cases bs <;> exact h.elim
  | stuck => intro bs h; cases bs <;> exact h.elim
set_option tactic.hygienic false in
theorem TLe.path {t t' : T Unit SV} {bs : List Bool} (e : T.path bs t = t') : TLe t' t := ⟨fun K _ h => path_le t bs (by rw [e]; exact h)⟩
noncomputable def elIs (v : SV) (p x y : Int) : Bool := match v with
  | .el q u w => q == p && (u == x && w == y)
  | _ => false
/-- the conditions hold and the end is this element -/
noncomputable def T.chk (p x y : Int) : T Unit SV → Bool
  | .ret v => elIs v p x y
  | .need c t => match c with
    | true => t.chk p x y
    | false => false
  | _ => false
set_option tactic.hygienic false in
theorem chk_le {p x y : Int} {K : SV → Prop} (hk : K (.el p x y)) : ∀ {t : T Unit SV}, t.chk p x y = true → t.Holds K (fun _ => False)
  | .ret v, h => by
    unfold T.chk elIs at h
    split at h
    · simp only [Bool.and_eq_true, beq_iff_eq] at h
      obtain ⟨rfl, rfl, rfl⟩ := h
      exact hk
    · cases h
  | .need true t, h => ⟨rfl, chk_le (t := t) hk h⟩
  | .need false t, h => nomatch h
  | .dec _ _ _, h => nomatch h
  | .exc _, h => nomatch h
  | .stuck, h => nomatch h
noncomputable def invX (p x y : Int) : Int := (x * pfiS p (x * x + y * y)).fmod p
noncomputable def invY (p x y : Int) : Int := (-y * pfiS p (x * x + y * y)).fmod p
noncomputable def ia0 (p x y : Int) : Int := ((Int.fmod 1 p) * (pfiS p x))
noncomputable def ia1 (p x y : Int) : Int := ((Int.fmod 0 p) * (pfiS p x))
noncomputable def ib0 (p x y : Int) : Int := (Int.fmod (0 + (1 * (pfiS p y))) p)
noncomputable def ib1 (p x y : Int) : Int := ((1 - (x * 0)) - (y * (ib0 p x y)))
noncomputable def ib2 (p x y : Int) : Int := (Int.fmod (0 + ((0 - 0) * (pfiS p y))) p)
noncomputable def ib3 (p x y : Int) : Int := ((ib1 p x y) - (0 * (ib2 p x y)))
noncomputable def ib4 (p x y : Int) : Int := ((0 - (x * (ib0 p x y))) - (y * (ib2 p x y)))
noncomputable def ib5 (p x y : Int) : Int := (Int.fmod (1 - (x * (ib2 p x y))) p)
noncomputable def ib6 (p x y : Int) : Int := (Int.fmod (0 - (1 * (ib2 p x y))) p)
noncomputable def ib7 (p x y : Int) : Int := ((Int.fmod (ib6 p x y) p) * (pfiS p (ib5 p x y)))
noncomputable def ib8 (p x y : Int) : Int := ((0 - (1 * (ib0 p x y))) - (0 * (ib2 p x y)))
noncomputable def ib9 (p x y : Int) : Int := (Int.fmod (Int.fmod (ib8 p x y) p) p)
noncomputable def ib10 (p x y : Int) : Int := ((ib9 p x y) * (pfiS p (ib5 p x y)))
noncomputable def ic0 (p x y : Int) : Int := (Int.fmod (0 + (1 * (pfiS p y))) p)
noncomputable def ic1 (p x y : Int) : Int := ((1 - (x * 0)) - (y * (ic0 p x y)))
noncomputable def ic2 (p x y : Int) : Int := (Int.fmod (0 + ((0 - 0) * (pfiS p y))) p)
noncomputable def ic3 (p x y : Int) : Int := ((ic1 p x y) - (0 * (ic2 p x y)))
noncomputable def ic4 (p x y : Int) : Int := ((0 - (x * (ic0 p x y))) - (y * (ic2 p x y)))
noncomputable def ic5 (p x y : Int) : Int := (pfiS p (Int.fmod (ic4 p x y) p))
noncomputable def ic6 (p x y : Int) : Int := (Int.fmod (1 - (x * (ic2 p x y))) p)
noncomputable def ic7 (p x y : Int) : Int := ((Int.fmod (ic4 p x y) p) * 0)
noncomputable def ic8 (p x y : Int) : Int := ((0 - ((ic6 p x y) * 0)) - (ic7 p x y))
noncomputable def ic9 (p x y : Int) : Int := (Int.fmod (0 + (y * (ic5 p x y))) p)
noncomputable def ic10 (p x y : Int) : Int := ((Int.fmod (ic3 p x y) p) * (ic9 p x y))
noncomputable def ic11 (p x y : Int) : Int := (Int.fmod ((ic8 p x y) - (ic10 p x y)) p)
noncomputable def ic12 (p x y : Int) : Int := ((Int.fmod (ic4 p x y) p) * (ic9 p x y))
noncomputable def ic13 (p x y : Int) : Int := ((y - ((ic6 p x y) * 0)) - (ic12 p x y))
noncomputable def ic14 (p x y : Int) : Int := (x - ((ic6 p x y) * (ic9 p x y)))
noncomputable def ic15 (p x y : Int) : Int := (Int.fmod (0 - (1 * (ic2 p x y))) p)
noncomputable def ic16 (p x y : Int) : Int := (1 - ((ic15 p x y) * (ic9 p x y)))
noncomputable def ic17 (p x y : Int) : Int := (Int.fmod (Int.fmod (ic16 p x y) p) p)
noncomputable def ic18 (p x y : Int) : Int := (pfiS p (Int.fmod (ic14 p x y) p))
noncomputable def ic19 (p x y : Int) : Int := (Int.fmod ((ic17 p x y) * (ic18 p x y)) p)
noncomputable def ic20 (p x y : Int) : Int := ((0 - (1 * (ic0 p x y))) - (0 * (ic2 p x y)))
noncomputable def ic21 (p x y : Int) : Int := ((Int.fmod (ic20 p x y) p) * (ic9 p x y))
noncomputable def ic22 (p x y : Int) : Int := ((0 - ((ic15 p x y) * 0)) - (ic21 p x y))
noncomputable def ic23 (p x y : Int) : Int := (Int.fmod (Int.fmod (ic22 p x y) p) p)
noncomputable def ic24 (p x y : Int) : Int := (Int.fmod ((ic23 p x y) * (ic18 p x y)) p)
noncomputable def tree_a (p x y : Int) : T Unit SV := (.need (y == 0) (.need (!(x == 0)) (.ret (.el p (Int.fmod (ia0 p x y) p) (Int.fmod (ia1 p x y) p))))) 
noncomputable def tree_b (p x y : Int) : T Unit SV := (.need (!(y == 0)) (.need (!(y == 0)) (.need (!((0 + (1 * (pfiS p y))) == 0)) (.need ((Int.fmod (ib3 p x y) p) == 0) (.need ((Int.fmod (ib4 p x y) p) == 0) (.need (!((ib5 p x y) == 0)) (.ret (.el p (Int.fmod (ib7 p x y) p) (Int.fmod (ib10 p x y) p))))))))) 
noncomputable def tree_c (p x y : Int) : T Unit SV := (.need (!(y == 0)) (.need (!(y == 0)) (.need (!((0 + (1 * (pfiS p y))) == 0)) (.need ((Int.fmod (ic3 p x y) p) == 0) (.need (!((Int.fmod (ic4 p x y) p) == 0)) (.need (!(y == 0)) (.need ((Int.fmod (ic3 p x y) p) == 0) (.need (!((Int.fmod (ic4 p x y) p) == 0)) (.need (!((0 + (y * (ic5 p x y))) == 0)) (.need ((ic11 p x y) == 0) (.need ((Int.fmod (ic13 p x y) p) == 0) (.need (!((Int.fmod (ic14 p x y) p) == 0)) (.ret (.el p (ic19 p x y) (ic24 p x y))))))))))))))) 
set_option tactic.hygienic false in
theorem inv_a19 (x y : Int) : T.path [true, false] (runM F6 s_inv [.el 19 x y]) = tree_a 19 x y := by kernel_rfl
set_option tactic.hygienic false in
theorem inv_a43 (x y : Int) : T.path [true, false] (runM F6 s_inv [.el 43 x y]) = tree_a 43 x y := by kernel_rfl
set_option tactic.hygienic false in
theorem inv_b19 (x y : Int) : T.path [false, false, false, true, true, false] (runM F6 s_inv [.el 19 x y]) = tree_b 19 x y := by kernel_rfl
set_option tactic.hygienic false in
theorem inv_b43 (x y : Int) : T.path [false, false, false, true, true, false] (runM F6 s_inv [.el 43 x y]) = tree_b 43 x y := by kernel_rfl
set_option tactic.hygienic false in
theorem inv_c19 (x y : Int) : T.path [false, false, false, true, false, false, true, false, false, true, true, false] (runM F6 s_inv [.el 19 x y]) = tree_c 19 x y := by kernel_rfl
set_option tactic.hygienic false in
theorem inv_c43 (x y : Int) : T.path [false, false, false, true, false, false, true, false, false, true, true, false] (runM F6 s_inv [.el 43 x y]) = tree_c 43 x y := by kernel_rfl
noncomputable def treeOf (p x y : Int) : T Unit SV := match y == 0 with
  | true => tree_a p x y
  | false => match x == 0 with
    | true => tree_b p x y
    | false => tree_c p x y
set_option tactic.hygienic false in
theorem tree_eq1 {p x y : Int} (h : (y == 0) = true) : treeOf p x y = tree_a p x y := by unfold treeOf; rw [h]
set_option tactic.hygienic false in
theorem tree_eq2 {p x y : Int} (h : (y == 0) = false) (h' : (x == 0) = true) : treeOf p x y = tree_b p x y := by unfold treeOf; rw [h, h']
set_option tactic.hygienic false in
theorem tree_eq3 {p x y : Int} (h : (y == 0) = false) (h' : (x == 0) = false) : treeOf p x y = tree_c p x y := by unfold treeOf; rw [h, h']
set_option tactic.hygienic false in
theorem tree_le {p x y : Int} (hp : isP p = true) : TLe (treeOf p x y) (runM F6 s_inv [.el p x y]) := by
  rcases isP_cases hp with rfl | rfl
  · rcases hy : (y == 0) with _ | _
    rotate_left
    · rw [tree_eq1 hy]; exact TLe.path (inv_a19 x y)
    · cases hx : (x == 0) with
      | true => rw [tree_eq2 hy hx]; exact TLe.path (inv_b19 x y)
      | false => rw [tree_eq3 hy hx]; exact TLe.path (inv_c19 x y)
  · rcases hy : (y == 0) with _ | _
    rotate_left
    · rw [tree_eq1 hy]; exact TLe.path (inv_a43 x y)
    · cases hx : (x == 0) with
      | true => rw [tree_eq2 hy hx]; exact TLe.path (inv_b43 x y)
      | false => rw [tree_eq3 hy hx]; exact TLe.path (inv_c43 x y)
set_option tactic.hygienic false in
theorem TLe.chk {p x y : Int} {t : T Unit SV} (h : t.chk p x y = true) : TLe (.ret (.el p x y)) t := ⟨fun _ _ hk => chk_le hk h⟩
set_option tactic.hygienic false in
theorem TLe.need {b : Bool} {t t' : T Unit SV} (h : b = true → TLe t' t) : TLe (.need b t') t := ⟨fun K k hk => (h hk.1).h K k hk.2⟩
noncomputable def invOK (p : Int) (x y : Nat) : Bool := match Nat.beq x 0 && Nat.beq y 0 with
  | true => true
  | false => (treeOf p x y).chk p (invX p x y) (invY p x y)
set_option tactic.hygienic false in
theorem inv19 : allN (fun x => allN (invOK 19 x) 19) 19 = true := by kernel_rfl
set_option tactic.hygienic false in
theorem inv43 : allN (fun x => allN (invOK 43 x) 43) 43 = true := by kernel_rfl
theorem inv_all {p : Int} (hp : isP p = true) {x y : Int} (hx : 0 ≤ x) (hx' : x < p) (hy : 0 ≤ y) (hy' : y < p) (h : (x == 0 && y == 0) = false) : (treeOf p x y).chk p (invX p x y) (invY p x y) = true := by
  have key : ∀ a b : Nat, a < p.toNat → b < p.toNat → invOK p a b = true := by
    rcases isP_cases hp with rfl | rfl
    · exact fun a b ha hb => allN_get (f := invOK 19 a) (allN_get (f := fun x => allN (invOK 19 x) 19) inv19 ha) hb
    · exact fun a b ha hb => allN_get (f := invOK 43 a) (allN_get (f := fun x => allN (invOK 43 x) 43) inv43 ha) hb
  have := key x.toNat y.toNat (by omega) (by omega)
  unfold invOK at this
  rw [show ((x.toNat : Nat) : Int) = x by omega, show ((y.toNat : Nat) : Int) = y by omega] at this
  split at this
  · next q =>
    simp only [Bool.and_eq_true, Nat.beq_eq] at q
    have e1 : x = 0 := by omega
    have e2 : y = 0 := by omega
    rw [e1, e2] at h
    cases h
  · exact this
noncomputable def gInv : List SV → T Unit SV
  | [v] => elQ (fun p x => gtQ (isP p) (.need (!(x.1 == 0 && x.2 == 0)) (.ret (.el p (invX p x.1 x.2) (invY p x.1 x.2))))) v
  | _ => .stuck
set_option tactic.hygienic false in
theorem inv_con (args : List SV) : Con 7 162 args (gInv args) := by
  rcases args with _ | ⟨v, _ | ⟨_, _⟩⟩ <;> (try exact Con.stuck _ _ _)
  dsimp only [gInv]
  refine elQ_con (a := fun v => [v]) fun p x y => ?_
  refine gtQ_P (Con.stuck _ _ _) fun hp => ?_
  refine Con.facts (P := 0 ≤ x ∧ x < p ∧ 0 ≤ y ∧ y < p) (fun W vals hv => ?_) fun hr => (runM_con fok_inv F6_ok _).conv (TLe.need fun h => ?_)
  · simp only [VRs, VR] at hv
    obtain ⟨_, _, _, ⟨_, _, e⟩, _⟩ := hv
    exact e.rng.2.2
  · exact (TLe.chk (inv_all hp hr.1 hr.2.1 hr.2.2.1 hr.2.2.2 (by cases q : (x == 0 && y == 0) with | true => (rw [q] at h; cases h) | false => rfl))).trans (tree_le hp)
/-- a quotient -/
noncomputable def gDiv : List SV → T Unit SV
  | [v, w] => elO (fun p x => elO (fun q u => gtQ (isP q) (.need (!(u.1 == 0 && u.2 == 0)) (.ret (.el p ((x.1 * invX q u.1 u.2 - x.2 * invY q u.1 u.2).fmod p) ((x.1 * invY q u.1 u.2 + x.2 * invX q u.1 u.2).fmod p))))) (gDivI [.el p x.1 x.2, w]) w) (gDivI [v, w]) v
  | _ => .stuck
noncomputable def F7 : Nat → List SV → T Unit SV := addF 162 gInv F6
set_option tactic.hygienic false in
theorem F7_ok : FOK 7 F7 := FOK.add (F6_ok.le (by decide)) inv_con
set_option tactic.hygienic false in
theorem div_con (args : List SV) : Con 8 145 args (gDiv args) := by
  rcases args with _ | ⟨v, _ | ⟨w, _ | ⟨_, _⟩⟩⟩ <;> (try exact Con.stuck _ _ _)
  dsimp only [gDiv]
  refine elO_con (a := fun v => [v, w]) (fun p x y => ?_) ((divI_con _).le (Nat.le_add_right 5 3))
  refine elO_con (a := fun w => [.el p x y, w]) (fun q u v => ?_) ((divI_con _).le (Nat.le_add_right 5 3))
  refine gtQ_P (Con.stuck _ _ _) fun hq => ?_
  refine (runM_con fok_div F7_ok _).conv (TLe.of_eq ?_)
  rcases isP_cases hq with rfl | rfl <;> kernel_rfl
noncomputable def F8 : Nat → List SV → T Unit SV := addF 145 gDiv F7
set_option tactic.hygienic false in
theorem F8_ok : FOK 8 F8 := FOK.add (F7_ok.le (by decide)) div_con
/-- the field -/
noncomputable def mulS (p : Int) (a c : PP) : PP := ((a.1 * c.1 - a.2 * c.2).fmod p, (a.1 * c.2 + a.2 * c.1).fmod p)
noncomputable def powL (p : Int) : Nat → Nat → PP → PP → PP
  | 0, _, o, _ => o
  | n + 1, e, o, t => match Nat.beq e 0 with
    | true => o
    | false => match Nat.beq (e % 2) 1 with
      | true => powL p n (e / 2) (mulS p o t) (mulS p t t)
      | false => powL p n (e / 2) o (mulS p t t)
noncomputable def powS (p : Int) (e : Nat) (a : PP) : PP := powL p 8 e (Int.fmod 1 p, Int.fmod 0 p) a
noncomputable def isE (e : Int) : Bool := e == 2 || e == 3 || e == 23 || e == 116
noncomputable def gPow : List SV → T Unit SV
  | [v, w] => elQ (fun p x => numT (fun e => gtQ (isE e) (.ret (.el p (powS p e.toNat x).1 (powS p e.toNat x).2))) w) v
  | _ => .stuck
set_option tactic.hygienic false in
theorem pow_con (args : List SV) : Con 9 152 args (gPow args) := by
  rcases args with _ | ⟨v, _ | ⟨w, _ | ⟨_, _⟩⟩⟩ <;> (try exact Con.stuck _ _ _)
  dsimp only [gPow]
  refine elQ_con (a := fun v => [v, w]) fun p x y => ?_
  refine numT_con (a := fun w => [.el p x y, w]) fun e => ?_
  refine gtQ_P (Con.stuck _ _ _) fun he => ?_
  refine (runM_con fok_powm F8_ok _).conv (TLe.of_eq ?_)
  unfold isE at he
  simp only [Bool.or_eq_true, beq_iff_eq] at he
  rcases he with ((rfl | rfl) | rfl) | rfl <;> kernel_rfl
noncomputable def F9 : Nat → List SV → T Unit SV := addF 152 gPow F8
set_option tactic.hygienic false in
theorem F9_ok : FOK 9 F9 := FOK.add (F8_ok.le (by decide)) pow_con
noncomputable def subS (p : Int) (a c : PP) : PP := ((a.1 - c.1).fmod p, (a.2 - c.2).fmod p)
noncomputable def addS (p : Int) (a c : PP) : PP := ((a.1 + c.1).fmod p, (a.2 + c.2).fmod p)
noncomputable def eqP (a c : PP) : Bool := a.1 == c.1 && a.2 == c.2
noncomputable def zS (p : Int) : PP := (Int.fmod 0 p, Int.fmod 0 p)
noncomputable def invS (p : Int) (a : PP) : PP := (invX p a.1 a.2, invY p a.1 a.2)
noncomputable def divS (p : Int) (a c : PP) : PP := mulS p a (invS p c)
noncomputable def nz (a : PP) : Bool := !(a.1 == 0 && a.2 == 0)
noncomputable def sbL : SV → SV → Prop := SVle
set_option tactic.hygienic false in
theorem sb_bool {b c : Bool} (h : c = b) : SVle (.bool b) (.sb c) := fun W v hv => by simp only [VR] at hv ⊢; rw [hv, h]
set_option tactic.hygienic false in
theorem sb_sb {b c : Bool} (h : c = b) : SVle (.sb b) (.sb c) := h ▸ SVle.refl _
set_option tactic.hygienic false in
theorem TLe.dec {b : Bool} {a : SV} {t e : T Unit SV} (ht : b = true → TLe (.ret a) t) (he : b = false → TLe (.ret a) e) : TLe (.ret a) (.dec b t e) := ⟨fun K k h => ⟨fun q => (ht q).h K k h, fun q => (he q).h K k h⟩⟩
/-- the point at infinity -/
noncomputable def gIsInf : List SV → T Unit SV
  | [v] => tri3 (fun _ _ e => elQ (fun p z => .ret (.sb (eqP z (zS p)))) e) v
  | _ => .stuck
set_option tactic.hygienic false in
theorem isinf_con (args : List SV) : Con 10 28 args (gIsInf args) := by
  rcases args with _ | ⟨v, _ | ⟨_, _⟩⟩ <;> (try exact Con.stuck _ _ _)
  refine tri3_con fun a b c => elQ_con (a := fun c => [.tup [a, b, c]]) fun p x y => ?_
  exact (runM_con fok_isinf F9_ok _).conv (TLe.of_eq (by kernel_rfl))
noncomputable def F10 : Nat → List SV → T Unit SV := addF 28 gIsInf F9
set_option tactic.hygienic false in
theorem F10_ok : FOK 10 F10 := FOK.add (F9_ok.le (by decide)) isinf_con
/-- on the curve -/
noncomputable def onS (p : Int) (x y z b : PP) : Bool := eqP z (zS p) || eqP (subS p (mulS p (powS p 2 y) z) (powS p 3 x)) (mulS p b (powS p 3 z))
noncomputable def gOn : List SV → T Unit SV
  | [v, e] => tri3 (fun a c d => elQ (fun p x => elQ (fun p1 y => elQ (fun p2 z => elQ (fun p3 b => match decide (p1 = p) && decide (p2 = p) && decide (p3 = p) with
    | true => .ret (.sb (onS p x y z b))
    | false => .stuck) e) d) c) a) v
  | _ => .stuck
theorem on_con (args : List SV) : Con 11 35 args (gOn args) := by
  rcases args with _ | ⟨v, _ | ⟨e, _ | ⟨_, _⟩⟩⟩ <;> (try exact Con.stuck _ _ _)
  refine tri3_con fun a c d => elQ_con (a := fun a => [.tup [a, c, d], e]) fun p x x' => elQ_con (a := fun c => [.tup [.el p x x', c, d], e]) fun p1 y y' => elQ_con (a := fun d => [.tup [.el p x x', .el p1 y y', d], e]) fun p2 z z' => elQ_con (a := fun e => [.tup [.el p x x', .el p1 y y', .el p2 z z'], e]) fun p3 b b' => ?_
  split
  case h_2 => exact Con.stuck _ _ _
  next hp =>
  simp only [Bool.and_eq_true, decide_eq_true_eq] at hp
  obtain ⟨⟨rfl, rfl⟩, rfl⟩ := hp
  refine (runM_con fok_oncurve F10_ok _).conv ?_
  have e : runM F10 s_oncurve [.tup [.el p3 x x', .el p3 y y', .el p3 z z'], .el p3 b b'] = .dec (eqP (z, z') (zS p3)) (.ret (.bool true)) (.ret (.sb (eqP (subS p3 (mulS p3 (powS p3 2 (y, y')) (z, z')) (powS p3 3 (x, x'))) (mulS p3 (b, b') (powS p3 3 (z, z')))))) := by kernel_rfl
  rw [e]
  refine TLe.dec (fun q => .ret (sb_bool ?_)) fun q => .ret (sb_sb ?_)
  · unfold onS; rw [q]; rfl
  · unfold onS; rw [q]; rfl
/-- the affine point -/
noncomputable def gNorm : List SV → T Unit SV
  | [v] => tri3 (fun a c d => elQ (fun p x => elQ (fun p1 y => elQ (fun p2 z => match isP p && decide (p1 = p) && decide (p2 = p) with
    | true => .need (nz z) (.ret (.tup [.el p (divS p x z).1 (divS p x z).2, .el p (divS p y z).1 (divS p y z).2]))
    | false => .stuck) d) c) a) v
  | _ => .stuck
set_option tactic.hygienic false in
theorem need2_le {c : Bool} {t : T Unit SV} : TLe (.need c t) (.need c (.need c t)) := ⟨fun _ _ h => ⟨h.1, h.1, h.2⟩⟩
theorem norm_con (args : List SV) : Con 11 42 args (gNorm args) := by
  rcases args with _ | ⟨v, _ | ⟨_, _⟩⟩ <;> (try exact Con.stuck _ _ _)
  refine tri3_con fun a c d => elQ_con (a := fun a => [.tup [a, c, d]]) fun p x x' => elQ_con (a := fun c => [.tup [.el p x x', c, d]]) fun p1 y y' => elQ_con (a := fun d => [.tup [.el p x x', .el p1 y y', d]]) fun p2 z z' => ?_
  split
  case h_2 => exact Con.stuck _ _ _
  next hp =>
  simp only [Bool.and_eq_true, decide_eq_true_eq] at hp
  obtain ⟨⟨hp, rfl⟩, rfl⟩ := hp
  refine (runM_con fok_normal F10_ok _).conv (need2_le.trans (TLe.of_eq ?_))
  rcases isP_cases hp with rfl | rfl <;> kernel_rfl
noncomputable def flagS (z : Int) (k : Nat) : Bool := Builtin.bitAnd (z.fdiv (2 ^ k)) 1 != 0
noncomputable def gFlags : List SV → T Unit SV
  | [.int z _] => .ret (.tup [.sb (flagS z 383), .sb (flagS z 382), .sb (flagS z 381)])
  | _ => .stuck
theorem flags_con (args : List SV) : Con 10 49 args (gFlags args) := by
  rcases args with _ | ⟨v, _ | ⟨_, _⟩⟩ <;> (try exact Con.stuck _ _ _) <;> cases v <;> (try exact Con.stuck _ _ _)
  rename_i z b
  exact (runM_con fok_flags F9_ok _).conv (TLe.of_eq (by kernel_rfl))
noncomputable def infS (z w : Int) : Bool := z.fmod (2 ^ 381) == 0 && w == 0
noncomputable def gPtInf : List SV → T Unit SV
  | [.int z _, .int w _] => .ret (.sb (infS z w))
  | _ => .stuck
theorem ptinf_con (args : List SV) : Con 10 57 args (gPtInf args) := by
  rcases args with _ | ⟨v, r⟩
  · exact Con.stuck _ _ _
  cases v <;> (try exact Con.stuck _ _ _)
  rename_i z b
  rcases r with _ | ⟨e, r⟩
  · exact Con.stuck _ _ _
  cases e <;> (try exact Con.stuck _ _ _)
  rename_i w c
  cases r <;> (try exact Con.stuck _ _ _)
  refine (runM_con fok_ptinf F9_ok _).conv ?_
  have e : runM F9 s_ptinf [.int z b, .int w c] = .dec (z.fmod (2 ^ 381) == 0) (.ret (.sb (w == 0))) (.ret (.sb (z.fmod (2 ^ 381) == 0))) := by kernel_rfl
  rw [e]
  refine TLe.dec (fun q => .ret (sb_sb ?_)) fun q => .ret (sb_sb ?_)
  · unfold infS; rw [q]; rfl
  · unfold infS; rw [q]; rfl
noncomputable def F11 : Nat → List SV → T Unit SV := addF 35 gOn (addF 42 gNorm (addF 49 gFlags (addF 57 gPtInf F10)))
set_option tactic.hygienic false in
theorem F11_ok : FOK 11 F11 := FOK.add (FOK.add (FOK.add (FOK.add (F10_ok.le (by decide)) fun a => (ptinf_con a).le (by decide)) fun a => (flags_con a).le (by decide)) norm_con) on_con
/-- a row of values that tells at least as much -/
inductive LeL : List SV → List SV → Prop
  | nil : LeL [] []
  | cons {a b : SV} {l m : List SV} (h : SVle a b) (k : LeL l m) : LeL (a :: l) (b :: m)
set_option tactic.hygienic false in
theorem LeL.use {W : Wd} {l m : List SV} (h : LeL l m) : ∀ {vs : List Value}, VRs W l vs → VRs W m vs := by
  induction h with
  | nil => intro vs hv; exact hv
  | cons h k ih =>
    intro vs hv
    simp only [VRs] at hv ⊢
    obtain ⟨v, r, e, h1, h2⟩ := hv
    exact ⟨v, r, e, h _ _ h1, ih h2⟩
set_option tactic.hygienic false in
theorem SVle.tup {l m : List SV} (h : LeL l m) : SVle (.tup l) (.tup m) := fun W v hv => by
  simp only [VR] at hv ⊢
  obtain ⟨a, o, items, e, h1, h2, h3⟩ := hv
  exact ⟨a, o, items, e, h1, h2, h.use h3⟩
set_option tactic.hygienic false in
theorem Con.argsL {n f : Nat} {args args' : List SV} {t : T Unit SV} (k : LeL args args') (h : Con n f args' t) : Con n f args t := h.args fun _ _ hv => k.use hv
/-- a small int -/
noncomputable def sm (v : SV) : Option Int := match asI v with
  | some (_, n, some b) => match Nat.ble b 100 with
    | true => some n
    | false => none
  | _ => none
theorem sm_le {v : SV} {n : Int} (h : sm v = some n) : SVle v (.int n (some 100)) := by
  intro W u hu
  unfold sm at h
  split at h
  · next k m b e =>
    split at h
    · next q =>
      cases h
      obtain ⟨h1, h2⟩ := asI_VR hu e
      simp only [VR]
      have := Nat.le_of_ble_eq_true q
      refine ⟨h1, ?_⟩
      simp only [bdd] at h2 ⊢
      omega
    · cases h
  · cases h
noncomputable def smP (v : SV) : Option PP := match v with
  | .tup [a, b] => match sm a, sm b with
    | some x, some y => some (x, y)
    | _, _ => none
  | _ => none
noncomputable def pT (a : PP) : SV := .tup [.int a.1 (some 100), .int a.2 (some 100)]
theorem smP_le {v : SV} {a : PP} (h : smP v = some a) : SVle v (pT a) := by
  unfold smP at h
  split at h
  · split at h
    · next e1 e2 => cases h; exact SVle.tup (.cons (sm_le e1) (.cons (sm_le e2) .nil))
    · cases h
  · cases h
theorem mod_le {q : SV} {p : Int} (h : modOf q = some p) : SVle q (.md p) := by
  intro W u hu
  unfold modOf at h
  split at h
  · cases h; exact hu
  · split at h
    · next q => cases h; simp only [Bool.and_eq_true, decide_eq_true_eq] at q; simp only [VR] at hu ⊢; exact ⟨hu, q⟩
    · cases h
  · cases h
noncomputable def mdQ (f : Int → T Unit SV) (q : SV) : T Unit SV := match modOf q with
  | some p => f p
  | none => .stuck
noncomputable def smQ (f : PP → T Unit SV) (v : SV) : T Unit SV := match smP v with
  | some x => f x
  | none => .stuck
set_option tactic.hygienic false in
theorem mdQ_P {P : T Unit SV → Prop} (hs : P .stuck) {f : Int → T Unit SV} {q : SV} (h : ∀ p, modOf q = some p → P (f p)) : P (mdQ f q) := by
  unfold mdQ
  rcases e : modOf q with _ | p
  · exact hs
  · exact h p e
set_option tactic.hygienic false in
theorem smQ_P {P : T Unit SV → Prop} (hs : P .stuck) {f : PP → T Unit SV} {v : SV} (h : ∀ x, smP v = some x → P (f x)) : P (smQ f v) := by
  unfold smQ
  rcases e : smP v with _ | x
  · exact hs
  · exact h x e
/-- a product of pairs -/
noncomputable def gLmul : List SV → T Unit SV
  | [q, a, c] => mdQ (fun p => smQ (fun x => smQ (fun y => .ret (pT (mulS p x y))) c) a) q
  | _ => .stuck
set_option tactic.hygienic false in
theorem lmul_con (args : List SV) : Con 10 305 args (gLmul args) := by
  rcases args with _ | ⟨q, _ | ⟨a, _ | ⟨c, _ | ⟨_, _⟩⟩⟩⟩ <;> (try exact Con.stuck _ _ _)
  dsimp only [gLmul]
  refine mdQ_P (Con.stuck _ _ _) fun p e1 => ?_
  refine smQ_P (Con.stuck _ _ _) fun x e2 => ?_
  refine smQ_P (Con.stuck _ _ _) fun y e3 => ?_
  exact Con.argsL (.cons (mod_le e1) (.cons (smP_le e2) (.cons (smP_le e3) .nil))) ((runM_con fok_mul F9_ok _).conv (TLe.of_eq (by kernel_rfl)))
noncomputable def oneQ (t : T Unit SV) : SV → T Unit SV
  | .num n => match decide (n = 1) with
    | true => t
    | false => .stuck
  | _ => .stuck
theorem oneQ_P {P : SV → T Unit SV → Prop} (hs : ∀ v, P v .stuck) {t : T Unit SV} {v : SV} (h : P (.num 1) t) : P v (oneQ t v) := by
  cases v <;> (try exact hs _)
  rename_i n
  dsimp only [oneQ]
  rcases e : decide (n = 1) with _ | _
  · exact hs _
  · have := of_decide_eq_true e; subst this; exact h
noncomputable def gPlus : List SV → T Unit SV
  | [q, a, c, d] => oneQ (mdQ (fun p => smQ (fun x => smQ (fun y => .ret (pT (addS p x y))) c) a) q) d
  | _ => .stuck
set_option tactic.hygienic false in
theorem plus_con (args : List SV) : Con 10 312 args (gPlus args) := by
  rcases args with _ | ⟨q, _ | ⟨a, _ | ⟨c, _ | ⟨d, _ | ⟨_, _⟩⟩⟩⟩⟩ <;> (try exact Con.stuck _ _ _)
  dsimp only [gPlus]
  refine oneQ_P (P := fun d k => Con 10 312 [q, a, c, d] k) (fun _ => Con.stuck _ _ _) ?_
  refine mdQ_P (Con.stuck _ _ _) fun p e1 => ?_
  refine smQ_P (Con.stuck _ _ _) fun x e2 => ?_
  refine smQ_P (Con.stuck _ _ _) fun y e3 => ?_
  refine Con.argsL (args' := [.md p, pT x, pT y, .num 1]) (.cons (mod_le e1) (.cons (smP_le e2) (.cons (smP_le e3) (.cons (SVle.refl _) .nil)))) ((runM_con fok_plus F9_ok _).conv (TLe.of_eq ?_))
  have e : runM F9 s_plus [.md p, pT x, pT y, .num 1] = .ret (.tup [.int ((x.1 + 1 * y.1).fmod p) (some 100), .int ((x.2 + 1 * y.2).fmod p) (some 100)]) := by kernel_rfl
  rw [e, Int.one_mul, Int.one_mul]
  rfl
noncomputable def two2 (f : SV → SV → T Unit SV) : List SV → T Unit SV
  | [a, b] => f a b
  | _ => .stuck
noncomputable def gLmade : List SV → T Unit SV := two2 fun q a => mdQ (fun p => smQ (fun x => .ret (.el p (x.1.fmod p) (x.2.fmod p))) a) q
set_option tactic.hygienic false in
theorem q2_con {n g : Nat} {f : Int → PP → T Unit SV} (h : ∀ p x, Con n g [.md p, pT x] (f p x)) (args : List SV) : Con n g args (two2 (fun q a => mdQ (fun p => smQ (f p) a) q) args) := by
  rcases args with _ | ⟨q, _ | ⟨a, _ | ⟨_, _⟩⟩⟩ <;> (try exact Con.stuck _ _ _)
  dsimp only [two2]
  refine mdQ_P (Con.stuck _ _ _) fun p e1 => ?_
  refine smQ_P (Con.stuck _ _ _) fun x e2 => ?_
  exact Con.argsL (.cons (mod_le e1) (.cons (smP_le e2) .nil)) (h p x)
set_option tactic.hygienic false in
theorem lmade_con (args : List SV) : Con 10 326 args (gLmade args) := q2_con (fun p x => (runM_con fok_lmade F9_ok _).conv (TLe.of_eq (by kernel_rfl))) args
noncomputable def oppS (p : Int) (a : PP) : PP := ((p - a.1).fmod p, (p - a.2).fmod p)
noncomputable def gOpp : List SV → T Unit SV := two2 fun q a => mdQ (fun p => smQ (fun x => .ret (pT (oppS p x))) a) q
set_option tactic.hygienic false in
theorem opp_con (args : List SV) : Con 10 333 args (gOpp args) := q2_con (fun p x => (runM_con fok_opp F9_ok _).conv (TLe.of_eq (by kernel_rfl))) args
noncomputable def markS (p : Int) (y : PP) : Int := match decide (0 < y.2) with
  | true => 4 + (2 * y.2).fdiv p
  | false => 4 + (2 * y.1).fdiv p
noncomputable def gMark : List SV → T Unit SV := two2 fun q a => mdQ (fun p => smQ (fun x => .ret (.int (markS p x) (some 204))) a) q
set_option tactic.hygienic false in
theorem mark_con (args : List SV) : Con 10 340 args (gMark args) := by
  refine q2_con (fun p x => (runM_con fok_mark F9_ok _).conv ?_) args
  have e : runM F9 s_mark [.md p, pT x] = .dec (decide (0 < x.2)) (.ret (.int (4 + (2 * x.2).fdiv p) (some 204))) (.ret (.int (4 + (2 * x.1).fdiv p) (some 204))) := by kernel_rfl
  rw [e]
  refine TLe.dec (fun q => TLe.of_eq ?_) fun q => TLe.of_eq ?_
  · unfold markS; rw [q]
  · unfold markS; rw [q]
noncomputable def F12 : Nat → List SV → T Unit SV := addF 305 gLmul (addF 312 gPlus (addF 326 gLmade (addF 333 gOpp (addF 340 gMark F11))))
set_option tactic.hygienic false in
theorem F12_ok : FOK 11 F12 := FOK.add (FOK.add (FOK.add (FOK.add (FOK.add F11_ok fun a => (mark_con a).le (by decide)) fun a => (opp_con a).le (by decide)) fun a => (lmade_con a).le (by decide)) fun a => (plus_con a).le (by decide)) fun a => (lmul_con a).le (by decide)
noncomputable def big : Int := 2 ^ 381
/-- one road through the first conditions -/
noncomputable def T.pathR : List Bool → T Unit SV → T Unit SV
  | [], t => t
  | b :: bs, .dec c t e => match b with
    | true => .need c (T.pathR bs t)
    | false => .need (!c) (T.pathR bs e)
  | b :: bs, .need c t => .need c (T.pathR (b :: bs) t)
  | _, _ => .stuck
set_option tactic.hygienic false in
theorem pathR_le {K : SV → Prop} : ∀ (t : T Unit SV) (bs : List Bool), (T.pathR bs t).Holds K (fun _ => False) → t.Holds K (fun _ => False) := by
  intro t
  induction t with
  | ret a =>
    intro bs h; rcases bs with _ | ⟨_, _⟩
    · exact h
    · exact h.elim
  | dec c t e iht ihe =>
    intro bs h; rcases bs with _ | ⟨b, bs⟩
    · exact h
    · cases b with
      | true =>
        have h : c = true ∧ (T.pathR bs t).Holds K (fun _ => False) := h
        exact ⟨fun _ => iht bs h.2, fun q => by rw [h.1] at q; cases q⟩
      | false =>
        have h : (!c) = true ∧ (T.pathR bs e).Holds K (fun _ => False) := h
        exact ⟨fun q => (by rw [q] at h; cases h.1), fun _ => ihe bs h.2⟩
  | need c t iht =>
    intro bs h; rcases bs with _ | ⟨b, bs⟩
    · exact h
    · exact ⟨h.1, iht (b :: bs) h.2⟩
  | exc _ => intro bs h; cases bs <;> exact h.elim
  | stuck => intro bs h; cases bs <;> exact h.elim
set_option tactic.hygienic false in
theorem TLe.pathR {t t' : T Unit SV} {bs : List Bool} (e : T.pathR bs t = t') : TLe t' t := ⟨fun K _ h => pathR_le t bs (by rw [e]; exact h)⟩
noncomputable def roots43 : SV := .tup [.el 43 1 0, .el 43 8 35, .el 43 0 1, .el 43 8 8, .el 43 42 0, .el 43 35 8, .el 43 0 42, .el 43 35 35]
noncomputable def roots19 : SV := .tup [.el 19 1 0, .el 19 3 3, .el 19 0 18, .el 19 3 16, .el 19 18 0, .el 19 16 16, .el 19 0 1, .el 19 16 3]
/-- the root by the law -/
noncomputable def roX (p : Int) (a : PP) (s : Int) : Int := pm (((a.1 + s) * ((p + 1).fdiv 2)).fmod p) ((p + 1).fdiv 4) p
noncomputable def roY (p : Int) (a : PP) (s : Int) : Int := (a.2 * pm ((2 * roX p a s).fmod p) (p - 2) p).fmod p
noncomputable def roZ (p : Int) (a : PP) : Int := pm ((p - a.1).fmod p) ((p + 1).fdiv 4) p
noncomputable def roR (p : Int) (a : PP) (c : PP) (t : T Unit SV) : T Unit SV := .dec (eqP (mulS p c c) a) (.ret (.tup [.int c.1 (some p.natAbs), .int c.2 (some p.natAbs)])) t
noncomputable def roT (p : Int) (a : PP) (s : Int) (t : T Unit SV) : T Unit SV := .dec (roX p a s != 0) (roR p a (roX p a s, roY p a s) t) (roR p a (roX p a s, roZ p a) t)
noncomputable def sizeS (p : Int) (a : PP) : Int := pm ((a.1 * a.1 + a.2 * a.2).fmod p) ((p + 1).fdiv 4) p
noncomputable def treeRo (p : Int) (a : PP) : T Unit SV := roT p a (sizeS p a) (roT p a (p - sizeS p a) (.ret .none))
set_option tactic.hygienic false in
theorem root19 (x y : Int) : runM F12 s_root [.num 19, pT (x, y)] = treeRo 19 (x, y) := by kernel_rfl
set_option tactic.hygienic false in
theorem root43 (x y : Int) : runM F12 s_root [.num 43, pT (x, y)] = treeRo 43 (x, y) := by kernel_rfl
/-- the end of the road, as a pair -/
noncomputable def T.opt : T Unit SV → Option PP
  | .ret (.tup [.int a _, .int c _]) => some (a, c)
  | .dec b t e => match b with
    | true => t.opt
    | false => e.opt
  | _ => none
inductive T.Wf : T Unit SV → Prop
  | none : T.Wf (.ret .none)
  | pair {a c : Int} {b d : Nat} (h1 : b ≤ 100) (h2 : d ≤ 100) : T.Wf (.ret (.tup [.int a (some b), .int c (some d)]))
  | dec {b : Bool} {t e : T Unit SV} (h : T.Wf t) (k : T.Wf e) : T.Wf (.dec b t e)
set_option tactic.hygienic false in
theorem int_le {a : Int} {b : Nat} (h : b ≤ 100) : SVle (.int a (some b)) (.int a (some 100)) := fun W v hv => by
  simp only [VR, bdd] at hv ⊢
  exact ⟨hv.1, Nat.le_trans hv.2 h⟩
noncomputable def optT (o : Option PP) : T Unit SV := .dec o.isSome (.ret (pT (o.getD (0, 0)))) (.ret .none)
set_option tactic.hygienic false in
theorem opt_le {t : T Unit SV} (w : t.Wf) : TLe (optT t.opt) t := by
  induction w with
  | none => exact ⟨fun K k h => h.2 rfl⟩
  | pair h1 h2 => exact ⟨fun K k h => k _ _ (SVle.tup (.cons (int_le h1) (.cons (int_le h2) .nil))) (h.1 rfl)⟩
  | @dec b t e _ _ iht ihe =>
    refine ⟨fun K k h => ⟨fun q => iht.h K k ?_, fun q => ihe.h K k ?_⟩⟩
    · have : T.opt (.dec b t e) = t.opt := by subst q; rfl
      rw [← this]; exact h
    · have : T.opt (.dec b t e) = e.opt := by subst q; rfl
      rw [← this]; exact h
set_option tactic.hygienic false in
theorem ro_wf {p : Int} (hp : isP p = true) (a : PP) : (treeRo p a).Wf := by
  have hb : p.natAbs ≤ 100 := by
    rcases isP_cases hp with rfl | rfl <;> decide
  unfold treeRo roT roR
  exact .dec (.dec (.pair hb hb) (.dec (.dec (.pair hb hb) .none) (.dec (.pair hb hb) .none))) (.dec (.pair hb hb) (.dec (.dec (.pair hb hb) .none) (.dec (.pair hb hb) .none)))
noncomputable def rootS (p : Int) (a : PP) : Option PP := (treeRo p a).opt
noncomputable def gRoot : List SV → T Unit SV
  | [q, a] => mdQ (fun p => smQ (fun x => gtQ (isP p) (optT (rootS p x))) a) q
  | _ => .stuck
set_option tactic.hygienic false in
theorem md_num (p : Int) : SVle (.md p) (.num p) := fun W v hv => by simp only [VR] at hv ⊢; exact hv.1
set_option tactic.hygienic false in
theorem SVle.trans {a b c : SV} (x : SVle a b) (y : SVle b c) : SVle a c := fun W v h => y W v (x W v h)
set_option tactic.hygienic false in
theorem root_con (args : List SV) : Con 12 319 args (gRoot args) := by
  rcases args with _ | ⟨q, _ | ⟨a, _ | ⟨_, _⟩⟩⟩ <;> (try exact Con.stuck _ _ _)
  dsimp only [gRoot]
  refine mdQ_P (Con.stuck _ _ _) fun p e1 => ?_
  refine smQ_P (Con.stuck _ _ _) fun x e2 => ?_
  refine gtQ_P (Con.stuck _ _ _) fun hp => ?_
  refine Con.argsL (args' := [.num p, pT x]) (.cons ((mod_le e1).trans (md_num p)) (.cons (smP_le e2) .nil)) ((runM_con fok_root F12_ok _).conv ?_)
  obtain ⟨x, y⟩ := x
  have e : runM F12 s_root [.num p, pT (x, y)] = treeRo p (x, y) := by
    rcases isP_cases hp with rfl | rfl
    · exact root19 x y
    · exact root43 x y
  rw [e]
  exact opt_le (ro_wf hp _)
/-- the root by the text -/
noncomputable def rootsL (p : Int) : List PP := match p == 19 with
  | true => [(1, 0), (3, 3), (0, 18), (3, 16), (18, 0), (16, 16), (0, 1), (16, 3)]
  | false => [(1, 0), (8, 35), (0, 1), (8, 8), (42, 0), (35, 8), (0, 42), (35, 35)]
noncomputable def evens (p : Int) : List PP := match p == 19 with
  | true => [(1, 0), (0, 18), (18, 0), (0, 1)]
  | false => [(1, 0), (0, 1), (42, 0), (0, 42)]
noncomputable def rtS (p : Int) (k : Nat) : PP := (rootsL p).getD k (0, 0)
noncomputable def elS (p : Int) (a : PP) : SV := .el p a.1 a.2
noncomputable def elsS (p : Int) : List PP → List SV
  | [] => []
  | a :: l => elS p a :: elsS p l
noncomputable def expS (p : Int) : Nat := match p == 19 with
  | true => 23
  | false => 116
noncomputable def candS (p : Int) (v : PP) : PP := powS p (expS p) v
noncomputable def ckS (p : Int) (v : PP) : PP := divS p (powS p 2 (candS p v)) v
noncomputable def nF (ck : PP) : List PP → T Unit SV → T Unit SV
  | [], t => t
  | r :: l, t => .need (eqP r ck == eqP r ck) (.need (!(eqP r ck)) (nF ck l t))
noncomputable def nT (ck r : PP) (t : T Unit SV) : T Unit SV := .need (eqP r ck == eqP r ck) (.need (eqP r ck) t)
noncomputable def negS (p : Int) (a : PP) : PP := ((-a.1).fmod p, (-a.2).fmod p)
noncomputable def leafS (p : Int) (a b : PP) : T Unit SV := .dec (decide (b.2 < a.2)) (.ret (elS p a)) (.dec (a.2 == b.2) (.dec (decide (b.1 < a.1)) (.ret (elS p a)) (.ret (elS p b))) (.ret (elS p b)))
noncomputable def treeSq (p : Int) (v : PP) (k : Nat) : T Unit SV := .need (nz v) (nF (ckS p v) ((evens p).take k) (nT (ckS p v) ((evens p).getD k (0, 0)) (nF (ckS p v) ((rootsL p).take (2 * k)) (nT (ckS p v) (rtS p (2 * k)) (.need (nz (rtS p k)) (leafS p (divS p (candS p v) (rtS p k)) (negS p (divS p (candS p v) (rtS p k)))))))))
noncomputable def treeSN (p : Int) (v : PP) : T Unit SV := .need (nz v) (nF (ckS p v) (evens p) (.ret .none))
set_option tactic.hygienic false in
theorem sq19_0 (x y : Int) : T.pathR [true, true] (runM F12 s_sqrt [.el 19 x y, .tup (elsS 19 (rootsL 19))]) = treeSq 19 (x, y) 0 := by kernel_rfl
set_option tactic.hygienic false in
theorem sq19_1 (x y : Int) : T.pathR [false, true, false, false, true] (runM F12 s_sqrt [.el 19 x y, .tup (elsS 19 (rootsL 19))]) = treeSq 19 (x, y) 1 := by kernel_rfl
set_option tactic.hygienic false in
theorem sq19_2 (x y : Int) : T.pathR [false, false, true, false, false, false, false, true] (runM F12 s_sqrt [.el 19 x y, .tup (elsS 19 (rootsL 19))]) = treeSq 19 (x, y) 2 := by kernel_rfl
set_option tactic.hygienic false in
theorem sq19_3 (x y : Int) : T.pathR [false, false, false, true, false, false, false, false, false, false, true] (runM F12 s_sqrt [.el 19 x y, .tup (elsS 19 (rootsL 19))]) = treeSq 19 (x, y) 3 := by kernel_rfl
set_option tactic.hygienic false in
theorem sq19_4 (x y : Int) : T.pathR [false, false, false, false] (runM F12 s_sqrt [.el 19 x y, .tup (elsS 19 (rootsL 19))]) = treeSN 19 (x, y) := by kernel_rfl
set_option tactic.hygienic false in
theorem sq43_0 (x y : Int) : T.pathR [true, true] (runM F12 s_sqrt [.el 43 x y, .tup (elsS 43 (rootsL 43))]) = treeSq 43 (x, y) 0 := by kernel_rfl
set_option tactic.hygienic false in
theorem sq43_1 (x y : Int) : T.pathR [false, true, false, false, true] (runM F12 s_sqrt [.el 43 x y, .tup (elsS 43 (rootsL 43))]) = treeSq 43 (x, y) 1 := by kernel_rfl
set_option tactic.hygienic false in
theorem sq43_2 (x y : Int) : T.pathR [false, false, true, false, false, false, false, true] (runM F12 s_sqrt [.el 43 x y, .tup (elsS 43 (rootsL 43))]) = treeSq 43 (x, y) 2 := by kernel_rfl
set_option tactic.hygienic false in
theorem sq43_3 (x y : Int) : T.pathR [false, false, false, true, false, false, false, false, false, false, true] (runM F12 s_sqrt [.el 43 x y, .tup (elsS 43 (rootsL 43))]) = treeSq 43 (x, y) 3 := by kernel_rfl
set_option tactic.hygienic false in
theorem sq43_4 (x y : Int) : T.pathR [false, false, false, false] (runM F12 s_sqrt [.el 43 x y, .tup (elsS 43 (rootsL 43))]) = treeSN 43 (x, y) := by kernel_rfl
noncomputable def gtS (r o : PP) : Bool := if r.2 == o.2 then (if r.1 == o.1 then false else decide (o.1 < r.1)) else decide (o.2 < r.2)
noncomputable def bigS (p : Int) (r : PP) : PP := match gtS r (oppS p r) with
  | true => r
  | false => oppS p r
noncomputable def isNoneV : SV → Bool
  | .none => true
  | _ => false
set_option tactic.hygienic false in
theorem isNoneV_eq {w : SV} (h : isNoneV w = true) : w = .none := by cases w <;> first | rfl | cases h
noncomputable def kOf (p : Int) (K : SV → Prop) : Option PP → Prop
  | some r => K (elS p (bigS p r))
  | none => K .none
noncomputable def svIs (p : Int) (w : SV) (o : Option PP) : Bool := match o with
  | some r => elIs w p (bigS p r).1 (bigS p r).2
  | none => isNoneV w
noncomputable def walkOK (p : Int) (o : Option PP) (t : T Unit SV) : Bool := match t.walk with
  | some w => svIs p w o
  | none => false
noncomputable def sqOK (p : Int) (x y : Nat) : Bool := match Nat.beq x 0 && Nat.beq y 0 with
  | true => true
  | false => walkOK p (rootS p (x, y)) (treeSq p (x, y) 0) || (walkOK p (rootS p (x, y)) (treeSq p (x, y) 1) || (walkOK p (rootS p (x, y)) (treeSq p (x, y) 2) || (walkOK p (rootS p (x, y)) (treeSq p (x, y) 3) || walkOK p (rootS p (x, y)) (treeSN p (x, y)))))
set_option tactic.hygienic false in
theorem sqAll19 : allN (fun x => allN (sqOK 19 x) 19) 19 = true := by kernel_rfl
set_option tactic.hygienic false in
theorem sqAll43 : allN (fun x => allN (sqOK 43 x) 43) 43 = true := by kernel_rfl
set_option tactic.hygienic false in
theorem svIs_le {p : Int} {w : SV} {o : Option PP} {K : SV → Prop} {t : T Unit SV} (h : svIs p w o = true) (hw : t.walk = some w) (hk : kOf p K o) : t.Holds K (fun _ => False) := by
  rcases o with _ | r
  ·
    obtain rfl := isNoneV_eq h
    exact T.walk_holds (K := K) hk hw
  ·
    have h : elIs w p (bigS p r).1 (bigS p r).2 = true := h
    unfold elIs at h
    split at h
    · simp only [Bool.and_eq_true, beq_iff_eq] at h
      obtain ⟨rfl, rfl, rfl⟩ := h
      exact T.walk_holds hk hw
    · cases h
noncomputable def sqT (p : Int) (o : Option PP) : T Unit SV := .dec o.isSome (.ret (elS p (bigS p (o.getD (0, 0))))) (.ret .none)
theorem walkOK_le {p : Int} {o : Option PP} {t : T Unit SV} (h : walkOK p o t = true) : TLe (sqT p o) t := ⟨fun K _ hk => by
  unfold walkOK at h
  split at h
  · next w hw =>
    refine svIs_le h hw ?_
    rcases o with _ | r
    · exact hk.2 rfl
    · exact hk.1 rfl
  · cases h⟩
set_option tactic.hygienic false in
theorem or5 {a b c d e : Bool} {P : Prop} (h : (a || (b || (c || (d || e)))) = true) (h1 : a = true → P) (h2 : b = true → P) (h3 : c = true → P) (h4 : d = true → P) (h5 : e = true → P) : P := by
  simp only [Bool.or_eq_true] at h
  rcases h with h | h | h | h | h
  · exact h1 h
  · exact h2 h
  · exact h3 h
  · exact h4 h
  · exact h5 h
set_option tactic.hygienic false in
theorem sq_any {p : Int} (hp : isP p = true) {x y : Int} (h : (walkOK p (rootS p (x, y)) (treeSq p (x, y) 0) || (walkOK p (rootS p (x, y)) (treeSq p (x, y) 1) || (walkOK p (rootS p (x, y)) (treeSq p (x, y) 2) || (walkOK p (rootS p (x, y)) (treeSq p (x, y) 3) || walkOK p (rootS p (x, y)) (treeSN p (x, y)))))) = true) :
    TLe (sqT p (rootS p (x, y))) (runM F12 s_sqrt [.el p x y, .tup (elsS p (rootsL p))]) := by
  rcases isP_cases hp with rfl | rfl
  · exact or5 h (fun q => (walkOK_le q).trans (TLe.pathR (sq19_0 x y))) (fun q => (walkOK_le q).trans (TLe.pathR (sq19_1 x y))) (fun q => (walkOK_le q).trans (TLe.pathR (sq19_2 x y))) (fun q => (walkOK_le q).trans (TLe.pathR (sq19_3 x y))) (fun q => (walkOK_le q).trans (TLe.pathR (sq19_4 x y)))
  · exact or5 h (fun q => (walkOK_le q).trans (TLe.pathR (sq43_0 x y))) (fun q => (walkOK_le q).trans (TLe.pathR (sq43_1 x y))) (fun q => (walkOK_le q).trans (TLe.pathR (sq43_2 x y))) (fun q => (walkOK_le q).trans (TLe.pathR (sq43_3 x y))) (fun q => (walkOK_le q).trans (TLe.pathR (sq43_4 x y)))
theorem sq_all {p : Int} (hp : isP p = true) {x y : Int} (hx : 0 ≤ x) (hx' : x < p) (hy : 0 ≤ y) (hy' : y < p) (h : nz (x, y) = true) : TLe (sqT p (rootS p (x, y))) (runM F12 s_sqrt [.el p x y, .tup (elsS p (rootsL p))]) := by
  have key : ∀ a b : Nat, a < p.toNat → b < p.toNat → sqOK p a b = true := by
    rcases isP_cases hp with rfl | rfl
    · exact fun a b ha hb => allN_get (f := sqOK 19 a) (allN_get (f := fun x => allN (sqOK 19 x) 19) sqAll19 ha) hb
    · exact fun a b ha hb => allN_get (f := sqOK 43 a) (allN_get (f := fun x => allN (sqOK 43 x) 43) sqAll43 ha) hb
  have := key x.toNat y.toNat (by omega) (by omega)
  unfold sqOK at this
  rw [show ((x.toNat : Nat) : Int) = x by omega, show ((y.toNat : Nat) : Int) = y by omega] at this
  split at this
  · next q =>
    simp only [Bool.and_eq_true, Nat.beq_eq] at q
    have e1 : x = 0 := by omega
    have e2 : y = 0 := by omega
    rw [e1, e2] at h
    cases h
  · exact sq_any hp this
noncomputable def isElA (p : Int) (a : PP) : SV → Bool
  | .el q u w => q == p && (u == a.1 && w == a.2)
  | _ => false
noncomputable def hdT {α : Type} (f : α → Bool) (g : List α → Bool) : List α → Bool
  | [] => false
  | x :: r => f x && g r
set_option tactic.hygienic false in
theorem hdT_ok {α : Type} {f : α → Bool} {g : List α → Bool} : ∀ {l : List α}, hdT f g l = true → ∃ x r, l = x :: r ∧ f x = true ∧ g r = true
  | [], h => Bool.noConfusion h
  | x :: r, h => ⟨x, r, rfl, (Bool.and_eq_true _ _).mp h⟩
noncomputable def isEls (p : Int) : List PP → List SV → Bool
  | [] => List.isEmpty
  | a :: l => hdT (isElA p a) (isEls p l)
set_option tactic.hygienic false in
theorem isElA_eq {p : Int} {a : PP} {x : SV} (h : isElA p a x = true) : x = .el p a.1 a.2 := by
  cases x <;> (try exact Bool.noConfusion h)
  simp only [isElA, Bool.and_eq_true, beq_iff_eq] at h
  rw [h.1, h.2.1, h.2.2]
set_option tactic.hygienic false in
theorem isEls_eq {p : Int} (l : List PP) : ∀ {m : List SV}, isEls p l m = true → m = elsS p l := by
  induction l with
  | nil => exact fun h => List.isEmpty_iff.mp h
  | cons a l ih =>
    intro m h
    obtain ⟨x, r, rfl, h1, h2⟩ := hdT_ok h
    rw [isElA_eq h1, ih h2]
    rfl
noncomputable def gSqrt : List SV → T Unit SV
  | [v, t] => elQ (fun p x => tupQ (fun l => gtQ (isP p && isEls p (rootsL p) l) (.need (nz x) (sqT p (rootS p x)))) t) v
  | _ => .stuck
set_option tactic.hygienic false in
theorem sqrt_con (args : List SV) : Con 12 64 args (gSqrt args) := by
  rcases args with _ | ⟨v, _ | ⟨t, _ | ⟨_, _⟩⟩⟩ <;> (try exact Con.stuck _ _ _)
  dsimp only [gSqrt]
  refine elQ_con (a := fun v => [v, t]) fun p x y => ?_
  try dsimp only
  refine tupQ_P (P := fun t k => Con 12 64 [.el p x y, t] k) (fun _ => Con.stuck _ _ _) fun l => ?_
  refine gtQ_P (Con.stuck _ _ _) fun hp => ?_
  simp only [Bool.and_eq_true] at hp
  obtain ⟨hp, hl⟩ := hp
  obtain rfl := isEls_eq _ hl
  refine Con.facts (P := 0 ≤ x ∧ x < p ∧ 0 ≤ y ∧ y < p) (fun W vals hv => ?_) fun hr => (runM_con fok_sqrt F12_ok _).conv (TLe.need fun h => ?_)
  · simp only [VRs, VR] at hv
    obtain ⟨_, _, _, ⟨_, _, e⟩, _⟩ := hv
    exact e.rng.2.2
  · exact sq_all hp hr.1 hr.2.1 hr.2.2.1 hr.2.2.2 h
noncomputable def F13 : Nat → List SV → T Unit SV := addF 64 gSqrt (addF 319 gRoot F12)
set_option tactic.hygienic false in
theorem F13_ok : FOK 12 F13 := FOK.add (FOK.add (F12_ok.le (by decide)) root_con) sqrt_con
/-- the text of an error -/
inductive RA where
  | cst (s : Str)
  | joi (s : Str) (v : Expr)
  | bad
noncomputable def strC : Expr → Option Str
  | .Constant c _ _ => match c with
    | .str s => some s
    | _ => none
  | _ => none
theorem strC_form {x : Expr} {s : Str} (h : strC x = some s) : ∃ a b, x = .Constant (.str s) a b := by
  refine hold fun P hP => ?_
  cases x <;> (try exact none_neC h)
  rename_i c a b
  cases c <;> (try exact none_neC h)
  rw [← Option.some.inj h] at hP
  exact hP ⟨_, _, rfl⟩
noncomputable def fmtV : Expr → Option (Expr × Int)
  | .FormattedValue v c f _ => match f with
    | none => some (v, c)
    | some _ => none
  | _ => none
theorem fmtV_form {x : Expr} {u : Expr × Int} (h : fmtV x = some u) : ∃ a, x = .FormattedValue u.1 u.2 none a := by
  refine hold fun P hP => ?_
  cases x <;> (try exact none_neC h)
  rename_i v c f a
  cases f <;> (try exact none_neC h)
  rw [← Option.some.inj h] at hP
  exact hP ⟨_, rfl⟩
noncomputable def joiOf (es : List Expr) : RA := match es with
  | [x, y] => match strC x with
    | some s => match fmtV y with
      | some u => match decide (u.2 = -1) && Nat.blt s.length 1000 with
        | true => .joi s u.1
        | false => .bad
      | none => .bad
    | none => .bad
  | _ => .bad
noncomputable def raOf (x : Expr) : RA := match strC x with
  | some s => .cst s
  | none => match x with
    | .JoinedStr es _ => joiOf es
    | _ => .bad
noncomputable def raIn (x : Expr) : RA → Prop
  | .cst s => ∃ a b, x = .Constant (.str s) a b
  | .joi s v => ∃ a b c d, x = .JoinedStr [.Constant (.str s) a b, .FormattedValue v (-1) none c] d ∧ Nat.blt s.length 1000 = true
  | .bad => True
theorem raOf_in (x : Expr) : raIn x (raOf x) := by
  unfold raOf
  cases e : strC x with
  | some s => exact strC_form e
  | none =>
    clear e
    cases x <;> (try exact trivial)
    rename_i es d
    rcases es with _ | ⟨x, _ | ⟨y, _ | ⟨_, _⟩⟩⟩ <;> (try exact trivial)
    show raIn _ (joiOf [x, y])
    dsimp only [joiOf]
    cases e1 : strC x with
    | none => trivial
    | some s => cases e2 : fmtV y with
      | none => trivial
      | some u =>
       dsimp only
       cases e3 : decide (u.2 = -1) && Nat.blt s.length 1000 with
        | false => trivial
        | true =>
          obtain ⟨a, b, rfl⟩ := strC_form e1
          obtain ⟨c, rfl⟩ := fmtV_form e2
          obtain ⟨e3, e4⟩ := Bool.and_eq_true_iff.mp e3
          obtain ⟨v, i⟩ := u
          have e3 : i = -1 := of_decide_eq_true e3
          subst e3
          exact ⟨a, b, c, d, rfl, e4⟩
noncomputable def smallD (v : SV) : Bool := match asI v with
  | some (_, _, some b) => Nat.ble b (2 ^ 1900)
  | _ => false
noncomputable def rsE (r : Ev) (a : Expr) (st : St) : TS Unit := match raOf a with
  | .cst _ => .ret ((), st)
  | .joi _ v => (r.e v st).bind fun b => match smallD b.1 with
    | true => .ret ((), b.2)
    | false => .stuck
  | .bad => .stuck
noncomputable def raOk (a : Expr) : Bool := match raOf a with
  | .bad => false
  | _ => true
noncomputable def rzOf (x : Expr) : Option (Str × Expr) := match nmCl x with
  | some r => match oneX r.2 with
    | some a => match raOk a with
      | true => some (r.1, a)
      | false => none
    | none => none
  | none => none
set_option tactic.hygienic false in
theorem rzOf_form {e : Expr} {x : Str} {a : Expr} (q : rzOf e = some (x, a)) : ∃ np cpos, e = .Call (.Name x np) [a] [] cpos ∧ raOk a = true := by
  unfold rzOf at q
  cases e1 : nmCl e with
  | none => rw [e1] at q; exact none_neC q
  | some r =>
  rw [e1] at q
  dsimp only at q
  cases e2 : oneX r.2 with
  | none => rw [e2] at q; exact none_neC q
  | some b =>
  rw [e2] at q
  dsimp only at q
  cases e3 : raOk b with
  | false => rw [e3] at q; exact none_neC q
  | true =>
  rw [e3] at q
  obtain ⟨h1, h2⟩ := Prod.mk.inj (Option.some.inj q)
  obtain ⟨np, cpos, rfl⟩ := nmCl_form e1
  rw [← h1, ← h2, oneX_eq e2]
  exact ⟨np, cpos, rfl, e3⟩
noncomputable def isTy : SV → Bool
  | .ty Option.none => true
  | _ => false
noncomputable def rzV (C : Cx) (r : Ev) (e : Expr) (st : St) : TS Fl := match rzOf e with
  | some (x, a) => (nameV C x st).bind fun v => match isTy v.1 with
    | true => (rsE r a v.2).bind fun b => .exc b.2
    | false => .stuck
  | none => .stuck
noncomputable def exS1 (C : Cx) (r : Ev) (k : Nat) (xs : List Stmt → St → TS Fl) (s : Stmt) (st : St) : TS Fl := match s with
  | .If test b o _ => (r.t test st).bind fun c => br c.1 (xs b c.2) (xs o c.2)
  | .Raise (some e) none _ => rzV C r e st
  | s => exS2 C r k (exN C k) s st
noncomputable def exN1 (C : Cx) : Nat → List Stmt → St → TS Fl
  | 0, _, _ => .stuck
  | _ + 1, [], st => .ret (.next, st)
  | k + 1, s :: rest, st => (exS1 C (ev2 C k) k (exN1 C k) s st).bind fun f => match f.1 with
    | .next => exN1 C k rest f.2
    | .ret v => .ret (.ret v, f.2)
section
variable {n : Nat} {X : Fx} {A : Around} {C : Cx} {r : Ev} {xs : List Stmt → St → TS Fl}
theorem smallD_log {v : SV} {W : Wd} {u : Value} (h : smallD v = true) (hv : VR W v u) : ∃ n t, u = .int n t ∧ n.natAbs.log2 < 1920 := by
  unfold smallD at h
  split at h
  · next k m b e =>
    obtain ⟨⟨t, rfl⟩, hb⟩ := asI_VR hv e
    refine ⟨m, t, rfl, ?_⟩
    have h := Nat.le_of_ble_eq_true h
    simp only [bdd] at hb
    by_cases hz : m.natAbs = 0
    · rw [hz]; decide
    · exact (Nat.log2_lt hz).mpr (Nat.lt_of_le_of_lt (Nat.le_trans hb h) (Nat.pow_lt_pow_right (by decide) (by decide)))
  · cases h
theorem rsE_sound {W : Wd} {st : St} {s : Shared} {Q : Value → Shared → Prop} {E : Value → Shared → Prop} {a : Expr} (hA : OKA n A) (he : SE X A r.e) (rp : Rep X W st s.heap)
    (h : (rsE r a st).Holds (fun b => ∀ s' W' u, W.le W' → Rep X W' b.2 s'.heap → Sh s s' → Q u s') (PostX X W s E)) : (∀ y p, a ≠ .Starred y p) ∧ wpAny (model PW X.w) A (eval a X.env) Q E s := by
  unfold rsE at h
  split at h
  · next q e =>
    have e' := raOf_in a
    rw [e] at e'
    obtain ⟨_, _, rfl⟩ := e'
    exact ⟨fun _ _ => by simp, wpAny_Constant_str (h _ W _ (.refl W) rp (.heap s _ _))⟩
  · next q v e =>
    have e' := raOf_in a
    rw [e] at e'
    obtain ⟨z1, z2, z3, z4, rfl, q2⟩ := e'
    · skip
      · skip
        have q2 := Nat.le_of_ble_eq_true q2
        refine ⟨fun _ _ => by simp, ?_⟩
        refine JoinedStr_many (joinParts_cons (wpAny_Constant_str ⟨?_, joinParts_cons (FormattedValue_plain ?_)⟩))
        · rw [strLen_append, sizeLine_eq]; show (Str.empty).length + _ ≤ _; have : (Str.empty).length = 0 := rfl; omega
        · refine se_bind he (s := { s with toks := s.toks + 1 }) rp h (fun _ z => z.step (.refl W) (.heap s _ _)) fun b s' W' u hb le rp' sh hv => ?_
          split at hb
          case h_2 => exact hb.elim
          next q3 =>
          obtain ⟨m, t, rfl, hl⟩ := smallD_log q3 hv
          refine wpAny_formatField_int hl ⟨?_, joinParts_nil ?_ ?_⟩
          · have := PyProof.Rows.int_text_len_1921 hl
            rw [strLen_append, strLen_append, sizeLine_eq]
            have e0 : (Str.empty).length = 0 := rfl
            rw [e0]
            omega
          · exact hb _ W' _ le rp' ((Sh.heap s s.heap _).trans (sh.trans (.heap s' _ _)))
          · have := PyProof.Rows.int_text_len_1921 hl
            rw [strLen_append, strLen_append, sizeLine_eq]
            have e0 : (Str.empty).length = 0 := rfl
            rw [e0]
            omega
  · exact h.elim
theorem rzV_sound {W : Wd} {st : St} {s : Shared} {Q : Flow → Shared → Prop} {E : Value → Shared → Prop} {e : Expr} {pos : Pos} (ok : FxOK X) (co : CxOK n C X) (hA : OKA n A) (he : SE X A r.e) (rp : Rep X W st s.heap) (h : (rzV C r e st).Holds (PostF X W s Q) (PostX X W s E)) :
    wpAny (model PW X.w) A (exec (.Raise (some e) none pos) X.env) Q E s := by
  unfold rzV at h
  split at h
  case h_2 => exact h.elim
  next x a q =>
  obtain ⟨np, cpos, rfl, hra⟩ := rzOf_form q
  have key : ∀ Q', (∀ (s' : Shared) (W' : Wd) (v : SV × St), W.le W' → Rep X W' v.2 s'.heap → Sh s s' → isTy v.1 = true → ((rsE r a v.2).bind fun b => (.exc b.2 : TS Fl)).Holds (PostF X W s Q) (PostX X W s E) → Q' (.type "ValueError") s') → wpAny (model PW X.w) A (eval (.Name x np) X.env) Q' E s := by
    intro Q' hq
    refine nameV_sound ok co rp ((T.holds_bind h).mono (fun v hv s' W' u le rp' sh hu => ?_) fun _ z => z)
    split at hv
    case h_2 => exact hv.elim
    next q2 =>
    have : u = .type "ValueError" := by
      unfold isTy at q2
      split at q2
      · next e1 => rw [e1] at hu; simpa only [VR, tyR] using hu
      · cases q2
    subst this
    exact hq s' W' v le rp' sh q2 hv
  have ns : ∀ y p, a ≠ .Starred y p := by
    intro y p e
    subst e
    cases hra
  have st1 : starEach [a] X.env = (false, eval a X.env) :: starEach [] X.env := by
    cases a <;> first | rfl | exact absurd rfl (ns _ _)
  refine Raise_madeB PySem.F.excCall_ValueError PySem.F.excRaise_ValueError hA.h (key _ fun s' W' v le rp' sh _ hv => ⟨rfl, ?_⟩) st1
  refine PyProof.Rows.spliced_more (rsE_sound (Q := fun v₁ s₁ => wpAny (model PW X.w) A (spliced (backTo cpos (starEach [] X.env))) _ E s₁) hA he rp' ((T.holds_bind hv).mono (fun b hb s₂ W₂ u le₂ rp₂ sh₂ => ?_) fun _ z => z.step le sh)).2 st1
  refine PyProof.Rows.spliced_none ⟨by rw [sizeLine_eq]; show 1 ≤ 16777216; decide, fun h' e hm => ?_⟩
  have rp₃ := rp₂.grow hm.keeps
  obtain ⟨t, ht, _⟩ := hm.there
  exact hb { s₂ with heap := h' } W₂ e (le.trans le₂) rp₃ ((sh.trans sh₂).trans (.heap s₂ h' _)) ⟨(rp₂.z.none_of hm.new).1, t, ht⟩
theorem exS1_cs {C : Cx} {r : Ev} {k : Nat} {xs : List Stmt → St → TS Fl} {st : St} {M : Stmt → Prop} (hd : ∀ x, exS1 C r k xs x st = exS2 C r k (exN C k) x st → M x) (c2 : ∀ t b o p, M (.If t b o p)) (c1 : ∀ e pos, M (.Raise (some e) none pos)) (x : Stmt) : M x := by
  cases x <;> (try exact hd _ rfl)
  case Raise e c p => cases e with
    | none => exact hd _ rfl
    | some e => cases c with
      | none => exact c1 _ _
      | some _ => exact hd _ rfl
  case If => exact c2 _ _ _ _
set_option tactic.hygienic false in
theorem exS1_sound (ok : FxOK X) (co : CxOK n C X) (hc : CellsOK C X) (hA : OKA n A) (k : Nat) (he : SE X A r.e) (ht : STt X A r.t) (hx : SX X A xs) (x : Stmt) (st : St) (W : Wd) (s : Shared) (Q : Flow → Shared → Prop) (E : Value → Shared → Prop) (rp : Rep X W st s.heap) :
    (exS1 C r k xs x st).Holds (PostF X W s Q) (PostX X W s E) → wpAny (model PW X.w) A (exec x X.env) Q E s := by
  have D : ∀ x, (exS2 C r k (exN C k) x st).Holds (PostF X W s Q) (PostX X W s E) → wpAny (model PW X.w) A (exec x X.env) Q E s := fun x h => exS2_sound ok co hc hA k he ht (fun X' kx => exN_sound hA k kx.ok kx.co kx.hc) x st W s Q E rp h
  refine exS1_cs (C := C) (r := r) (k := k) (xs := xs) (st := st) (M := fun x => (exS1 C r k xs x st).Holds (PostF X W s Q) (PostX X W s E) → wpAny (model PW X.w) A (exec x X.env) Q E s) (fun x e h => D x (e ▸ h)) ?_ ?_ x
  · intro _ _ _ _ h
    dsimp only [exS1] at h
    refine wpAny_If (ht _ st W s _ _ rp ((T.holds_bind h).mono (fun c hcc s' W' b le rp' sh hb => ?_) fun _ z => z))
    have hh := holds_br hcc hb
    cases b with
    | true => exact hx _ _ W' s' Q E rp' (hh.mono (fun _ z => z.step le sh) fun _ z => z.step le sh)
    | false => exact hx _ _ W' s' Q E rp' (hh.mono (fun _ z => z.step le sh) fun _ z => z.step le sh)
  · intro e pos h
    exact rzV_sound ok co hA he rp h
end
theorem exN1_sound {n : Nat} {A : Around} {C : Cx} (hA : OKA n A) : ∀ k {X : Fx}, FxOK X → CxOK n C X → CellsOK C X → SX X A (exN1 C k)
  | 0, _, _, _, _ => fun _ _ _ _ _ _ _ h => h.elim
  | k + 1, X, ok, co, hc => fun b st W s Q E rp h => by
    cases b with
    | nil => exact wpAny_execs_nil (h s W (.refl W) rp (.refl s))
    | cons x rest =>
      obtain ⟨he, ht⟩ := ev2_sound (n := n) (A := A) ok co hc hA k
      refine wpAny_execs_cons (exS1_sound ok co hc hA k he ht (exN1_sound hA k ok co hc) x st W s _ E rp ((T.holds_bind h).mono (fun f hf s' W' le rp' sh => ?_) fun _ z => z))
      split at hf
      · next e => (try rw [e]); exact exN1_sound hA k ok co hc rest f.2 W' s' Q E rp' (hf.mono (fun _ z => z.step le sh) fun _ z => z.step le sh)
      · next v e => (try rw [e]); intro u hu; exact hf s' W' le rp' sh u hu
noncomputable def outT1 : TS Fl → T Unit SV
  | .ret (.next, _) => .ret .none
  | .ret (.ret v, st) => match resV st v with
    | some r => .ret r
    | none => .stuck
  | .dec b t e => .dec b (outT1 t) (outT1 e)
  | .need b t => .need b (outT1 t)
  | .exc _ => .exc ()
  | .stuck => .stuck
theorem holds_out1 {K : SV → Prop} {KX : Unit → Prop} : ∀ {t : TS Fl}, (outT1 t).Holds K KX → t.Holds (fun r => match r.1 with | .next => K .none | .ret v => ∃ x, resV r.2 v = some x ∧ K x) (fun _ => KX ())
  | .ret (.next, _), h => h
  | .ret (.ret v, st), h => by
    unfold outT1 at h
    split at h
    · next r e => exact ⟨r, e, h⟩
    · exact h.elim
  | .dec _ _ _, h => ⟨fun q => holds_out1 (h.1 q), fun q => holds_out1 (h.2 q)⟩
  | .need _ _, h => ⟨h.1, holds_out1 h.2⟩
  | .exc _, h => h
  | .stuck, h => h
noncomputable def run1 (names : List (Str × NameKind)) (glo : List (Str × SV)) (F : Nat → List SV → T Unit SV) (k : Nat) (ps : List Str) (body : List Stmt) (args : List SV) : T Unit SV := match initS names ps args with
  | some (a, b) => match nodupS ps with
    | true => outT1 (exN1 ⟨names, glo, F⟩ k body ⟨a, b, []⟩)
    | false => .stuck
  | none => .stuck
noncomputable def outL (outs : List Env) : List Addr := outs.filterMap (·.frame)
structure FrOK (A : Around) (h : Heap) (outs : List Env) : Prop where
  fr : A.frames = some outs
  each : ∀ env ∈ outs, env.scope.kind ≠ .module ∧ ∃ L m, env.frame = some L ∧ h.Ns L m ∧ L ≠ PT ∧ @LE.le Nat _ 372 L
/-- what stays when an exception goes its way -/
structure WPost (outs : List Env) (s s' : Shared) : Prop where
  tab : TabOK s'.heap
  keep : ∀ b o, b ∉ outL outs → b ≠ PT → s.heap.get? b = some o → s'.heap.get? b = some o
  ups : s.heap.UpToSlots s'.heap
  sh : Sh s s'
/-- an exception on its way -/
structure Fly (outs : List Env) (s s' : Shared) (e : Addr) : Prop where
  w : WPost outs s s'
  f : ∃ base a0, Heap.FlyingW base outs e (.type "ValueError") a0 s'.heap ∧ (∀ b o, b ∉ outL outs → b ≠ PT → s.heap.get? b = some o → base.get? b = some o) ∧ TabOK base
noncomputable def ConE (n : Nat) (f : Nat) (args : List SV) (t : T Unit SV) : Prop :=
  ∀ (w : World) (mg mb : Str → Option Value) (A : Around) (s : Shared) (H HL : Addr → Obj → Prop) (vals : List Value) (outs : List Env) (Q E : Value → Shared → Prop), OKC n A → FrOK A s.heap outs → CallPre w mg mb s H HL → VRs ⟨H, HL, []⟩ args vals →
    t.Holds (fun r => ∀ s' H' HL' u, CallPost s H s' H' HL' → VR ⟨H', HL', []⟩ r u → Q u s') (fun _ => ∀ s' e, Fly outs s s' e → E (.ref e) s') →
    wpAny (model PySem.Challenge.pw_lh0035_01 w) A (call (.ref f) vals) Q E s
set_option tactic.hygienic false in
theorem hides (l : List Addr) (h : Heap) : ∃ h0 : Heap, (∀ b ∈ l, h0.get? b = none) ∧ ∀ b, b ∉ l → h0.get? b = h.get? b := by
  induction l with
  | nil => exact ⟨h, fun _ q => (nomatch q), fun _ _ => rfl⟩
  | cons a l ih =>
    obtain ⟨h1, e1, e2⟩ := ih
    obtain ⟨h0, e3, e4⟩ := hide h1 a
    refine ⟨h0, fun b hb => ?_, fun b hb => ?_⟩
    · by_cases q : b = a
      · rw [q]; exact e3
      · rcases List.mem_cons.mp hb with w | w
        · exact absurd w q
        · rw [e4 b q]; exact e1 b w
    · have hb := not_or.mp (fun w => hb (List.mem_cons.mpr w))
      rw [e4 b hb.1]; exact e2 b hb.2
set_option tactic.hygienic false in
theorem FrOK.funs {h base : Heap} : ∀ {outs : List Env}, (∀ env ∈ outs, env.scope.kind ≠ .module ∧ ∃ L m, env.frame = some L ∧ h.Ns L m ∧ L ≠ PT ∧ @LE.le Nat _ 372 L) → (∀ b ∈ outL outs, base.get? b = none) → h.FunFrames base outs
  | [], _, _ => trivial
  | env :: outs, k, hb => by
    obtain ⟨k1, L, m, k2, k3, _⟩ := k env List.mem_cons_self
    have e : outL (env :: outs) = L :: outL outs := by unfold outL; rw [List.filterMap_cons, k2]
    rw [e] at hb
    exact Heap.FunFrames.cons k1 k2 k3 (hb L List.mem_cons_self) (FrOK.funs (fun e he => k e (List.mem_cons_of_mem _ he)) fun b q => hb b (List.mem_cons_of_mem _ q))
set_option tactic.hygienic false in
theorem outL_mem {outs : List Env} {b : Addr} (h : b ∈ outL outs) : ∃ env ∈ outs, env.frame = some b := by
  unfold outL at h
  obtain ⟨env, h1, h2⟩ := List.mem_filterMap.mp h
  exact ⟨env, h1, h2⟩
/-- the run of a def that may raise -/
theorem run1_core {n f k : Nat} {ps : List Str} {body : List Stmt} {names : List (Str × NameKind)} {glo : List (Str × SV)} {F : Nat → List SV → T Unit SV} (fok : FnOK f ps body names) (hF : FOK n F) (hg : GloOK ⟨names, glo, F⟩) (args : List SV)
    {w : World} {mg mb : Str → Option Value} {A : Around} {s : Shared} {H HL : Addr → Obj → Prop} {vals : List Value} {Q E : Value → Shared → Prop} (hA : OKC (n + 1) A) (pre : CallPre w mg mb s H HL) (hv : VRs ⟨H, HL, []⟩ args vals) (Ex : Env → Value → Shared → Prop)
    (hEx : ∀ env e s', Ex env e s' → wpAny (model PW w) (A.deeper env) (leaving env e) (fun _ s'' => E e s'') (fun e' s'' => E e' s'') s')
    (hh : (run1 names glo F k ps body args).Holds (fun r => ∀ s' H' HL' u, CallPost s H s' H' HL' → VR ⟨H', HL', []⟩ r u → Q u s') (fun _ => ∀ (X : Fx) W st s' ea, X.h0 = s.heap → X.env.frame = some X.L → FxOK X → Rep X W st s'.heap → Sh s s' → VErr X s'.heap ea → Ex X.env (.ref ea) s')) :
    wpAny (model PW w) A (call (.ref f) vals) Q E s := by
  unfold run1 at hh
  split at hh
  · next a b e =>
    split at hh
    · next nd =>
      refine wpAny_call (enter fok hF hg Ex hEx hA pre hv e nd fun X hp tk ok co hc hA' hw hX0 hXH _ _ hcd rep => ?_)
      subst hw
      have callP : ∀ {s' : Shared} {W' : Wd} {st' : St} {HL' : Addr → Obj → Prop}, (∀ a o, H a o → W'.H a o) → Rep X W' st' s'.heap → Sh { s with heap := hp, toks := tk } s' → (∀ b o, HL' b o → s'.heap.get? b = some o ∧ s.heap.get? b = none) → CallPost s H s' W'.H HL' := fun kh r' sh' hl => by
        refine ⟨r'.z.tab, hX0 ▸ r'.z.base, kh, fun b o q => ⟨r'.z.sub b o q, hX0 ▸ hXH ▸ r'.z.solid b o q⟩, hl, ⟨sh'.d, sh'.o, sh'.g⟩⟩
      refine exN1_sound hA' k ok co hc body ⟨a, b, []⟩ ⟨H, HL, []⟩ _ _ _ rep ((holds_out1 hh).mono (fun r hr s' W' le r' sh' => ?_) fun σ hx => fun s' W' ea le r' sh' ve => hx X W' σ s' ea hX0 (let ⟨_, _, _, _, _, q⟩ := hcd; q) ok r' ⟨sh'.d, sh'.o, sh'.g⟩ ve)
      · split at hr
        · next q =>
          try rw [q]
          exact hr s' W'.H (fun _ _ => False) .none (callP le.h r' sh' fun _ _ z => z.elim) (by simp only [VR])
        · next v q =>
          try rw [q]
          intro u hu
          obtain ⟨y, q2, hr⟩ := hr
          have etaF : ∀ (i : Nat) (b : Addr), W'.eta[i]? = some b → s.heap.get? b = none := fun i b q => by
            have hlt : i < r.2.mls.length := r'.l.len ▸ (List.getElem?_eq_some_iff.mp q).1
            obtain ⟨c, hc, d⟩ := r'.l.at_ i (r.2.mls[i]).1 (r.2.mls[i]).2 (List.getElem?_eq_getElem hlt)
            rw [q] at hc
            cases hc
            exact hX0 ▸ d.new
          refine hr s' W'.H (fun b o => (∃ i : Nat, W'.eta[i]? = some b) ∧ s'.heap.get? b = some o) u (callP le.h r' sh' fun b o z => ⟨z.2, let ⟨i, hi⟩ := z.1; etaF i b hi⟩) ?_
          unfold resV at q2
          split at q2
          · next i =>
            split at q2
            · next fz l q3 =>
              split at q2
              · next q4 =>
                cases q2
                simp only [VR] at hu ⊢
                obtain ⟨ad, rfl, ha⟩ := hu
                obtain ⟨a', ha', d⟩ := r'.l.at_ _ _ _ q3
                rw [ha] at ha'
                cases ha'
                obtain ⟨o, items, g, y, z, _⟩ := d.at_
                exact ⟨ad, o, items, rfl, ⟨⟨i, ha⟩, g⟩, y, VRs.out (W := W') (W' := ⟨W'.H, fun b o => (∃ i : Nat, W'.eta[i]? = some b) ∧ s'.heap.get? b = some o, []⟩) (fun _ _ h => h) q4 z⟩
              · cases q2
            · cases q2
          · split at q2
            · next q4 => cases q2; exact VR.out (W := W') (W' := ⟨W'.H, fun b o => (∃ i : Nat, W'.eta[i]? = some b) ∧ s'.heap.get? b = some o, []⟩) (fun _ _ h => h) q4 hu
            · cases q2
    · exact hh.elim
  · exact hh.elim
set_option tactic.hygienic false in
theorem run1_con {n f k : Nat} {ps : List Str} {body : List Stmt} {names : List (Str × NameKind)} {glo : List (Str × SV)} {F : Nat → List SV → T Unit SV} (fok : FnOK f ps body names) (hF : FOK n F) (hg : GloOK ⟨names, glo, F⟩) (args : List SV) :
    Con (n + 1) f args (run1 names glo F k ps body args) := fun _ _ _ _ _ _ _ _ _ _ hA pre hv hh =>
  run1_core fok hF hg args hA pre hv (fun _ _ _ => False) (fun _ _ _ z => z.elim) (hh.mono (fun _ z => z) fun _ z => z.elim)
set_option tactic.hygienic false in
theorem run1_conE {n f k : Nat} {ps : List Str} {body : List Stmt} {names : List (Str × NameKind)} {glo : List (Str × SV)} {F : Nat → List SV → T Unit SV} (fok : FnOK f ps body names) (hF : FOK n F) (hg : GloOK ⟨names, glo, F⟩) (args : List SV) :
    ConE (n + 1) f args (run1 names glo F k ps body args) := fun w mg mb A s H HL vals outs Q E hA hfr pre hv hh => by
  refine run1_core fok hF hg args hA pre hv (fun env e s' => ∃ X W st ea, X.env = env ∧ e = .ref ea ∧ X.h0 = s.heap ∧ X.env.frame = some X.L ∧ FxOK X ∧ Rep X W st s'.heap ∧ Sh s s' ∧ VErr X s'.heap ea ∧ ∀ s' e, Fly outs s s' e → E (.ref e) s') (fun env e s' z => ?_)
    (hh.mono (fun _ z => z) fun _ z X W st s' ea h0 hfm ok rp sh ve => ⟨X, W, st, ea, rfl, rfl, h0, hfm, ok, rp, sh, ve, z⟩)
  obtain ⟨X, W, st, ea, rfl, rfl, h0, hfm, ok, rp, sh, ⟨ve1, t, ve2⟩, z⟩ := z
  obtain ⟨m, hm, _⟩ := rp.n.ns
  have hk : X.env.scope.kind ≠ .module := by rw [show X.env.scope.kind = .function from ok.kind]; decide
  have outs' : ∀ env ∈ outs, env.scope.kind ≠ .module ∧ ∃ L m, env.frame = some L ∧ s'.heap.Ns L m ∧ L ≠ PT ∧ @LE.le Nat _ 372 L := fun env he => by
    obtain ⟨k1, L, m, k2, k3, k4⟩ := hfr.each env he
    exact ⟨k1, L, m, k2, k3.at' fun o e => rp.z.base L o k4.1 (h0 ▸ e), k4⟩
  have all : ∀ env ∈ X.env :: outs, env.scope.kind ≠ .module ∧ ∃ L m, env.frame = some L ∧ s'.heap.Ns L m ∧ L ≠ PT ∧ @LE.le Nat _ 372 L := fun env he => by
    rcases List.mem_cons.mp he with rfl | he
    · exact ⟨hk, X.L, m, hfm, hm, rp.n.own.ne_pt ok, ok.big⟩
    · exact outs' env he
  obtain ⟨base, b1, b2⟩ := hides (ea :: outL (X.env :: outs)) s'.heap
  have hPT : PT ∉ ea :: outL (X.env :: outs) := fun q => by
    rcases List.mem_cons.mp q with q | q
    · obtain ⟨o, ho⟩ := ok.pt
      rw [← q, ho] at ve1
      cases ve1
    · obtain ⟨env, he, hf⟩ := outL_mem q
      obtain ⟨_, L, m, k2, _, k4⟩ := all env he
      rw [hf] at k2
      cases k2
      exact k4.1 rfl
  have hL : outL (X.env :: outs) = X.L :: outL outs := by unfold outL; rw [List.filterMap_cons, hfm]
  have st' : base.StaysIn s'.heap := fun b o q => by
    by_cases w : b ∈ ea :: outL (X.env :: outs)
    · rw [b1 b w] at q; cases q
    · rw [← b2 b w]; exact q
  have hf : s'.heap.FunFrames base (X.env :: outs) := FrOK.funs all fun b q => b1 b (List.mem_cons_of_mem _ q)
  refine wpAny_leaving_firstW (base := base) (a0 := .ref t) (L := X.L) (Around.frames_deeper hfr.fr) hf hfm ve2 st' (b1 ea List.mem_cons_self) rfl rfl rfl fun h' hl => ?_
  obtain ⟨l1, l2, l3, l4⟩ := hl
  have keepB : ∀ b o, b ∉ outL outs → b ≠ PT → s.heap.get? b = some o → base.get? b = some o := fun b o w w2 q => by
    have q' := rp.z.base b o w2 (h0 ▸ q)
    rw [b2 b fun w3 => ?_]
    · exact q'
    · rcases List.mem_cons.mp w3 with w3 | w3
      · rw [w3, ← h0, ve1] at q; cases q
      · rw [hL] at w3
        rcases List.mem_cons.mp w3 with w3 | w3
        · have := rp.n.own.1
          rw [h0, ← w3, q] at this
          cases this
        · exact w w3
  have tb : TabOK base := rp.z.tab.at fun o e => by rw [b2 _ hPT]; exact e
  refine z _ ea ⟨⟨tb.at fun o e => l1 _ o e, fun b o w w2 q => l1 b o (keepB b o w w2 q), fun b o q hd => ?_, ⟨sh.d, sh.o, sh.g⟩⟩, base, .ref t, ⟨l1, b1 ea List.mem_cons_self, l2.2.2, l3⟩, keepB, tb⟩
  have hbp : b ≠ PT := fun w => by
    obtain ⟨o', vs, t1, t2, _⟩ := pre.tab
    rw [w, t1] at q
    cases q
    exact hd vs t2
  exact l4 b o (rp.z.base b o hbp (h0 ▸ q)) hd
set_option tactic.hygienic false in
theorem ge_ve : GE (nm "ValueError") (.ty Option.none) := fun P => ⟨.type "ValueError", .inr ⟨by kernel_rfl, by kernel_rfl, beq_eq_false_iff_ne.mp (sq_ne (by kernel_rfl))⟩, fun W _ => by simp only [VR, tyR]⟩
noncomputable def gloX : List (Str × SV) := (nm "ValueError", .ty Option.none) :: gloG
theorem gloX_ok {names : List (Str × NameKind)} {F : Nat → List SV → T Unit SV} : GloOK ⟨names, gloX, F⟩ := by
  intro x v h P
  have h' : lk x gloX = some v := h
  unfold gloX at h'
  simp only [lk] at h'
  split at h'
  · next q => cases h'; obtain rfl := sq_iff.mp q; exact ge_ve P
  · exact gloG_ok (names := names) (F := F) x v h' P
noncomputable def runX (F : Nat → List SV → T Unit SV) (o : Option Stmt) (args : List SV) : T Unit SV := run1 (fnN o) gloX F 60 (fnP o) (fnB o) args
set_option tactic.hygienic false in
theorem runX_con {n f : Nat} {F : Nat → List SV → T Unit SV} {o : Option Stmt} (fok : FnOK f (fnP o) (fnB o) (fnN o)) (hF : FOK n F) (args : List SV) : Con (n + 1) f args (runX F o args) := run1_con fok hF gloX_ok args
set_option tactic.hygienic false in
theorem runX_conE {n f : Nat} {F : Nat → List SV → T Unit SV} {o : Option Stmt} (fok : FnOK f (fnP o) (fnB o) (fnN o)) (hF : FOK n F) (args : List SV) : ConE (n + 1) f args (runX F o args) := run1_conE fok hF gloX_ok args
set_option tactic.hygienic false in
theorem ConE.argsL {n f : Nat} {args args' : List SV} {t : T Unit SV} (k : LeL args args') (h : ConE n f args' t) : ConE n f args t :=
  fun w mg mb A s H HL vals outs Q E hA hf pre hv hh => h w mg mb A s H HL vals outs Q E hA hf pre (k.use hv) hh
set_option tactic.hygienic false in
theorem ConE.stuck (n f : Nat) (args : List SV) : ConE n f args .stuck := fun _ _ _ _ _ _ _ _ _ _ _ _ _ _ _ h => h.elim
set_option tactic.hygienic false in
theorem ConE.le {n m f : Nat} {args : List SV} {t : T Unit SV} (h : ConE n f args t) (nm : n ≤ m) : ConE m f args t :=
  fun w mg mb A s H HL vals outs Q E hA hf pre hv hh => h w mg mb A s H HL vals outs Q E ⟨hA.h, by have := hA.d; omega, by have := hA.u; omega⟩ hf pre hv hh
set_option tactic.hygienic false in
theorem ConE.of_eq {n f : Nat} {args : List SV} {t t' : T Unit SV} (h : ConE n f args t) (e : t = t') : ConE n f args t' := e ▸ h
/-- what decompress_G2 tells -/
noncomputable def oneS (p : Int) : PP := (Int.fmod 1 p, Int.fmod 0 p)
noncomputable def xOf (p z w : Int) : PP := (w.fmod p, (z.fmod (2 ^ 381)).fmod p)
noncomputable def vOf (p : Int) (x b : PP) : PP := addS p (powS p 3 x) b
noncomputable def flipS (p : Int) (y : PP) : PP := (((y.1 * (-1)).fmod p).fmod p, ((y.2 * (-1)).fmod p).fmod p)
noncomputable def dFin (p : Int) (x y b : PP) : T Unit SV := .dec (!(onS p x y (oneS p) b)) (.exc ()) (.ret (.tup [elS p x, elS p y, elS p (oneS p)]))
noncomputable def aI (a : Bool) : Int := if a then 1 else 0
noncomputable def dSnd (p : Int) (x y b : PP) (a : Bool) : T Unit SV := .dec (y.2 == 0) (.dec ((y.1 * 2).fdiv p != aI a) (dFin p x (flipS p y) b) (dFin p x y b)) (dFin p x y b)
noncomputable def dTail (p : Int) (x y b : PP) (a : Bool) : T Unit SV := .dec (decide (0 < y.2)) (.dec ((y.2 * 2).fdiv p != aI a) (dFin p x (flipS p y) b) (dSnd p x y b a)) (dSnd p x y b a)
noncomputable def dRoot (p : Int) (x b : PP) (a : Bool) : T Unit SV := .need (nz (vOf p x b)) (.dec (rootS p (vOf p x b)).isSome (dTail p x (bigS p ((rootS p (vOf p x b)).getD (0, 0))) b a) (.exc ()))
noncomputable def decT (p : Int) (b : PP) (z w : Int) : T Unit SV := .dec (!(flagS z 383)) (.exc ()) (.dec (!(flagS z 382 == infS z w)) (.exc ()) (.dec (infS z w) (.dec (flagS z 381) (.exc ()) (.ret (.tup [elS p (oneS p), elS p (oneS p), elS p (zS p)])))
  (.dec (decide (p ≤ z.fmod (2 ^ 381))) (.exc ()) (.dec (decide (p ≤ w)) (.exc ()) (dRoot p (xOf p z w) b (flagS z 381))))))
noncomputable def somQ (f : Nat → T Unit SV) : Option Nat → T Unit SV
  | some b => f b
  | none => .stuck
noncomputable def gDec : List SV → T Unit SV
  | [u, e, t] => pairQ (fun a c => intQ (fun z _ => intQ (fun w B => somQ (fun B => elQ (fun p b => tupQ (fun l => match isP p && isEls p (rootsL p) l && Nat.ble B (2 ^ 1900) with
    | true => decT p b z w
    | false => .stuck) t) e) B) c) a) u
  | _ => .stuck
set_option tactic.hygienic false in
theorem int_none {z : Int} {c : Option Nat} : SVle (.int z c) (.int z none) := fun W v hv => by simp only [VR] at hv ⊢; exact ⟨hv.1, trivial⟩
set_option tactic.hygienic false in
theorem int_le' {a : Int} {b c : Nat} (h : b ≤ c) : SVle (.int a (some b)) (.int a (some c)) := fun W v hv => by
  simp only [VR, bdd] at hv ⊢
  exact ⟨hv.1, Nat.le_trans hv.2 h⟩
set_option tactic.hygienic false in
theorem dec_run19 (b b' z w : Int) : runX F13 s_decompress [.tup [.int z none, .int w (some (2 ^ 1900))], .el 19 b b', .tup (elsS 19 (rootsL 19))] = decT 19 (b, b') z w := by kernel_rfl
set_option tactic.hygienic false in
theorem dec_run43 (b b' z w : Int) : runX F13 s_decompress [.tup [.int z none, .int w (some (2 ^ 1900))], .el 43 b b', .tup (elsS 43 (rootsL 43))] = decT 43 (b, b') z w := by kernel_rfl
theorem dec_conE (args : List SV) : ConE 13 78 args (gDec args) := by
  rcases args with _ | ⟨u, _ | ⟨e, _ | ⟨t, _ | ⟨_, _⟩⟩⟩⟩ <;> (try exact ConE.stuck _ _ _)
  refine pairQ_P (P := fun u k => ConE 13 78 [u, e, t] k) (fun _ => ConE.stuck _ _ _) fun a c => intQ_P (P := fun a k => ConE 13 78 [.tup [a, c], e, t] k) (fun _ => ConE.stuck _ _ _) fun z c1 => intQ_P (P := fun c k => ConE 13 78 [.tup [.int z c1, c], e, t] k) (fun _ => ConE.stuck _ _ _) fun w B => ?_
  rcases B with _ | B
  · exact ConE.stuck _ _ _
  dsimp only [somQ]
  refine elQ_P (P := ConE 13 78) (fun _ => ConE.stuck _ _ _) (a := fun e => [.tup [.int z c1, .int w (some B)], e, t]) fun p b b' => ?_
  refine tupQ_P (P := fun t k => ConE 13 78 [.tup [.int z c1, .int w (some B)], .el p b b', t] k) (fun _ => ConE.stuck _ _ _) fun l => ?_
  split
  case h_2 => exact ConE.stuck _ _ _
  next hp =>
  simp only [Bool.and_eq_true] at hp
  obtain ⟨⟨hp, hl⟩, hB⟩ := hp
  obtain rfl := isEls_eq _ hl
  have hB := Nat.le_of_ble_eq_true hB
  refine ConE.argsL (.cons (SVle.tup (.cons int_none (.cons (int_le' hB) .nil))) (.cons (SVle.refl _) (.cons (SVle.refl _) .nil))) ((runX_conE fok_decompress F13_ok _).of_eq ?_)
  rcases isP_cases hp with rfl | rfl
  · exact dec_run19 b b' z w
  · exact dec_run43 b b' z w
/-- what compress_G2 tells -/
noncomputable def cNum (p : Int) (x : PP) (m : Int) : SV := .tup [.int (x.2 + m * 2 ^ 381 + 2 ^ 383) (some (100 + 200 * 2 ^ 381 + 2 ^ 383)), .int x.1 (some 100)]
noncomputable def compT (p : Int) (x y z b : PP) : T Unit SV := .dec (!(onS p x y z b)) (.exc ()) (.dec (eqP z (zS p)) (.ret (.tup [.num (2 ^ 383 + 2 ^ 382), .num 0]))
  (.need (nz z) (.dec (decide (0 < (divS p y z).2)) (.ret (cNum p (divS p x z) (((divS p y z).2 * 2).fdiv p))) (.ret (cNum p (divS p x z) (((divS p y z).1 * 2).fdiv p))))))
noncomputable def gComp : List SV → T Unit SV
  | [v, e] => tri3 (fun a c d => elQ (fun p x => elQ (fun p1 y => elQ (fun p2 z => elQ (fun p3 b => match isP p && decide (p1 = p) && decide (p2 = p) && decide (p3 = p) with
    | true => compT p x y z b
    | false => .stuck) e) d) c) a) v
  | _ => .stuck
set_option tactic.hygienic false in
theorem comp_P {P : List SV → T Unit SV → Prop} (hs : ∀ l, P l .stuck) (h : ∀ p x y z b, isP p = true → P [.tup [elS p x, elS p y, elS p z], elS p b] (compT p x y z b)) (args : List SV) : P args (gComp args) := by
  rcases args with _ | ⟨v, _ | ⟨e, _ | ⟨_, _⟩⟩⟩ <;> (try exact hs _)
  refine tri3_P hs fun a c d => elQ_P hs (a := fun a => [.tup [a, c, d], e]) fun p x x' => elQ_P hs (a := fun c => [.tup [.el p x x', c, d], e]) fun p1 y y' => elQ_P hs (a := fun d => [.tup [.el p x x', .el p1 y y', d], e]) fun p2 z z' => elQ_P hs (a := fun e => [.tup [.el p x x', .el p1 y y', .el p2 z z'], e]) fun p3 b b' => ?_
  rcases hp : isP p && decide (p1 = p) && decide (p2 = p) && decide (p3 = p) with _ | _
  · exact hs _
  ·
    simp only [Bool.and_eq_true, decide_eq_true_eq] at hp
    obtain ⟨⟨⟨hp, rfl⟩, rfl⟩, rfl⟩ := hp
    exact h p3 (x, x') (y, y') (z, z') (b, b') hp
set_option tactic.hygienic false in
theorem comp_run19 (x x' y y' z z' b b' : Int) : runX F13 s_compress [.tup [.el 19 x x', .el 19 y y', .el 19 z z'], .el 19 b b'] = compT 19 (x, x') (y, y') (z, z') (b, b') := by kernel_rfl
set_option tactic.hygienic false in
theorem comp_run43 (x x' y y' z z' b b' : Int) : runX F13 s_compress [.tup [.el 43 x x', .el 43 y y', .el 43 z z'], .el 43 b b'] = compT 43 (x, x') (y, y') (z, z') (b, b') := by kernel_rfl
set_option tactic.hygienic false in
theorem comp_eq {p x x' y y' z z' b b' : Int} (hp : isP p = true) : runX F13 s_compress [.tup [.el p x x', .el p y y', .el p z z'], .el p b b'] = compT p (x, x') (y, y') (z, z') (b, b') := by
  rcases isP_cases hp with rfl | rfl
  · exact comp_run19 ..
  · exact comp_run43 ..
set_option tactic.hygienic false in
theorem comp_con (args : List SV) : Con 13 71 args (gComp args) := comp_P (Con.stuck 13 71) (fun _ _ _ _ _ hp => (runX_con fok_compress F13_ok _).conv (TLe.of_eq (comp_eq hp))) args
set_option tactic.hygienic false in
theorem comp_conE (args : List SV) : ConE 13 71 args (gComp args) := comp_P (ConE.stuck 13 71) (fun _ _ _ _ _ hp => (runX_conE fok_compress F13_ok _).of_eq (comp_eq hp)) args
/-- the two numbers of a point -/
noncomputable def gNum2 : List SV → T Unit SV
  | [q, v] => match v with
    | .none => .ret (.tup [.num (6 * 2 ^ 381), .num 0])
    | v => pairQ (fun a c => mdQ (fun p => smQ (fun x => smQ (fun y => .ret (.tup [.int (x.2 + markS p y * 2 ^ 381) (some (100 + 204 * 2 ^ 381)), .int x.1 (some 100)])) c) a) q) v
  | _ => .stuck
set_option tactic.hygienic false in
theorem num_con (args : List SV) : Con 12 361 args (gNum2 args) := by
  rcases args with _ | ⟨q, _ | ⟨v, _ | ⟨_, _⟩⟩⟩ <;> (try exact Con.stuck _ _ _)
  have D : ∀ v, Con 12 361 [q, v] (pairQ (fun a c => mdQ (fun p => smQ (fun x => smQ (fun y => .ret (.tup [.int (x.2 + markS p y * 2 ^ 381) (some (100 + 204 * 2 ^ 381)), .int x.1 (some 100)])) c) a) q) v) := fun v => by
    refine pairQ_P (P := fun v k => Con 12 361 [q, v] k) (fun _ => Con.stuck _ _ _) fun a c => ?_
    refine mdQ_P (Con.stuck _ _ _) fun p e1 => ?_
    refine smQ_P (Con.stuck _ _ _) fun x e2 => ?_
    refine smQ_P (Con.stuck _ _ _) fun y e3 => ?_
    exact Con.argsL (.cons (mod_le e1) (.cons (SVle.tup (.cons (smP_le e2) (.cons (smP_le e3) .nil))) .nil)) ((runM_con fok_numbers F12_ok _).conv (TLe.of_eq (by kernel_rfl)))
  cases v <;> (try exact D _)
  exact (runM_con fok_numbers F12_ok _).conv (TLe.of_eq (by kernel_rfl))
/-- what stays of the heap that a def met -/
structure ZRel (outs : List Env) (X : Fx) (s s' : Shared) : Prop where
  tab : TabOK s'.heap
  keep : ∀ b o, b ∉ outL outs → b ≠ PT → X.h0.get? b = some o → s'.heap.get? b = some o
  ups : ∀ b o, b ≠ PT → X.h0.get? b = some o → (∀ vs, o.data ≠ .fields vs) → ∃ sl, s'.heap.get? b = some { o with slots := sl }
  sh : Sh s s'
noncomputable def W0 : Wd := ⟨fun _ _ => False, fun _ _ => False, []⟩
noncomputable def PostZ (outs : List Env) (X : Fx) (s : Shared) (Q : Flow → Shared → Prop) (cv : SV) : Prop := ∀ s' u, ZRel outs X s s' → VR W0 cv u → Q (.ret u) s'
set_option tactic.hygienic false in
theorem PostZ.step {outs : List Env} {X : Fx} {s s' : Shared} {Q : Flow → Shared → Prop} {cv : SV} (p : PostZ outs X s Q cv) (sh : Sh s s') : PostZ outs X s' Q cv := fun s₂ u z v => p s₂ u ⟨z.tab, z.keep, z.ups, sh.trans z.sh⟩ v
/-- the name of the error -/
noncomputable def isNT : Option SV → Bool
  | some (.ty Option.none) => true
  | _ => false
theorem isNT_eq {o : Option SV} (h : isNT o = true) : o = some (.ty Option.none) := by
  rcases o with _ | v
  · exact Bool.noConfusion h
  cases v <;> (try exact Bool.noConfusion h)
  rename_i o
  rcases o with _ | _
  · rfl
  · exact Bool.noConfusion h
noncomputable def isVE (C : Cx) (en : Str) : Bool := !(sq en "__debug__") && (lk en C.names == some .globalImplicit && isNT (lk en C.glo))
set_option tactic.hygienic false in
theorem isVE_eq {C : Cx} {en : Str} (h : isVE C en = true) : sq en "__debug__" = false ∧ lk en C.names = some .globalImplicit ∧ lk en C.glo = some (.ty Option.none) := by
  simp only [isVE, Bool.and_eq_true, Bool.not_eq_true', beq_iff_eq] at h
  exact ⟨h.1, h.2.1, isNT_eq h.2.2⟩
noncomputable def cOk : Const → SV → Bool
  | .str a, .str b => sq a b
  | .bool a, .bool b => a == b
  | _, _ => false
section
variable {n : Nat} {X : Fx} {A : Around} {C : Cx} {r : Ev} {outs : List Env}
set_option tactic.hygienic false in
theorem const_ev {c : Const} {cv : SV} {pos : Pos} {A : Around} {s : Shared} {Q : Value → Shared → Prop} {E : Value → Shared → Prop} {env : Env} {w : World} {z : Nat} (h : cOk c cv = true) (k : ∀ u tk, VR W0 cv u → Q u { s with toks := tk }) : wpAny (model PW w) A (eval (.Constant c z pos) env) Q E s := by
  cases c <;> (try exact Bool.noConfusion h) <;> cases cv <;> (try exact Bool.noConfusion h)
  · have := beq_iff_eq.mp h; subst this; exact wpAny_Constant_bool (k _ s.toks (by simp only [VR]))
  · have := sq_iff.mp h; subst this; exact wpAny_Constant_str (k _ _ (by simp only [VR]; exact ⟨_, rfl⟩))
set_option tactic.hygienic false in
/-- the error is caught -/
theorem caught {W : Wd} {st : St} {s s' : Shared} {e : Addr} {en : Str} {np rp hp cp : Pos} {c : Const} {cv : SV} {z : Nat} {Q : Flow → Shared → Prop} {E : Value → Shared → Prop} (ok : FxOK X) (co : CxOK n C X) (hfm : X.env.frame = some X.L) (hfr : A.frames = some (X.env :: outs)) (hno : ∀ L ∈ outL outs, @LE.le Nat _ 372 L ∧ ∀ o, ¬ W.H L o)
    (rep : Rep X W st s.heap) (hv : isVE C en = true) (hc : cOk c cv = true) (f : Fly (X.env :: outs) s s' e) (k : PostZ outs X s Q cv) :
    wpAny (model PW X.w) A (noteFrame (.ref e) X.env) (fun _ s₂ => wpAny (model PW X.w) A (setFlight (.ref e) none) (fun _ s₃ => wpAny (model PW X.w) A (handleBy (.ref e) X.env [.ExceptHandler (some (.Name en np)) none [.Return (some (.Constant c z cp)) rp] hp]) Q E s₃) E s₂) E s' := by
  obtain ⟨w, base, a0, fly, kb, tb⟩ := f
  have oL : outL (X.env :: outs) = X.L :: outL outs := by unfold outL; rw [List.filterMap_cons, hfm]
  have all : ∀ L ∈ outL (X.env :: outs), @LE.le Nat _ 372 L ∧ ∀ o, ¬ W.H L o := fun L hL => by
    rw [oL] at hL
    rcases List.mem_cons.mp hL with rfl | hL
    · exact ⟨ok.big, fun o => (rep.n.own.2 o).2.1⟩
    · exact hno L hL
  refine wpAny_looks_onW hfr hfm fly fun h1 hl1 u1 => ?_
  refine wpAny_landsW hl1 fun h2 fl2 u2 => ?_
  have lift : ∀ {h' : Heap}, base.StaysIn h' → ∀ b o, b ∉ outL (X.env :: outs) → b ≠ PT → X.h0.get? b = some o → h'.get? b = some o := fun st b o hb hp q => st b o (kb b o hb hp (rep.z.base b o hp q))
  have lo : ∀ {b : Addr}, @LT.lt Nat _ b 372 → b ∉ outL (X.env :: outs) := fun hb q => absurd (all _ q).1 (Nat.not_le.mpr hb)
  obtain ⟨e1, e2, e3⟩ := isVE_eq hv
  have hd : (en == Str.ofString "__debug__") = false := sq_ne e1
  have name : ∀ {A' : Around} {h' : Heap} {Q' : Value → Shared → Prop} {E' : Value → Shared → Prop} {s₀ : Shared}, s₀.heap = h' → base.StaysIn h' → Q' (.type "ValueError") s₀ → wpAny (model PW X.w) A' (eval (.Name en np) X.env) Q' E' s₀ := by
    intro A' h' Q' E' s₀ hs st q
    subst hs
    have T := ok.top
    have g := T.g.at' fun o e => lift st _ o (lo (by decide)) (by decide) e
    have b := T.b.at' fun o e => lift st _ o (lo (by decide)) (by decide) e
    have K : (kmk.heap_1 X.w.params).In s₀.heap := fun a o e => by
      have ap : a ≠ PT := fun q => by
        subst q
        have : (kmk.heap_1 X.w.params).lookup PT = none := by kernel_rfl
        rw [this] at e; cases e
      exact lift st a o (fun q => (all a q).2 o (rep.z.kh a o e)) ap (ok.kx a o e)
    obtain ⟨u, e4, e5⟩ := co.glo en _ e3 X.w.params
    have vr := e5 W rep.z.kh
    simp only [VR, tyR] at vr
    subst vr
    rcases e4 with e4 | ⟨e4, e6, e7⟩
    · exact Name_function_global ok.kind (co.names en _ e2) (loadGlobal_global (env := X.env) (by rw [ok.glob]; exact g) (mg_of K g e4) q) hd
    · exact Name_function_global ok.kind (co.names en _ e2) (loadGlobal_builtin (env := X.env) (by rw [ok.glob]; exact g) (mg_none_of K g e4) (by rw [ok.blt]; exact b) ((T.builtins en e7).trans e6) q) hd
  refine wpAny_handleBy_builtin (X := "ValueError") (T := "ValueError") (b := true) PySem.F.excRaise_ValueError.isExc (by kernel_rfl) (by kernel_rfl) (name rfl fl2.1 ⟨rfl, ?_, ?_⟩)
  · obtain ⟨ob, o1, o2⟩ := fl2.there
    exact ⟨ob, o1, o2⟩
  · rw [if_pos rfl]
    refine lands_againW fl2 fun h3 fl3 u3 => ?_
    refine wpAny_execs_cons (wpAny_Return_some (const_ev hc fun u tk hu => ?_))
    refine k _ u ⟨?_, fun b o hb hp q => ?_, ?_, ?_⟩ hu
    · exact tb.at fun o e => fl3.1 _ o e
    · refine lift fl3.1 b o (fun q2 => ?_) hp q
      rw [oL] at q2
      rcases List.mem_cons.mp q2 with rfl | q2
      · rw [rep.n.own.1] at q; cases q
      · exact hb q2
    · exact fun b o hp q hn => (w.ups.trans (u1.trans (u2.trans u3))) b o (rep.z.base b o hp q) hn
    · exact w.sh.trans (.heap s' h3 tk)
end
structure TF where
  en : Str
  c : Const
  f : Str
  args : List Expr
  ts : Option (List Expr)
noncomputable def tupT : List Expr → Option (List Expr)
  | [t] => match t with
    | .Tuple es _ _ => some es
    | _ => none
  | _ => none
set_option tactic.hygienic false in
theorem tupT_form {ts es : List Expr} (h : tupT ts = some es) : ∃ k p, ts = [.Tuple es k p] := by
  refine hold fun P hP => ?_
  rcases ts with _ | ⟨t, _ | ⟨_, _⟩⟩ <;> (try exact none_neC h)
  cases t <;> (try exact none_neC h)
  rw [← Option.some.inj h] at hP
  exact hP ⟨_, _, rfl⟩
noncomputable def bodyA (ts : List Expr) (v : Expr) : Option (Option (List Expr) × Str × List Expr) := match tupT ts with
  | some es => match nmCl v with
    | some r => some (some es, r.1, r.2)
    | none => none
  | none => none
noncomputable def bodyE (v : Expr) : Option (Option (List Expr) × Str × List Expr) := match nmCl v with
  | some r => some (none, r.1, r.2)
  | none => none
noncomputable def bodyOf : Stmt → Option (Option (List Expr) × Str × List Expr)
  | .Expr v _ => bodyE v
  | .Assign ts v _ => bodyA ts v
  | _ => none
inductive BodyIs (b : Stmt) (r : Option (List Expr) × Str × List Expr) : Prop
  | ex (f : Str) (fp : Pos) (args : List Expr) (cpos epos : Pos) (e : b = .Expr (.Call (.Name f fp) args [] cpos) epos) (h : (none, f, args) = r) : BodyIs b r
  | as (ts : List Expr) (tk : Nat) (tpos : Pos) (f : Str) (fp : Pos) (args : List Expr) (cpos apos : Pos) (e : b = .Assign [.Tuple ts tk tpos] (.Call (.Name f fp) args [] cpos) apos) (h : (some ts, f, args) = r) : BodyIs b r
theorem bodyOf_form {b : Stmt} {r : Option (List Expr) × Str × List Expr} (e : bodyOf b = some r) : BodyIs b r := by
  refine hold fun P hP => ?_
  cases b <;> (try exact none_neC e)
  case Expr v epos =>
    replace e : bodyE v = some r := e
    unfold bodyE at e
    rcases e1 : nmCl v with _ | q
    · rw [e1] at e; exact none_neC e
    ·
      rw [e1] at e
      obtain ⟨fp, cpos, rfl⟩ := nmCl_form e1
      exact hP (.ex _ _ _ _ _ rfl (Option.some.inj e))
  case Assign ts v apos =>
    replace e : bodyA ts v = some r := e
    unfold bodyA at e
    rcases e2 : tupT ts with _ | es
    · rw [e2] at e; exact none_neC e
    ·
      rw [e2] at e
      dsimp only at e
      rcases e1 : nmCl v with _ | q
      · rw [e1] at e; exact none_neC e
      ·
        rw [e1] at e
        obtain ⟨fp, cpos, rfl⟩ := nmCl_form e1
        obtain ⟨tk, tpos, rfl⟩ := tupT_form e2
        exact hP (.as _ _ _ _ _ _ _ _ rfl (Option.some.inj e))
noncomputable def conC : Expr → Option Const
  | .Constant c _ _ => some c
  | _ => none
set_option tactic.hygienic false in
theorem conC_form {x : Expr} {c : Const} (h : conC x = some c) : ∃ a b, x = .Constant c a b := by
  refine hold fun P hP => ?_
  cases x <;> (try exact none_neC h)
  rw [← Option.some.inj h] at hP
  exact hP ⟨_, _, rfl⟩
noncomputable def nmX : Expr → Option Str
  | .Name x _ => some x
  | _ => none
set_option tactic.hygienic false in
theorem nmX_form {x : Expr} {c : Str} (h : nmX x = some c) : ∃ a, x = .Name c a := by
  refine hold fun P hP => ?_
  cases x <;> (try exact none_neC h)
  rw [← Option.some.inj h] at hP
  exact hP ⟨_, rfl⟩
noncomputable def retS : List Stmt → Option Const
  | [t] => match t with
    | .Return v _ => v.bind conC
    | _ => none
  | _ => none
theorem retS_form {l : List Stmt} {c : Const} (h : retS l = some c) : ∃ a b p, l = [.Return (some (.Constant c a b)) p] := by
  refine hold fun P hP => ?_
  rcases l with _ | ⟨t, _ | ⟨_, _⟩⟩ <;> (try exact none_neC h)
  cases t <;> (try exact none_neC h)
  rename_i v p
  replace h : v.bind conC = some c := h
  obtain ⟨x, h1, h2⟩ := Option.bind_eq_some_iff.mp h
  obtain ⟨a, b, rfl⟩ := conC_form h2
  rw [h1] at hP
  exact hP ⟨a, b, p, rfl⟩
noncomputable def hdX (ty : Option Expr) (nm : Option Str) (hb : List Stmt) : Option (Str × Const) := match ty.bind nmX with
  | some en => match nm with
    | none => match retS hb with
      | some c => some (en, c)
      | none => none
    | some _ => none
  | none => none
noncomputable def hdOf : List ExceptHandler → Option (Str × Const)
  | [h] => match h with
    | .ExceptHandler ty nm hb _ => hdX ty nm hb
  | _ => none
set_option tactic.hygienic false in
theorem hdOf_form {l : List ExceptHandler} {q : Str × Const} (h : hdOf l = some q) : ∃ np z cp rp hp, l = [.ExceptHandler (some (.Name q.1 np)) none [.Return (some (.Constant q.2 z cp)) rp] hp] := by
  refine hold fun P hP => ?_
  rcases l with _ | ⟨t, _ | ⟨_, _⟩⟩ <;> (try exact none_neC h)
  obtain ⟨ty, nm, hb, hp⟩ := t
  replace h : hdX ty nm hb = some q := h
  unfold hdX at h
  cases e1 : ty.bind nmX with
  | none => rw [e1] at h; exact none_neC h
  | some en =>
  rw [e1] at h
  rcases nm with _ | _
  rotate_left
  · exact none_neC h
  dsimp only at h
  rcases e2 : retS hb with _ | c
  · rw [e2] at h; exact none_neC h
  rw [e2] at h
  obtain ⟨x, h1, h2⟩ := Option.bind_eq_some_iff.mp e1
  obtain ⟨np, rfl⟩ := nmX_form h2
  obtain ⟨z, cp, rp, rfl⟩ := retS_form e2
  rw [h1, ← Option.some.inj h] at hP
  exact hP ⟨np, z, cp, rp, hp, rfl⟩
noncomputable def tryP (body : List Stmt) (hs : List ExceptHandler) (oe fb : List Stmt) : Option TF := match body with
  | [b] => match hdOf hs with
    | some h => match oe.isEmpty && fb.isEmpty with
      | true => match bodyOf b with
        | some r => some ⟨h.1, h.2, r.2.1, r.2.2, r.1⟩
        | none => none
      | false => none
    | none => none
  | _ => none
noncomputable def tryOf : Stmt → Option TF
  | .Try body hs oe fb _ => tryP body hs oe fb
  | _ => none
inductive TryIs (x : Stmt) (t : TF) : Prop
  | mk (b : Stmt) (en : Str) (np : Pos) (c : Const) (z : Nat) (cp rp hp pos : Pos) (e : x = .Try [b] [.ExceptHandler (some (.Name en np)) none [.Return (some (.Constant c z cp)) rp] hp] [] [] pos) (eb : bodyOf b = some (t.ts, t.f, t.args)) (e1 : t.en = en) (e2 : t.c = c) : TryIs x t
theorem tryOf_form {x : Stmt} {t : TF} (et : tryOf x = some t) : TryIs x t := by
  refine hold fun P hP => ?_
  cases x <;> (try exact none_neC et)
  rename_i body hs oe fb pos
  replace et : tryP body hs oe fb = some t := et
  rcases body with _ | ⟨b, _ | ⟨_, _⟩⟩ <;> (try exact none_neC et)
  dsimp only [tryP] at et
  cases e1 : hdOf hs with
  | none => rw [e1] at et; exact none_neC et
  | some h =>
  rw [e1] at et
  dsimp only at et
  rcases e2 : oe.isEmpty && fb.isEmpty with _ | _
  · rw [e2] at et; exact none_neC et
  rw [e2] at et
  dsimp only at et
  rcases e3 : bodyOf b with _ | r
  · rw [e3] at et; exact none_neC et
  rw [e3] at et
  have et := Option.some.inj et
  subst et
  obtain ⟨np, z, cp, rp, hp, rfl⟩ := hdOf_form e1
  obtain ⟨q1, q2⟩ := Bool.and_eq_true_iff.mp e2
  have q1 := List.isEmpty_iff.mp q1
  have q2 := List.isEmpty_iff.mp q2
  subst q1
  subst q2
  exact hP ⟨b, _, np, _, z, cp, rp, hp, pos, rfl, e3, rfl, rfl⟩
noncomputable def liftE {α : Type} (st : St) : T Unit α → TS α
  | .ret a => .ret (a, st)
  | .dec b t e => .dec b (liftE st t) (liftE st e)
  | .need b t => .need b (liftE st t)
  | .exc _ => .exc st
  | .stuck => .stuck
set_option tactic.hygienic false in
theorem holds_liftE {α : Type} {st : St} {K : α × St → Prop} {KX : St → Prop} : ∀ {t : T Unit α}, (liftE st t).Holds K KX → t.Holds (fun r => K (r, st)) (fun _ => KX st)
  | .ret _, h => h
  | .dec _ _ _, h => ⟨fun q => holds_liftE (h.1 q), fun q => holds_liftE (h.2 q)⟩
  | .need _ _, h => ⟨h.1, holds_liftE h.2⟩
  | .exc _, h => h
  | .stuck, h => h
set_option tactic.hygienic false in
theorem holds_noExc' {α : Type} {K : α × St → Prop} {KX KX' : St → Prop} {t : TS α} (h : (noExc t).Holds K KX) : t.Holds K KX' := (holds_noExc h).mono (fun _ z => z) fun _ z => z.elim
noncomputable def fnOf : SV → Option Nat
  | .fn k => match okFn (.fn k) with
    | true => some k
    | false => none
  | _ => none
noncomputable def callX (C : Cx) (FE : Nat → List SV → T Unit SV) (r : Ev) (f : Str) (args : List Expr) (g : SV × St → TS Fl) (st : St) : TS Fl := match noStar args && !(args.isEmpty) with
  | true => (noExc (nameV C f st)).bind fun a => match fnOf a.1 with
    | some k => (noExc (evL r args a.2)).bind fun b => match toArgs b.2 b.1 with
      | some vs => (liftE b.2 (FE k vs)).bind g
      | none => .stuck
    | none => .stuck
  | false => .stuck
noncomputable def contV (C : Cx) (ts : Option (List Expr)) (v : SV × St) : TS Fl := match ts with
  | none => .ret (.next, v.2)
  | some ts => match tgts ts, v.1 with
    | some l, .tup vs => match Nat.beq vs.length ts.length with
      | true => (noExc (stoL C l vs v.2)).bind fun b => .ret (.next, b.2)
      | false => .stuck
    | _, _ => .stuck
noncomputable def exS3 (C : Cx) (FE : Nat → List SV → T Unit SV) (cv : SV) (r : Ev) (k : Nat) (xs : List Stmt → St → TS Fl) (s : Stmt) (st : St) : TS Fl := match tryOf s with
  | some t => match isVE C t.en && cOk t.c cv with
    | true => callX C FE r t.f t.args (contV C t.ts) st
    | false => .stuck
  | none => match s with
    | .If test b o _ => (noExc (r.t test st)).bind fun c => br c.1 (xs b c.2) (xs o c.2)
    | s => noExc (exS2 C r k (exN C k) s st)
noncomputable def exN3 (C : Cx) (FE : Nat → List SV → T Unit SV) (cv : SV) : Nat → List Stmt → St → TS Fl
  | 0, _, _ => .stuck
  | _ + 1, [], st => .ret (.next, st)
  | k + 1, s :: rest, st => (exS3 C FE cv (ev2 C k) k (exN3 C FE cv k) s st).bind fun f => match f.1 with
    | .next => exN3 C FE cv k rest f.2
    | .ret v => .ret (.ret v, f.2)
/-- the frames around a frame -/
structure Outs (A : Around) (X : Fx) (outs : List Env) : Prop where
  fr : A.frames = some (X.env :: outs)
  fm : X.env.frame = some X.L
  each : ∀ env ∈ outs, env.scope.kind ≠ .module ∧ ∃ L m, env.frame = some L ∧ X.h0.Ns L m ∧ L ≠ PT ∧ @LE.le Nat _ 372 L ∧ ∀ o, ¬ X.H0 L o
set_option tactic.hygienic false in
theorem Outs.no {A : Around} {X : Fx} {outs : List Env} {W : Wd} {st : St} {h : Heap} (o : Outs A X outs) (rep : Rep X W st h) : ∀ L ∈ outL outs, @LE.le Nat _ 372 L ∧ ∀ o, ¬ W.H L o := fun L hL => by
  obtain ⟨env, he, hf⟩ := outL_mem hL
  obtain ⟨_, L', m, k2, k3, k4, k5, k6⟩ := o.each env he
  rw [hf] at k2
  cases k2
  refine ⟨k5, fun o' q => ?_⟩
  rcases rep.z.solid _ _ q with z | z
  · exact k6 o' z
  · obtain ⟨o2, e2⟩ := Ns_some k3
    rw [z] at e2; cases e2
noncomputable def SX3 (outs : List Env) (cv : SV) (X : Fx) (A : Around) (f : List Stmt → St → TS Fl) : Prop := ∀ b st W s Q E, Rep X W st s.heap → (f b st).Holds (PostF X W s Q) (fun _ => PostZ outs X s Q cv) → wpAny (model PW X.w) A (execs b X.env) Q E s
section
variable {n : Nat} {X : Fx} {A : Around} {C : Cx} {r : Ev} {outs : List Env} {FE : Nat → List SV → T Unit SV}
theorem callX_sound {W : Wd} {st : St} {s : Shared} {Q E : Value → Shared → Prop} {f : Str} {args : List Expr} {np pos : Pos} {g : SV × St → TS Fl} {KQ : Fl × St → Prop} {KZ : Prop} (hFE : ∀ f args, ConE n f args (FE f args)) (ok : FxOK X) (co : CxOK n C X) (hA : OKA n A) (ho : Outs A X outs) (he : SE X A r.e) (rp : Rep X W st s.heap)
    (h : (callX C FE r f args g st).Holds KQ (fun _ => KZ)) (hQ : ∀ v s' W' u, (g v).Holds KQ (fun _ => KZ) → W.le W' → Rep X W' v.2 s'.heap → Sh s s' → VR W' v.1 u → Q u s')
    (hE : KZ → ∀ s₁ W₁ st₁ s' e, W.le W₁ → Rep X W₁ st₁ s₁.heap → Sh s s₁ → Fly (X.env :: outs) s₁ s' e → E (.ref e) s') : wpAny (model PW X.w) A (eval (.Call (.Name f np) args [] pos) X.env) Q E s := by
  unfold callX at h
  split at h
  case h_2 => exact h.elim
  next q =>
  simp only [Bool.and_eq_true, Bool.not_eq_true'] at q
  obtain ⟨ns, ne⟩ := q
  refine wpAny_Call_NameR (nameV_sound ok co rp ((holds_noExc' (T.holds_bind h)).mono (fun a ha s' W' u le rp' sh hv => ?_) fun _ z => z))
  split at ha
  case h_2 => exact ha.elim
  next k ek =>
  have ek : a.1 = .fn k ∧ okFn (.fn k) = true := by
    unfold fnOf at ek
    split at ek
    · next e1 => split at ek
                 · next e2 => cases ek; exact ⟨e1, e2⟩
                 · cases ek
    · cases ek
  obtain ⟨ek, kf⟩ := ek
  rw [ek] at hv
  simp only [VR] at hv
  subst hv
  have kk := fn_keep (P := X.w.params) kf
  rcases args with _ | ⟨x, rest⟩
  · cases ne
  ·
    obtain ⟨e1, e2⟩ := noStar_cons (env := X.env) (pos := pos) ns
    refine callWith_K (rp'.z.kx ok) kk ?_ e1 e2
    refine evL_sound he (x :: rest) a.2 W' s' _ E rp' ((holds_noExc' (T.holds_bind ha)).mono (fun b hb s₂ W₂ us le₂ rp₂ sh₂ hus => ⟨rp₂.z.kx ok, ?_⟩) fun _ z => z)
    split at hb
    case h_2 => exact hb.elim
    next vs ev =>
    have hnp : ∀ {b o}, HLc W₂ s₂.heap b o → b ≠ PT := fun {b o} q e => by
      rcases q with q | ⟨⟨i, q⟩, _⟩
      · exact (rp₂.z.npt o).2.2 (e ▸ q)
      · obtain ⟨_, _, d⟩ : ∃ a, W₂.eta[i]? = some a ∧ X.h0.get? a = none := by
          have hlt := rp₂.l.len ▸ (List.getElem?_eq_some_iff.mp q).1
          obtain ⟨c, hc, d⟩ := rp₂.l.at_ i _ _ (List.getElem?_eq_getElem hlt)
          exact ⟨c, hc, d.new⟩
        next z1 z2 =>
        rw [q] at z2
        cases z2
        obtain ⟨o', ho'⟩ := ok.pt
        rw [e, ho'] at d
        cases d
    have fr : FrOK A s₂.heap (X.env :: outs) := ⟨ho.fr, fun env he => by
      rcases List.mem_cons.mp he with rfl | he
      · obtain ⟨m, hm, _⟩ := rp₂.n.ns
        exact ⟨by rw [show X.env.scope.kind = .function from ok.kind]; decide, X.L, m, ho.fm, hm, rp₂.n.own.ne_pt ok, ok.big⟩
      · obtain ⟨k1, L, m, k2, k3, k4, k5, _⟩ := ho.each env he
        exact ⟨k1, L, m, k2, k3.at' fun o e => rp₂.z.base L o k4 e, k4, k5⟩⟩
    refine hFE k vs X.w X.mg X.mb A s₂ W₂.H (HLc W₂ s₂.heap) us (X.env :: outs) Q E hA.c fr ⟨rp₂.z.kx ok, rp₂.z.top ok, rp₂.z.tab, let ⟨o, e, q⟩ := ok.bm; ⟨o, rp₂.z.base _ o (by decide) e, q⟩, rp₂.z.kh, fun b o q => ⟨rp₂.z.sub b o q, fun e => (rp₂.z.npt o).2.1 (e ▸ q)⟩, fun b o q => ⟨?_, hnp q⟩⟩ (toArgs_sound rp₂ hus ev)
      ((holds_liftE (T.holds_bind hb)).mono (fun v hv s₃ H' HL' u cp hu => ?_) (fun _ hz s₃ e fl => hE hz s₂ W₂ b.2 s₃ e (le.trans le₂) rp₂ (sh.trans sh₂) fl))
    · rcases q with q | ⟨_, q⟩
      · exact rp₂.z.subL b o q
      · exact q
    · obtain ⟨le₃, r₃⟩ := rp₂.extend (H' := H') (HL' := fun b o => W₂.HL b o ∨ HL' b o) ok cp.keep cp.tab cp.up (fun _ _ q => .inl q) cp.new (fun b o q => by
        rcases q with q | q
        · exact ⟨cp.keep b o (fun e => (rp₂.z.npt o).2.2 (e ▸ q)) (rp₂.z.subL b o q), .inl q⟩
        · exact ⟨(cp.newL b o q).1, .inr (cp.newL b o q).2⟩)
      exact hQ (v, b.2) s₃ _ u hv ((le.trans le₂).trans le₃) r₃ ((sh.trans sh₂).trans cp.sh) (VR.mono (W := ⟨H', HL', []⟩) (W' := ⟨H', fun b o => W₂.HL b o ∨ HL' b o, W₂.eta⟩) ⟨fun _ _ q => q, fun _ _ q => Or.inr q, fun i a q => by simp at q⟩ hu)
theorem exS3_sound {cv : SV} {xs : List Stmt → St → TS Fl} (hFE : ∀ f args, ConE n f args (FE f args)) (ok : FxOK X) (co : CxOK n C X) (hc : CellsOK C X) (hA : OKA n A) (ho : Outs A X outs) (k : Nat) (he : SE X A r.e) (ht : STt X A r.t) (hx : SX3 outs cv X A xs) (x : Stmt) (st : St) (W : Wd) (s : Shared) (Q : Flow → Shared → Prop) (E : Value → Shared → Prop) (rp : Rep X W st s.heap)
    (h : (exS3 C FE cv r k xs x st).Holds (PostF X W s Q) (fun _ => PostZ outs X s Q cv)) : wpAny (model PW X.w) A (exec x X.env) Q E s := by
  unfold exS3 at h
  split at h
  · next t et =>
    split at h
    case h_2 => exact h.elim
    next q =>
    simp only [Bool.and_eq_true] at q
    obtain ⟨q1, q2⟩ := q
    obtain ⟨b, en, np, c, z, cp, rp', hp, pos, rfl, eb, e1, e2⟩ := tryOf_form et
    rw [e1] at q1
    rw [e2] at q2
    refine wpAny_Try_except (wpAny_execs_cons ?_)
    have hE : ∀ E', PostZ outs X s Q cv → ∀ s₁ W₁ st₁ s' e, W.le W₁ → Rep X W₁ st₁ s₁.heap → Sh s s₁ → Fly (X.env :: outs) s₁ s' e →
        wpAny (model PW X.w) A (noteFrame (.ref e) X.env) (fun _ s₂ => wpAny (model PW X.w) A (setFlight (.ref e) none) (fun _ s₃ => wpAny (model PW X.w) A (handleBy (.ref e) X.env [.ExceptHandler (some (.Name en np)) none [.Return (some (.Constant c z cp)) rp'] hp]) Q E' s₃) E' s₂) E' s' :=
      fun E' pz s₁ W₁ st₁ s' e le rp₁ sh fl => caught ok co ho.fm ho.fr (ho.no rp₁) rp₁ q1 q2 fl (pz.step sh)
    rcases bodyOf_form eb with ⟨f, fp, args, cpos, epos, rfl, er⟩ | ⟨ts, tk, tpos, f, fp, args, cpos, apos, rfl, er⟩
    · have t1 := congrArg (fun q : Option (List Expr) × Str × List Expr => q.1) er
      have t2 := congrArg (fun q : Option (List Expr) × Str × List Expr => q.2.1) er
      have t3 := congrArg (fun q : Option (List Expr) × Str × List Expr => q.2.2) er
      dsimp only at t1 t2 t3
      rw [← t1, ← t2, ← t3] at h
      refine wpAny_Expr_any (callX_sound hFE ok co hA ho he rp h (fun v s' W' u hv le rp₁ sh hu => ?_) (hE E)) ?_ (swap_pure rfl)
      · exact wpAny_execs_nil (wpAny_execs_nil (hv s' W' le rp₁ sh))
      · show (X.scope.kind == .module && _) = false
        rw [ok.kind]; rfl
    · have t1 := congrArg (fun q : Option (List Expr) × Str × List Expr => q.1) er
      have t2 := congrArg (fun q : Option (List Expr) × Str × List Expr => q.2.1) er
      have t3 := congrArg (fun q : Option (List Expr) × Str × List Expr => q.2.2) er
      dsimp only at t1 t2 t3
      rw [← t1, ← t2, ← t3] at h
      refine Assign_Tuple (callX_sound hFE ok co hA ho he rp h (fun v s' W' u hv le rp₁ sh hu => ?_) (hE E)) (by unfold swapsWithSole; exact swap_pure rfl) (sw_fore (C := C) (l := []) rfl)
      simp only [contV] at hv
      split at hv
      · next l vs e3 e4 =>
        split at hv
        · next e5 =>
          rw [e4] at hu
          refine assign_tup ok co hc hA rp₁ hu e3 (Nat.eq_of_beq_eq_true e5) ((holds_noExc' (T.holds_bind hv)).mono (fun b hb s₂ W₂ le₂ rp₂ sh₂ => ?_) fun _ z => z)
          exact wpAny_execs_nil (wpAny_execs_nil (hb s₂ W₂ (le.trans le₂) rp₂ (sh.trans sh₂)))
        · exact hv.elim
      · exact hv.elim
  · have D : ∀ x, (noExc (exS2 C r k (exN C k) x st)).Holds (PostF X W s Q) (fun _ => PostZ outs X s Q cv) → wpAny (model PW X.w) A (exec x X.env) Q E s := fun x h => exS2_sound ok co hc hA k he ht (fun X' kx => exN_sound hA k kx.ok kx.co kx.hc) x st W s Q E rp (holds_noExc' h)
    cases x <;> (try exact D _ h)
    case If =>
      dsimp only at h
      refine wpAny_If (ht _ st W s _ _ rp ((holds_noExc' (T.holds_bind h)).mono (fun c hcc s' W' b le rp' sh hb => ?_) fun _ z => z))
      have hh := holds_br hcc hb
      rcases b with _ | _
      rotate_left
      · exact hx _ _ W' s' Q E rp' (hh.mono (fun _ z => z.step le sh) fun _ z => z.step sh)
      · exact hx _ _ W' s' Q E rp' (hh.mono (fun _ z => z.step le sh) fun _ z => z.step sh)
end
theorem exN3_sound {n : Nat} {A : Around} {C : Cx} {FE : Nat → List SV → T Unit SV} {cv : SV} {outs : List Env} (hFE : ∀ f args, ConE n f args (FE f args)) (hA : OKA n A) : ∀ k {X : Fx}, FxOK X → CxOK n C X → CellsOK C X → Outs A X outs → SX3 outs cv X A (exN3 C FE cv k)
  | 0, _, _, _, _, _ => fun _ _ _ _ _ _ _ h => h.elim
  | k + 1, X, ok, co, hc, ho => fun b st W s Q E rp h => by
    rcases b with _ | ⟨x, rest⟩
    · exact wpAny_execs_nil (h s W (.refl W) rp (.refl s))
    ·
      obtain ⟨he, ht⟩ := ev2_sound (n := n) (A := A) ok co hc hA k
      refine wpAny_execs_cons (exS3_sound hFE ok co hc hA ho k he ht (exN3_sound hFE hA k ok co hc ho) x st W s _ E rp ((T.holds_bind h).mono (fun f hf s' W' le rp' sh => ?_) fun _ z => z))
      split at hf
      · next e => (try rw [e]); exact exN3_sound hFE hA k ok co hc ho rest f.2 W' s' Q E rp' (hf.mono (fun _ z => z.step le sh) fun _ z => z.step sh)
      · next v e => (try rw [e]); intro u hu; exact hf s' W' le rp' sh u hu
noncomputable def outT3 (cv : SV) : TS Fl → T Unit SV
  | .ret (.next, _) => .ret .none
  | .ret (.ret v, st) => match resV st v with
    | some r => .ret r
    | none => .stuck
  | .dec b t e => .dec b (outT3 cv t) (outT3 cv e)
  | .need b t => .need b (outT3 cv t)
  | .exc _ => .ret cv
  | .stuck => .stuck
theorem holds_out3 {cv : SV} {K : SV → Prop} {KX : Unit → Prop} : ∀ {t : TS Fl}, (outT3 cv t).Holds K KX → t.Holds (fun r => match r.1 with | .next => K .none | .ret v => ∃ x, resV r.2 v = some x ∧ K x) (fun _ => K cv)
  | .ret (.next, _), h => h
  | .ret (.ret v, st), h => by
    unfold outT3 at h
    split at h
    · next r e => exact ⟨r, e, h⟩
    · exact h.elim
  | .dec _ _ _, h => ⟨fun q => holds_out3 (h.1 q), fun q => holds_out3 (h.2 q)⟩
  | .need _ _, h => ⟨h.1, holds_out3 h.2⟩
  | .exc _, h => h
  | .stuck, h => h
noncomputable def run3 (names : List (Str × NameKind)) (glo : List (Str × SV)) (F FE : Nat → List SV → T Unit SV) (cv : SV) (k : Nat) (ps : List Str) (body : List Stmt) (args : List SV) : T Unit SV := match initS names ps args with
  | some (a, b) => match nodupS ps with
    | true => outT3 cv (exN3 ⟨names, glo, F⟩ FE cv k body ⟨a, b, []⟩)
    | false => .stuck
  | none => .stuck
structure WCall (outs : List Env) (s : Shared) (H : Addr → Obj → Prop) (s' : Shared) (H' HL' : Addr → Obj → Prop) : Prop where
  w : WPost outs s s'
  up : ∀ b o, H b o → H' b o
  new : ∀ b o, H' b o → s'.heap.get? b = some o ∧ (H b o ∨ s.heap.get? b = none)
  newL : ∀ b o, HL' b o → s'.heap.get? b = some o ∧ s.heap.get? b = none
noncomputable def ConW (n : Nat) (f : Nat) (args : List SV) (t : T Unit SV) : Prop :=
  ∀ (w : World) (mg mb : Str → Option Value) (A : Around) (s : Shared) (H HL : Addr → Obj → Prop) (vals : List Value) (outs : List Env) (Q E : Value → Shared → Prop), OKC n A → FrOK A s.heap outs → (∀ L ∈ outL outs, ∀ o, ¬ H L o) → CallPre w mg mb s H HL → VRs ⟨H, HL, []⟩ args vals →
    t.Holds (fun r => ∀ s' H' HL' u, WCall outs s H s' H' HL' → VR ⟨H', HL', []⟩ r u → Q u s') (fun _ => False) →
    wpAny (model PySem.Challenge.pw_lh0035_01 w) A (call (.ref f) vals) Q E s
set_option tactic.hygienic false in
theorem CallPost.weak {outs : List Env} {s s' : Shared} {H H' HL' : Addr → Obj → Prop} (tab : TabOK s.heap) (c : CallPost s H s' H' HL') : WCall outs s H s' H' HL' :=
  ⟨⟨c.tab, fun b o _ hp e => c.keep b o hp e, fun b o e hn => by
    by_cases hp : b = PT
    · obtain ⟨o', vs, t1, t2, _⟩ := tab
      rw [hp, t1] at e
      cases e
      exact absurd t2 (hn vs)
    · exact ⟨o.slots, c.keep b o hp e⟩, c.sh⟩, c.up, c.new, c.newL⟩
set_option tactic.hygienic false in
theorem ConW.conv {n f : Nat} {args : List SV} {t t' : T Unit SV} (h : ConW n f args t) (le : TLe t' t) : ConW n f args t' :=
  fun w mg mb A s H HL vals outs Q E hA hf hn pre hv hh => h w mg mb A s H HL vals outs Q E hA hf hn pre hv (le.h _ (fun _ _ le hk s' H' HL' u cp hu => hk s' H' HL' u cp (le _ _ hu)) hh)
set_option tactic.hygienic false in
theorem ConW.argsL {n f : Nat} {args args' : List SV} {t : T Unit SV} (k : LeL args args') (h : ConW n f args' t) : ConW n f args t :=
  fun w mg mb A s H HL vals outs Q E hA hf hn pre hv hh => h w mg mb A s H HL vals outs Q E hA hf hn pre (k.use hv) hh
set_option tactic.hygienic false in
theorem ConW.stuck (n f : Nat) (args : List SV) : ConW n f args .stuck := fun _ _ _ _ _ _ _ _ _ _ _ _ _ _ _ _ h => h.elim
set_option tactic.hygienic false in
theorem ConW.le {n m f : Nat} {args : List SV} {t : T Unit SV} (h : ConW n f args t) (nm : n ≤ m) : ConW m f args t :=
  fun w mg mb A s H HL vals outs Q E hA hf hn pre hv hh => h w mg mb A s H HL vals outs Q E ⟨hA.h, by have := hA.d; omega, by have := hA.u; omega⟩ hf hn pre hv hh
theorem run3_conW {n f k : Nat} {ps : List Str} {body : List Stmt} {names : List (Str × NameKind)} {glo : List (Str × SV)} {F FE : Nat → List SV → T Unit SV} {cv : SV} (fok : FnOK f ps body names) (hF : FOK n F) (hFE : ∀ f args, ConE n f args (FE f args)) (hg : GloOK ⟨names, glo, F⟩) (args : List SV) :
    ConW (n + 1) f args (run3 names glo F FE cv k ps body args) := by
  intro w mg mb A s H HL vals outs Q E hA hfr hno pre hv hh
  unfold run3 at hh
  split at hh
  · next a b e =>
    split at hh
    · next nd =>
      refine wpAny_call (enter fok hF hg (fun _ _ _ => False) (fun _ _ _ z => z.elim) hA pre hv e nd fun X hp tk ok co hc hA' hw hX0 hXH _ _ hcd rep => ?_)
      subst hw
      have hfm : X.env.frame = some X.L := let ⟨_, _, _, _, _, q⟩ := hcd; q
      have ho : Outs (A.deeper X.env) X outs := ⟨Around.frames_deeper hfr.fr, hfm, fun env he => by
        obtain ⟨k1, L, m, k2, k3, k4, k5⟩ := hfr.each env he
        refine ⟨k1, L, m, k2, hX0 ▸ k3, k4, k5, fun o q => hno L ?_ o (hXH ▸ q)⟩
        exact List.mem_filterMap.mpr ⟨env, he, k2⟩⟩
      have callP : ∀ {s' : Shared} {W' : Wd} {st' : St} {HL' : Addr → Obj → Prop}, (∀ a o, H a o → W'.H a o) → Rep X W' st' s'.heap → Sh { s with heap := hp, toks := tk } s' → (∀ b o, HL' b o → s'.heap.get? b = some o ∧ s.heap.get? b = none) → CallPost s H s' W'.H HL' := fun kh r' sh' hl => by
        refine ⟨r'.z.tab, hX0 ▸ r'.z.base, kh, fun b o q => ⟨r'.z.sub b o q, hX0 ▸ hXH ▸ r'.z.solid b o q⟩, hl, ⟨sh'.d, sh'.o, sh'.g⟩⟩
      refine exN3_sound hFE hA' k ok co hc ho body ⟨a, b, []⟩ ⟨H, HL, []⟩ _ _ _ rep ((holds_out3 hh).mono (fun r hr s' W' le r' sh' => ?_) fun σ hx => fun s' u z hu => ?_)
      · split at hr
        · next q =>
          try rw [q]
          exact hr s' W'.H (fun _ _ => False) .none ((callP le.h r' sh' fun _ _ z => z.elim).weak pre.tab) (by simp only [VR])
        · next v q =>
          try rw [q]
          intro u hu
          obtain ⟨y, q2, hr⟩ := hr
          have etaF : ∀ (i : Nat) (b : Addr), W'.eta[i]? = some b → s.heap.get? b = none := fun i b q => by
            have hlt : i < r.2.mls.length := r'.l.len ▸ (List.getElem?_eq_some_iff.mp q).1
            obtain ⟨c, hc, d⟩ := r'.l.at_ i (r.2.mls[i]).1 (r.2.mls[i]).2 (List.getElem?_eq_getElem hlt)
            rw [q] at hc
            cases hc
            exact hX0 ▸ d.new
          refine hr s' W'.H (fun b o => (∃ i : Nat, W'.eta[i]? = some b) ∧ s'.heap.get? b = some o) u ((callP le.h r' sh' fun b o z => ⟨z.2, let ⟨i, hi⟩ := z.1; etaF i b hi⟩).weak pre.tab) ?_
          unfold resV at q2
          split at q2
          · next i =>
            split at q2
            · next fz l q3 =>
              split at q2
              · next q4 =>
                cases q2
                simp only [VR] at hu ⊢
                obtain ⟨ad, rfl, ha⟩ := hu
                obtain ⟨a', ha', d⟩ := r'.l.at_ _ _ _ q3
                rw [ha] at ha'
                cases ha'
                obtain ⟨o, items, g, y, z, _⟩ := d.at_
                exact ⟨ad, o, items, rfl, ⟨⟨i, ha⟩, g⟩, y, VRs.out (W := W') (W' := ⟨W'.H, fun b o => (∃ i : Nat, W'.eta[i]? = some b) ∧ s'.heap.get? b = some o, []⟩) (fun _ _ h => h) q4 z⟩
              · cases q2
            · cases q2
          · split at q2
            · next q4 => cases q2; exact VR.out (W := W') (W' := ⟨W'.H, fun b o => (∃ i : Nat, W'.eta[i]? = some b) ∧ s'.heap.get? b = some o, []⟩) (fun _ _ h => h) q4 hu
            · cases q2
      · refine hx s' H (fun _ _ => False) u ⟨⟨z.tab, fun b o hb hp q => z.keep b o hb hp (hX0 ▸ q), fun b o q hn => ?_, ⟨z.sh.d, z.sh.o, z.sh.g⟩⟩, fun _ _ q => q, fun b o q => ⟨?_, .inl q⟩, fun _ _ q => q.elim⟩ (VR.mono (W := W0) (W' := ⟨H, fun _ _ => False, []⟩) ⟨fun _ _ q => q.elim, fun _ _ q => q.elim, fun _ _ q => q⟩ hu)
        · by_cases hp : b = PT
          · obtain ⟨o', vs, t1, t2, _⟩ := pre.tab
            rw [hp, t1] at q
            cases q
            exact absurd t2 (hn vs)
          · exact z.ups b o hp (hX0 ▸ q) hn
        · obtain ⟨h1, h2⟩ := pre.sub b o q
          exact z.keep b o (fun hb => hno b hb o q) h2 (hX0 ▸ h1)
    · exact hh.elim
  · exact hh.elim
noncomputable def eqOne : List CmpOp → Bool
  | [o] => match o with
    | .Eq => true
    | _ => false
  | _ => false
set_option tactic.hygienic false in
theorem eqOne_eq {l : List CmpOp} (h : eqOne l = true) : l = [.Eq] := by
  rcases l with _ | ⟨o, _ | ⟨_, _⟩⟩ <;> (try exact Bool.noConfusion h)
  cases o <;> (try exact Bool.noConfusion h)
  rfl
noncomputable def wkC (l : Expr) (ops : List CmpOp) (ys : List Expr) : Option (Str × List Expr × Option Expr) := match nmCl l with
  | some r => match oneX ys with
    | some y => match eqOne ops && !(isSet y) with
      | true => some (r.1, r.2, some y)
      | false => none
    | none => none
  | none => none
noncomputable def wkOf (x : Expr) : Option (Str × List Expr × Option Expr) := match nmCl x with
  | some r => some (r.1, r.2, none)
  | none => match x with
    | .Compare l ops ys _ => wkC l ops ys
    | _ => none
inductive WkIs (x : Expr) (f : Str) (args : List Expr) (y : Option Expr) : Prop
  | c (p pos : Pos) (e : x = .Call (.Name f p) args [] pos) (h : none = y) : WkIs x f args y
  | q (p cpos : Pos) (y0 : Expr) (pos : Pos) (e : x = .Compare (.Call (.Name f p) args [] cpos) [.Eq] [y0] pos) (h : some y0 = y) (s : isSet y0 = false) : WkIs x f args y
theorem wkOf_form {x : Expr} {f : Str} {args : List Expr} {y : Option Expr} (h : wkOf x = some (f, args, y)) : WkIs x f args y := by
  unfold wkOf at h
  rcases e : nmCl x with _ | r
  rotate_left
  ·
    rw [e] at h
    obtain ⟨p, pos, rfl⟩ := nmCl_form e
    have h := Option.some.inj h
    obtain ⟨h1, h2⟩ := Prod.mk.inj h
    obtain ⟨h2, h3⟩ := Prod.mk.inj h2
    exact .c p pos (by rw [h1, h2]) h3
  ·
    rw [e] at h
    clear e
    refine hold fun P hP => ?_
    cases x <;> (try exact none_neC h)
    rename_i l ops ys pos
    replace h : wkC l ops ys = some (f, args, y) := h
    unfold wkC at h
    cases e1 : nmCl l with
    | none => rw [e1] at h; exact none_neC h
    | some r =>
    rw [e1] at h
    dsimp only at h
    rcases e2 : oneX ys with _ | y0
    · rw [e2] at h; exact none_neC h
    rw [e2] at h
    dsimp only at h
    rcases e3 : eqOne ops && !(isSet y0) with _ | _
    · rw [e3] at h; exact none_neC h
    rw [e3] at h
    obtain ⟨p, cpos, rfl⟩ := nmCl_form e1
    obtain ⟨e3, e4⟩ := Bool.and_eq_true_iff.mp e3
    have e3 := eqOne_eq e3
    have e2 := oneX_eq e2
    subst e3
    subst e2
    have h := Option.some.inj h
    obtain ⟨h1, h2⟩ := Prod.mk.inj h
    obtain ⟨h2, h3⟩ := Prod.mk.inj h2
    exact hP (.q p cpos y0 pos (by rw [h1, h2]) h3 (by cases q : isSet y0 with | false => rfl | true => rw [q] at e4; exact Bool.noConfusion e4))
noncomputable def isW (f : Str) : Bool := sq f "_law_told" || sq f "_law_written"
noncomputable def callW (C : Cx) (FW : Nat → List SV → T Unit SV) (r : Ev) (f : Str) (args : List Expr) (g : SV × St → TS Fl) (st : St) : TS Fl := match noStar args && !(args.isEmpty) with
  | true => (nameV C f st).bind fun a => match fnOf a.1 with
    | some k => (evL r args a.2).bind fun b => match toArgs b.2 b.1 with
      | some vs => (lift b.2 (FW k vs)).bind g
      | none => .stuck
    | none => .stuck
  | false => .stuck
noncomputable def retW (C : Cx) (r : Ev) (y : Option Expr) (v : SV × St) : TS Fl := match y with
  | none => .ret (.ret v.1, v.2)
  | some y => (r.e y v.2).bind fun b => (cmpV2 C .Eq v.1 b.1 b.2).bind fun c => .ret (.ret c.1, c.2)
noncomputable def wkS (e : Expr) : Option (Str × List Expr × Option Expr) := match wkOf e with
  | some (f, args, y) => match isW f with
    | true => some (f, args, y)
    | false => none
  | none => none
noncomputable def exS4 (C : Cx) (FW : Nat → List SV → T Unit SV) (r : Ev) (k : Nat) (xs : List Stmt → St → TS Fl) (s : Stmt) (st : St) : TS Fl := match s with
  | .Return (some e) pos => match wkS e with
    | some (f, args, y) => callW C FW r f args (retW C r y) st
    | none => exS2 C r k (exN C k) (.Return (some e) pos) st
  | .If test b o _ => (r.t test st).bind fun c => br c.1 (xs b c.2) (xs o c.2)
  | s => exS2 C r k (exN C k) s st
noncomputable def exN4 (C : Cx) (FW : Nat → List SV → T Unit SV) : Nat → List Stmt → St → TS Fl
  | 0, _, _ => .stuck
  | _ + 1, [], st => .ret (.next, st)
  | k + 1, s :: rest, st => (exS4 C FW (ev2 C k) k (exN4 C FW k) s st).bind fun f => match f.1 with
    | .next => exN4 C FW k rest f.2
    | .ret v => .ret (.ret v, f.2)
section
variable {n : Nat} {X : Fx} {A : Around} {C : Cx} {r : Ev} {FW : Nat → List SV → T Unit SV}
set_option tactic.hygienic false in
theorem Rep.nsL {W : Wd} {st : St} {h h' : Heap} (ok : FxOK X) (r : Rep X W st h) (k : ∀ b o, b ≠ X.L → h.get? b = some o → h'.get? b = some o) (n : ∀ m, h.Ns X.L m → h'.Ns X.L m) : Rep X W st h' :=
  ⟨r.z.change ok r.n.own k, ⟨r.n.own, let ⟨m, a, b⟩ := r.n.ns; ⟨m, n m a, b⟩⟩,
    ⟨fun x c e => let ⟨a, b, v, o, p, q⟩ := r.c.own x c e; ⟨a, b, v, o, k _ _ b p, q⟩, r.c.inj, fun x v e => let ⟨c, u, a, ⟨o, p, q⟩, d⟩ := r.c.val x v e; ⟨c, u, a, ⟨o, k _ _ (r.c.own _ _ a).2.1 p, q⟩, d⟩⟩,
    ⟨r.l.len, fun i fz l e => let ⟨a, b, d⟩ := r.l.at_ i fz l e; ⟨a, b, let ⟨o, it, x, y⟩ := d.at_; ⟨o, it, k _ _ d.nL x, y⟩, d.nL, d.nC, d.new, d.own⟩, r.l.inj⟩⟩
set_option tactic.hygienic false in
/-- a call whose way up turned the frame's own object -/
theorem Rep.weak {W : Wd} {st : St} {s s' : Shared} {H' HL' : Addr → Obj → Prop} (ok : FxOK X) (hfm : X.env.frame = some X.L) (rp : Rep X W st s.heap) (c : WCall [X.env] s W.H s' H' HL') :
    W.le ⟨H', fun b o => W.HL b o ∨ HL' b o, W.eta⟩ ∧ Rep X ⟨H', fun b o => W.HL b o ∨ HL' b o, W.eta⟩ st s'.heap := by
  have oL : outL [X.env] = [X.L] := by unfold outL; rw [List.filterMap_cons, hfm]; rfl
  have nb : ∀ {b}, b ≠ X.L → b ∉ outL [X.env] := fun {b} hb q => by rw [oL] at q; exact hb (List.mem_singleton.mp q)
  obtain ⟨m, ⟨oF, es, ep, f1, f2, f3⟩, hv⟩ := rp.n.ns
  obtain ⟨sl, f4⟩ := c.w.ups X.L oF f1 fun vs q => by rw [f2] at q; cases q
  have nf : oF.isFreed = false := by
    obtain ⟨a, b, cc, d⟩ := oF
    simp only at f2
    subst f2
    rfl
  have g1 : (s'.heap.update X.L fun _ => oF).get? X.L = some oF := Heap.get?_update_self _ f4 nf
  have g2 : ∀ b, b ≠ X.L → (s'.heap.update X.L fun _ => oF).get? b = s'.heap.get? b := fun b hb => Heap.get?_update_other _ _ (Ne.symm hb)
  have keep : ∀ b o, b ≠ PT → s.heap.get? b = some o → (s'.heap.update X.L fun _ => oF).get? b = some o := fun b o hp e => by
    by_cases hb : b = X.L
    · subst hb; rw [f1] at e; cases e; exact g1
    · rw [g2 b hb]; exact c.w.keep b o (nb hb) hp e
  have lp : X.L ≠ PT := rp.n.own.ne_pt ok
  have newX : ∀ {P : Addr → Obj → Prop} {b : Addr} {o : Obj}, (P b o → s'.heap.get? b = some o ∧ (W.H b o ∨ s.heap.get? b = none)) → P b o → (s'.heap.update X.L fun _ => oF).get? b = some o ∧ (W.H b o ∨ s.heap.get? b = none) := fun {P b o} h q => by
    obtain ⟨h1, h2⟩ := h q
    have hb : b ≠ X.L := fun e => by
      subst e
      rcases h2 with h2 | h2
      · exact (rp.n.own.2 o).2.1 h2
      · rw [f1] at h2; cases h2
    exact ⟨by rw [g2 b hb]; exact h1, h2⟩
  obtain ⟨le, r'⟩ := rp.extend (h' := s'.heap.update X.L fun _ => oF) (H' := H') (HL' := fun b o => W.HL b o ∨ HL' b o) ok keep (c.w.tab.at fun o e => by rw [g2 _ lp.symm]; exact e) c.up (fun _ _ q => .inl q) (fun b o q => newX (P := H') (c.new b o) q) (fun b o q => by
    rcases q with q | q
    · exact ⟨keep b o (fun e => (rp.z.npt o).2.2 (e ▸ q)) (rp.z.subL b o q), .inl q⟩
    · obtain ⟨h1, h2⟩ := c.newL b o q
      have hb : b ≠ X.L := fun e => by subst e; rw [f1] at h2; cases h2
      exact ⟨by rw [g2 b hb]; exact h1, .inr h2⟩)
  refine ⟨le, r'.nsL ok (fun b o hb e => by rw [g2 b hb] at e; exact e) fun m' ⟨o', es', ep', h1, h2, h3⟩ => ?_⟩
  rw [g1] at h1
  cases h1
  exact ⟨_, es', ep', f4, h2, h3⟩
theorem callW_sound {W : Wd} {st : St} {s : Shared} {Q E : Value → Shared → Prop} {f : Str} {args : List Expr} {np pos : Pos} {g : SV × St → TS Fl} {KQ : Fl × St → Prop} {KZ : St → Prop} (hFW : ∀ f args, ConW n f args (FW f args)) (ok : FxOK X) (co : CxOK n C X) (hA : OKA n A) (hfr : A.frames = some [X.env]) (hfm : X.env.frame = some X.L) (he : SE X A r.e) (rp : Rep X W st s.heap)
    (h : (callW C FW r f args g st).Holds KQ KZ) (hE : ∀ st, KZ st → PostX X W s E st) (hQ : ∀ v s' W' u, (g v).Holds KQ KZ → W.le W' → Rep X W' v.2 s'.heap → Sh s s' → VR W' v.1 u → Q u s') : wpAny (model PW X.w) A (eval (.Call (.Name f np) args [] pos) X.env) Q E s := by
  unfold callW at h
  split at h
  case h_2 => exact h.elim
  next q =>
  simp only [Bool.and_eq_true, Bool.not_eq_true'] at q
  obtain ⟨ns, ne⟩ := q
  refine wpAny_Call_NameR (nameV_sound ok co rp ((T.holds_bind h).mono (fun a ha s' W' u le rp' sh hv => ?_) fun st z => hE st z))
  split at ha
  case h_2 => exact ha.elim
  next k ek =>
  have ek : a.1 = .fn k ∧ okFn (.fn k) = true := by
    unfold fnOf at ek
    split at ek
    · next e1 => split at ek
                 · next e2 => cases ek; exact ⟨e1, e2⟩
                 · cases ek
    · cases ek
  obtain ⟨ek, kf⟩ := ek
  rw [ek] at hv
  simp only [VR] at hv
  subst hv
  have kk := fn_keep (P := X.w.params) kf
  rcases args with _ | ⟨x, rest⟩
  · cases ne
  ·
    obtain ⟨e1, e2⟩ := noStar_cons (env := X.env) (pos := pos) ns
    refine callWith_K (rp'.z.kx ok) kk ?_ e1 e2
    refine evL_sound he (x :: rest) a.2 W' s' _ E rp' ((T.holds_bind ha).mono (fun b hb s₂ W₂ us le₂ rp₂ sh₂ hus => ⟨rp₂.z.kx ok, ?_⟩) fun st z => (hE st z).step le sh)
    split at hb
    case h_2 => exact hb.elim
    next vs ev =>
    have hnp : ∀ {b o}, HLc W₂ s₂.heap b o → b ≠ PT := fun {b o} q e => by
      rcases q with q | ⟨⟨i, q⟩, _⟩
      · exact (rp₂.z.npt o).2.2 (e ▸ q)
      · obtain ⟨_, _, d⟩ : ∃ a, W₂.eta[i]? = some a ∧ X.h0.get? a = none := by
          have hlt := rp₂.l.len ▸ (List.getElem?_eq_some_iff.mp q).1
          obtain ⟨c, hc, d⟩ := rp₂.l.at_ i _ _ (List.getElem?_eq_getElem hlt)
          exact ⟨c, hc, d.new⟩
        next z1 z2 =>
        rw [q] at z2
        cases z2
        obtain ⟨o', ho'⟩ := ok.pt
        rw [e, ho'] at d
        cases d
    have fr : FrOK A s₂.heap [X.env] := ⟨hfr, fun env he => by
      rcases List.mem_cons.mp he with rfl | he
      · obtain ⟨m, hm, _⟩ := rp₂.n.ns
        exact ⟨by rw [show X.env.scope.kind = .function from ok.kind]; decide, X.L, m, hfm, hm, rp₂.n.own.ne_pt ok, ok.big⟩
      · cases he⟩
    have hno : ∀ L ∈ outL [X.env], ∀ o, ¬ W₂.H L o := fun L hL o => by
      have : L = X.L := by
        obtain ⟨env, he, hf⟩ := outL_mem hL
        rw [List.mem_singleton.mp he, hfm] at hf
        exact (Option.some.inj hf).symm
      subst this
      exact (rp₂.n.own.2 o).2.1
    refine hFW k vs X.w X.mg X.mb A s₂ W₂.H (HLc W₂ s₂.heap) us [X.env] Q E hA.c fr hno ⟨rp₂.z.kx ok, rp₂.z.top ok, rp₂.z.tab, let ⟨o, e, q⟩ := ok.bm; ⟨o, rp₂.z.base _ o (by decide) e, q⟩, rp₂.z.kh, fun b o q => ⟨rp₂.z.sub b o q, fun e => (rp₂.z.npt o).2.1 (e ▸ q)⟩, fun b o q => ⟨?_, hnp q⟩⟩ (toArgs_sound rp₂ hus ev)
      ((holds_lift (T.holds_bind hb)).mono (fun v hv s₃ H' HL' u cp hu => ?_) fun _ z => z)
    · rcases q with q | ⟨_, q⟩
      · exact rp₂.z.subL b o q
      · exact q
    · obtain ⟨le₃, r₃⟩ := rp₂.weak ok hfm cp
      exact hQ (v, b.2) s₃ _ u hv ((le.trans le₂).trans le₃) r₃ ((sh.trans sh₂).trans cp.w.sh) (VR.mono (W := ⟨H', HL', []⟩) (W' := ⟨H', fun b o => W₂.HL b o ∨ HL' b o, W₂.eta⟩) ⟨fun _ _ q => q, fun _ _ q => Or.inr q, fun i a q => by simp at q⟩ hu)
theorem exS4_cs {C : Cx} {FW : Nat → List SV → T Unit SV} {r : Ev} {k : Nat} {xs : List Stmt → St → TS Fl} {st : St} {M : Stmt → Prop} (hd : ∀ x, exS4 C FW r k xs x st = exS2 C r k (exN C k) x st → M x) (c1 : ∀ e pos, M (.Return (some e) pos)) (c2 : ∀ t b o p, M (.If t b o p)) (x : Stmt) : M x := by
  cases x <;> (try exact hd _ rfl)
  case Return e p =>
    rcases e with _ | e
    · exact hd _ rfl
    · exact c1 _ _
  case If => exact c2 _ _ _ _
theorem exS4_sound {xs : List Stmt → St → TS Fl} (hFW : ∀ f args, ConW n f args (FW f args)) (ok : FxOK X) (co : CxOK n C X) (hc : CellsOK C X) (hA : OKA n A) (hfr : A.frames = some [X.env]) (hfm : X.env.frame = some X.L) (k : Nat) (he : SE X A r.e) (ht : STt X A r.t) (hx : SX X A xs) (x : Stmt) (st : St) (W : Wd) (s : Shared) (Q : Flow → Shared → Prop) (E : Value → Shared → Prop) (rp : Rep X W st s.heap) :
    (exS4 C FW r k xs x st).Holds (PostF X W s Q) (PostX X W s E) → wpAny (model PW X.w) A (exec x X.env) Q E s := by
  have D : ∀ x, (exS2 C r k (exN C k) x st).Holds (PostF X W s Q) (PostX X W s E) → wpAny (model PW X.w) A (exec x X.env) Q E s := fun x h => exS2_sound ok co hc hA k he ht (fun X' kx => exN_sound hA k kx.ok kx.co kx.hc) x st W s Q E rp h
  refine exS4_cs (C := C) (FW := FW) (r := r) (k := k) (xs := xs) (st := st) (M := fun x => (exS4 C FW r k xs x st).Holds (PostF X W s Q) (PostX X W s E) → wpAny (model PW X.w) A (exec x X.env) Q E s) (fun x e h => D x (e ▸ h)) ?_ ?_ x
  · intro e pos h
    dsimp only [exS4] at h
    split at h
    · next f args y q =>
      unfold wkS at q
      split at q
      case h_2 => cases q
      next f' args' y' e1 =>
      split at q
      case h_2 => cases q
      cases q
      rcases wkOf_form e1 with ⟨fp, cpos, rfl, rfl⟩ | ⟨fp, cpos, y0, pos', rfl, rfl, hs⟩
      · refine wpAny_Return_some (callW_sound hFW ok co hA hfr hfm he rp h (fun _ z => z) fun v s' W' u hv le rp' sh hu => ?_)
        exact hv s' W' le rp' sh u hu
      · skip
        · skip
          have key : behindInMarks .Eq y0 = false := by cases y0 <;> first | rfl | cases hs
          refine wpAny_Return_some (wpAny_Compare1 (callW_sound hFW ok co hA hfr hfm he rp h (fun _ z => z) fun v s' W' u hv le rp' sh hu => ?_) key)
          refine se_bind he rp' hv (fun _ z => z.step le sh) fun b s'' W'' u' hb le' rp'' sh' hv' => ?_
          refine cmpV2_sound ok co hA rp'' (hu.mono le') hv' ((T.holds_bind hb).mono (fun c hcc s₃ W₃ u₃ le₃ rp₃ sh₃ hv₃ => ?_) fun _ z => z.step (le.trans le') (sh.trans sh'))
          exact hcc s₃ W₃ ((le.trans le').trans le₃) rp₃ ((sh.trans sh').trans sh₃) u₃ hv₃
    · exact D _ h
  · intro _ _ _ _ h
    dsimp only [exS4] at h
    refine wpAny_If (ht _ st W s _ _ rp ((T.holds_bind h).mono (fun c hcc s' W' b le rp' sh hb => ?_) fun _ z => z))
    have hh := holds_br hcc hb
    rcases b with _ | _
    rotate_left
    · exact hx _ _ W' s' Q E rp' (hh.mono (fun _ z => z.step le sh) fun _ z => z.step le sh)
    · exact hx _ _ W' s' Q E rp' (hh.mono (fun _ z => z.step le sh) fun _ z => z.step le sh)
end
theorem exN4_sound {n : Nat} {A : Around} {C : Cx} {FW : Nat → List SV → T Unit SV} (hFW : ∀ f args, ConW n f args (FW f args)) (hA : OKA n A) : ∀ k {X : Fx}, FxOK X → CxOK n C X → CellsOK C X → A.frames = some [X.env] → X.env.frame = some X.L → SX X A (exN4 C FW k)
  | 0, _, _, _, _, _, _ => fun _ _ _ _ _ _ _ h => h.elim
  | k + 1, X, ok, co, hc, hfr, hfm => fun b st W s Q E rp h => by
    rcases b with _ | ⟨x, rest⟩
    · exact wpAny_execs_nil (h s W (.refl W) rp (.refl s))
    ·
      obtain ⟨he, ht⟩ := ev2_sound (n := n) (A := A) ok co hc hA k
      refine wpAny_execs_cons (exS4_sound hFW ok co hc hA hfr hfm k he ht (exN4_sound hFW hA k ok co hc hfr hfm) x st W s _ E rp ((T.holds_bind h).mono (fun f hf s' W' le rp' sh => ?_) fun _ z => z))
      split at hf
      · next e => (try rw [e]); exact exN4_sound hFW hA k ok co hc hfr hfm rest f.2 W' s' Q E rp' (hf.mono (fun _ z => z.step le sh) fun _ z => z.step le sh)
      · next v e => (try rw [e]); intro u hu; exact hf s' W' le rp' sh u hu
noncomputable def F14 : Nat → List SV → T Unit SV := addF 361 gNum2 (addF 71 gComp F13)
set_option tactic.hygienic false in
theorem F14_ok : FOK 13 F14 := FOK.add (FOK.add (F13_ok.le (by decide)) comp_con) fun a => (num_con a).le (by decide)
noncomputable def FEx : Nat → List SV → T Unit SV := addF 78 gDec (addF 71 gComp fun _ _ => .stuck)
theorem FEx_ok : ∀ f args, ConE 13 f args (FEx f args) := by
  intro f args
  unfold FEx addF
  split
  · next q => have := Nat.eq_of_beq_eq_true q; subst this; exact dec_conE args
  · split
    · next q => have := Nat.eq_of_beq_eq_true q; subst this; exact comp_conE args
    · exact ConE.stuck _ _ _
noncomputable def runC (F FE : Nat → List SV → T Unit SV) (cv : SV) (o : Option Stmt) (args : List SV) : T Unit SV := run3 (fnN o) gloX F FE cv 60 (fnP o) (fnB o) args
set_option tactic.hygienic false in
theorem runC_conW {n f : Nat} {F FE : Nat → List SV → T Unit SV} {cv : SV} {o : Option Stmt} (fok : FnOK f (fnP o) (fnB o) (fnN o)) (hF : FOK n F) (hFE : ∀ f args, ConE n f args (FE f args)) (args : List SV) : ConW (n + 1) f args (runC F FE cv o args) := run3_conW fok hF hFE gloX_ok args
noncomputable def refused : SV := .str (nm "refused")
/-- what _law_told tells -/
noncomputable def mapT (f : SV → T Unit SV) (e : SV) : T Unit SV → T Unit SV
  | .ret v => f v
  | .dec b t u => .dec b (mapT f e t) (mapT f e u)
  | .need b t => .need b (mapT f e t)
  | .exc _ => .ret e
  | .stuck => .stuck
noncomputable def toldK : SV → T Unit SV
  | .tup [.el _ x x', .el _ y y', .el _ z z'] => .dec (z == 0 && z' == 0) (.ret .none) (.ret (.tup [pT (x, x'), pT (y, y'), pT (z, z')]))
  | _ => .stuck
noncomputable def toldT (p : Int) (b : PP) (z w : Int) : T Unit SV := mapT toldK refused (decT p b z w)
set_option tactic.hygienic false in
theorem told_run19 (b b' z w : Int) : runC F14 FEx refused s_told [.num 19, .tup [.int z none, .int w (some (2 ^ 1900))], .el 19 b b', .tup (elsS 19 (rootsL 19))] = toldT 19 (b, b') z w := by kernel_rfl
set_option tactic.hygienic false in
theorem told_run43 (b b' z w : Int) : runC F14 FEx refused s_told [.num 43, .tup [.int z none, .int w (some (2 ^ 1900))], .el 43 b b', .tup (elsS 43 (rootsL 43))] = toldT 43 (b, b') z w := by kernel_rfl
/-- two numbers -/
noncomputable def zwOf : SV → Option (Int × Int)
  | .tup l => match l with
    | [a, c] => match asI a with
      | some t => match asI c with
        | some u => match u.2.2 with
          | some B => match Nat.ble B (2 ^ 1900) with
            | true => some (t.2.1, u.2.1)
            | false => none
          | none => none
        | none => none
      | none => none
    | _ => none
  | _ => none
noncomputable def zwS (q : Int × Int) : SV := .tup [.int q.1 none, .int q.2 (some (2 ^ 1900))]
set_option tactic.hygienic false in
theorem asI_none {v : SV} {k : Bool} {z : Int} {c : Option Nat} (h : asI v = some (k, z, c)) : SVle v (.int z none) := fun W u hu => by
  simp only [VR]
  exact ⟨(asI_VR hu h).1, trivial⟩
set_option tactic.hygienic false in
theorem asI_some {v : SV} {k : Bool} {z : Int} {B C : Nat} (h : asI v = some (k, z, some B)) (le : B ≤ C) : SVle v (.int z (some C)) := fun W u hu => by
  obtain ⟨h1, h2⟩ := asI_VR hu h
  simp only [VR, bdd] at h2 ⊢
  exact ⟨h1, Nat.le_trans h2 le⟩
theorem zw_le {v : SV} {q : Int × Int} (h : zwOf v = some q) : SVle v (zwS q) := by
  cases v <;> (try exact none_neC h)
  rename_i l
  rcases l with _ | ⟨a, _ | ⟨c, _ | ⟨_, _⟩⟩⟩ <;> (try exact none_neC h)
  dsimp only [zwOf] at h
  cases e1 : asI a with
  | none => rw [e1] at h; exact none_neC h
  | some t =>
  rw [e1] at h
  dsimp only at h
  cases e2 : asI c with
  | none => rw [e2] at h; exact none_neC h
  | some u =>
  rw [e2] at h
  obtain ⟨k, z, b⟩ := t
  obtain ⟨k', w, B⟩ := u
  rcases B with _ | B
  · exact none_neC h
  dsimp only at h
  rcases e3 : Nat.ble B (2 ^ 1900) with _ | _
  · rw [e3] at h; exact none_neC h
  rw [e3] at h
  rw [← Option.some.inj h]
  exact SVle.tup (.cons (asI_none e1) (.cons (asI_some e2 (Nat.le_of_ble_eq_true e3)) .nil))
noncomputable def zwQ (f : Int × Int → T Unit SV) (v : SV) : T Unit SV := match zwOf v with
  | some x => f x
  | none => .stuck
set_option tactic.hygienic false in
theorem zwQ_P {P : T Unit SV → Prop} (hs : P .stuck) {f : Int × Int → T Unit SV} {v : SV} (h : ∀ x, zwOf v = some x → P (f x)) : P (zwQ f v) := by
  unfold zwQ
  rcases e : zwOf v with _ | x
  · exact hs
  · exact h x e
/-- the frame of what _law_told is given -/
noncomputable def gT0 (f : Int → PP → List SV → Int × Int → T Unit SV) : List SV → T Unit SV
  | [q, c, e, t] => elQ (fun p b => tupQ (fun l => mdQ (fun p' => zwQ (fun zw => gtQ (isP p && isEls p (rootsL p) l && decide (p' = p)) (f p b l zw)) c) q) t) e
  | _ => .stuck
set_option tactic.hygienic false in
theorem gT0_W {f : Int → PP → List SV → Int × Int → T Unit SV} (h : ∀ p b zw, isP p = true → ConW 14 347 [.num p, zwS zw, elS p b, .tup (elsS p (rootsL p))] (f p b (elsS p (rootsL p)) zw)) (args : List SV) : ConW 14 347 args (gT0 f args) := by
  rcases args with _ | ⟨q, _ | ⟨c, _ | ⟨e, _ | ⟨t, _ | ⟨_, _⟩⟩⟩⟩⟩ <;> (try exact ConW.stuck _ _ _)
  dsimp only [gT0]
  refine elQ_P (P := ConW 14 347) (ConW.stuck _ _) (a := fun e => [q, c, e, t]) fun p b b' => ?_
  refine tupQ_P (P := fun t k => ConW 14 347 [q, c, .el p b b', t] k) (fun _ => ConW.stuck _ _ _) fun l => ?_
  refine mdQ_P (ConW.stuck _ _ _) fun p' e1 => ?_
  refine zwQ_P (ConW.stuck _ _ _) fun zw e2 => ?_
  refine gtQ_P (ConW.stuck _ _ _) fun hq => ?_
  obtain ⟨hq, e3⟩ := Bool.and_eq_true_iff.mp hq
  obtain ⟨hp, hl⟩ := Bool.and_eq_true_iff.mp hq
  have e3 := of_decide_eq_true e3
  subst e3
  have hl := isEls_eq _ hl
  subst hl
  exact ConW.argsL (.cons ((mod_le e1).trans (md_num _)) (.cons (zw_le e2) (.cons (SVle.refl _) (.cons (SVle.refl _) .nil)))) (h p' (b, b') zw hp)
set_option tactic.hygienic false in
theorem told_c {p : Int} {b : PP} {zw : Int × Int} (hp : isP p = true) : ConW 14 347 [.num p, zwS zw, elS p b, .tup (elsS p (rootsL p))] (toldT p b zw.1 zw.2) := by
  refine (runC_conW (cv := refused) fok_told F14_ok FEx_ok _).conv (TLe.of_eq ?_)
  obtain ⟨z, w⟩ := zw
  obtain ⟨b, b'⟩ := b
  rcases isP_cases hp with rfl | rfl
  · exact told_run19 b b' z w
  · exact told_run43 b b' z w
noncomputable def gMarks (args : List SV) : T Unit SV := runM F13 s_marks args
set_option tactic.hygienic false in
theorem marks_con (args : List SV) : Con 13 251 args (gMarks args) := runM_con fok_marks F13_ok _
/-- the curve's second number -/
noncomputable def bOf (p : Int) : PP := match p == 19 with
  | true => (4, 1)
  | false => (8, 3)
/-- the answer that is due -/
noncomputable def v3 (p : Int) (x b : PP) : PP := addS p (mulS p x (mulS p x x)) b
noncomputable def c2 (x : PP) : Bool := x.1 == 0 && x.2 == 0
noncomputable def bad (m : Int) (x : PP) : Bool := decide (m < 4) || (!((m == 6 || m == 7) == c2 x) || m == 7)
noncomputable def tup3 (x y : PP) : SV := .tup [pT x, pT y, .tup [.num 1, .num 0]]
noncomputable def ansR (p : Int) (m : Int) (x : PP) (o : Option PP) : T Unit SV := .dec o.isSome (.dec (markS p (o.getD (0, 0)) != m) (.ret (tup3 x (oppS p (o.getD (0, 0))))) (.ret (tup3 x (o.getD (0, 0))))) (.ret refused)
noncomputable def ansT (p : Int) (b : PP) (m : Int) (x : PP) : T Unit SV := .dec (bad m x) (.ret refused) (.dec (c2 x) (.ret .none) (.dec (decide (p ≤ x.1)) (.ret refused) (.dec (decide (p ≤ x.2)) (.ret refused) (ansR p m x (rootS p (v3 p x b))))))
/-- the tail of decompress_G2, number by number -/
noncomputable def smI (v : SV) (n : Int) : Bool := match v with
  | .int a (some c) => a == n && Nat.ble c 100
  | _ => false
noncomputable def anyI (v : SV) (n : Int) : Bool := match v with
  | .int a _ => a == n
  | _ => false
noncomputable def tupB (v : SV) (f : List SV → Bool) : Bool := match v with
  | .tup l => f l
  | _ => false
noncomputable def two (f g : SV → Bool) : List SV → Bool
  | [a, b] => f a && g b
  | _ => false
noncomputable def thr (f g h : SV → Bool) : List SV → Bool
  | [a, b, c] => f a && (g b && h c)
  | _ => false
noncomputable def isPT (v : SV) (x : PP) : Bool := tupB v (two (fun a => smI a x.1) fun a => smI a x.2)
noncomputable def isTup3 (v : SV) (x y : PP) : Bool := tupB v (thr (fun a => isPT a x) (fun a => isPT a y) fun a => tupB a (two (fun a => anyI a 1) fun a => anyI a 0))
theorem smI_le {v : SV} {n : Int} (h : smI v n = true) : SVle v (.int n (some 100)) := by
  cases v <;> (try exact (Bool.noConfusion h))
  rename_i a c
  rcases c with _ | c
  · exact Bool.noConfusion h
  ·
    obtain ⟨h1, h2⟩ := Bool.and_eq_true_iff.mp h
    rw [← eq_of_beq h1]
    exact int_le' (Nat.le_of_ble_eq_true h2)
set_option tactic.hygienic false in
theorem anyI_le {v : SV} {n : Int} (h : anyI v n = true) : SVle v (.num n) := by
  cases v <;> (try exact (Bool.noConfusion h))
  rw [← eq_of_beq h]
  exact fun W v hv => by simp only [VR] at hv ⊢; exact hv.1
set_option tactic.hygienic false in
theorem tupB_le {v : SV} {f : List SV → Bool} {l' : List SV} (h : tupB v f = true) (k : ∀ l, f l = true → LeL l l') : SVle v (.tup l') := by
  cases v <;> (try exact (Bool.noConfusion h))
  exact SVle.tup (k _ h)
set_option tactic.hygienic false in
theorem two_le {f g : SV → Bool} {a b : SV} (h1 : ∀ v, f v = true → SVle v a) (h2 : ∀ v, g v = true → SVle v b) (l : List SV) (h : two f g l = true) : LeL l [a, b] := by
  rcases l with _ | ⟨x, _ | ⟨y, _ | ⟨_, _⟩⟩⟩ <;> (try exact (Bool.noConfusion h))
  obtain ⟨q1, q2⟩ := Bool.and_eq_true_iff.mp h
  exact .cons (h1 _ q1) (.cons (h2 _ q2) .nil)
set_option tactic.hygienic false in
theorem thr_le {f g k : SV → Bool} {a b c : SV} (h1 : ∀ v, f v = true → SVle v a) (h2 : ∀ v, g v = true → SVle v b) (h3 : ∀ v, k v = true → SVle v c) (l : List SV) (h : thr f g k l = true) : LeL l [a, b, c] := by
  rcases l with _ | ⟨x, _ | ⟨y, _ | ⟨z, _ | ⟨_, _⟩⟩⟩⟩ <;> (try exact (Bool.noConfusion h))
  obtain ⟨q1, q2⟩ := Bool.and_eq_true_iff.mp h
  obtain ⟨q2, q3⟩ := Bool.and_eq_true_iff.mp q2
  exact .cons (h1 _ q1) (.cons (h2 _ q2) (.cons (h3 _ q3) .nil))
set_option tactic.hygienic false in
theorem isPT_le {x : PP} (v : SV) (h : isPT v x = true) : SVle v (pT x) := tupB_le h (two_le (fun _ => smI_le) fun _ => smI_le)
set_option tactic.hygienic false in
theorem isTup3_le {v : SV} {x y : PP} (h : isTup3 v x y = true) : SVle v (tup3 x y) := tupB_le h (thr_le (isPT_le) (isPT_le) fun _ h => tupB_le h (two_le (fun _ => anyI_le) fun _ => anyI_le))
noncomputable def dueY (p : Int) (m : Int) (r : PP) : PP := match markS p r != m with
  | true => oppS p r
  | false => r
noncomputable def walk3 (x y : PP) (t : T Unit SV) : Bool := match t.walk with
  | some v => isTup3 v x y
  | none => false
noncomputable def tailOK (p : Int) (a b : Nat) : Bool := nz (vOf p ((a : Int), (b : Int)) (bOf p)) && (eqP (vOf p ((a : Int), (b : Int)) (bOf p)) (v3 p ((a : Int), (b : Int)) (bOf p)) && (match rootS p (vOf p ((a : Int), (b : Int)) (bOf p)) with
  | none => true
  | some r => walk3 (a, b) (dueY p 4 r) (mapT toldK refused (dTail p (a, b) (bigS p r) (bOf p) false)) && walk3 (a, b) (dueY p 5 r) (mapT toldK refused (dTail p (a, b) (bigS p r) (bOf p) true))))
set_option tactic.hygienic false in
theorem tail19 : allN (fun x => allN (tailOK 19 x) 19) 19 = true := by kernel_rfl
set_option tactic.hygienic false in
theorem tail43 : allN (fun x => allN (tailOK 43 x) 43) 43 = true := by kernel_rfl
set_option tactic.hygienic false in
theorem tail_all {p : Int} (hp : isP p = true) {x y : Int} (hx : 0 ≤ x) (hx' : x < p) (hy : 0 ≤ y) (hy' : y < p) : tailOK p x.toNat y.toNat = true := by
  rcases isP_cases hp with rfl | rfl
  · exact allN_get (f := tailOK 19 x.toNat) (allN_get (f := fun x => allN (tailOK 19 x) 19) tail19 (by omega)) (by omega)
  · exact allN_get (f := tailOK 43 x.toNat) (allN_get (f := fun x => allN (tailOK 43 x) 43) tail43 (by omega)) (by omega)
set_option tactic.hygienic false in
theorem eight {m : Int} (h : 0 ≤ m) (h' : m < 8) : m = 0 ∨ m = 1 ∨ m = 2 ∨ m = 3 ∨ m = 4 ∨ m = 5 ∨ m = 6 ∨ m = 7 := by
  obtain ⟨n, rfl⟩ := Int.eq_ofNat_of_zero_le h
  have h' : n < 8 := Int.ofNat_lt.mp h'
  match n, h' with
  | 0, _ => exact .inl rfl
  | 1, _ => exact .inr (.inl rfl)
  | 2, _ => exact .inr (.inr (.inl rfl))
  | 3, _ => exact .inr (.inr (.inr (.inl rfl)))
  | 4, _ => exact .inr (.inr (.inr (.inr (.inl rfl))))
  | 5, _ => exact .inr (.inr (.inr (.inr (.inr (.inl rfl)))))
  | 6, _ => exact .inr (.inr (.inr (.inr (.inr (.inr (.inl rfl))))))
  | 7, _ => exact .inr (.inr (.inr (.inr (.inr (.inr (.inr rfl))))))
set_option tactic.hygienic false in
theorem eqP_iff {a c : PP} (h : eqP a c = true) : a = c := by
  unfold eqP at h
  simp only [Bool.and_eq_true, beq_iff_eq] at h
  exact Prod.ext h.1 h.2
set_option tactic.hygienic false in
theorem flags_of {z m x1 : Int} (e : z = x1 + m * 2 ^ 381) (h0 : 0 ≤ x1) (h1 : x1 < 2 ^ 381) : flagS z 383 = (Builtin.bitAnd (m / 4) 1 != 0) ∧ flagS z 382 = (Builtin.bitAnd (m / 2) 1 != 0) ∧ flagS z 381 = (Builtin.bitAnd m 1 != 0) := by
  have d : z / 2 ^ 381 = m := by rw [e, Int.add_mul_ediv_right _ _ (by decide), Int.ediv_eq_zero_of_lt h0 h1, Int.zero_add]
  have p : ∀ k : Int, z / (2 ^ 381 * k) = m / k := fun k => by rw [← Int.ediv_ediv_of_nonneg (by decide), d]
  unfold flagS
  refine ⟨?_, ?_, ?_⟩
  · rw [Int.fdiv_eq_ediv_of_nonneg _ (by decide), show (2 : Int) ^ 383 = 2 ^ 381 * 4 by decide, p]
  · rw [Int.fdiv_eq_ediv_of_nonneg _ (by decide), show (2 : Int) ^ 382 = 2 ^ 381 * 2 by decide, p]
  · rw [Int.fdiv_eq_ediv_of_nonneg _ (by decide), d]
set_option tactic.hygienic false in
theorem told_core {f3 f2 f1 inf bd c g1 g2 : Bool} {R U Z : T Unit SV} {K : SV → Prop} {ref : SV} (e1 : inf = c) (hb : bd = (!f3 || !(f2 == inf) || (inf && f1)))
    (hU : f3 = true → f2 = false → inf = false → g1 = false → g2 = false → R.Holds K (fun _ => False) → U.Holds K (fun _ => False)) (hZ : K .none → Z.Holds K (fun _ => False))
    (h : (T.dec bd (.ret ref) (.dec c (.ret .none) (.dec g2 (.ret ref) (.dec g1 (.ret ref) R)))).Holds K (fun _ => False)) :
    (T.dec (!f3) (.ret ref) (.dec (!(f2 == inf)) (.ret ref) (.dec inf (.dec f1 (.ret ref) Z) (.dec g1 (.ret ref) (.dec g2 (.ret ref) U))))).Holds K (fun _ => False) := by
  subst e1
  obtain ⟨h1, h2⟩ := h
  refine ⟨fun q => h1 (by rw [hb, q]; rfl), fun q => ⟨fun q2 => h1 (by rw [hb, q, q2]; rfl), fun q2 => ⟨fun q3 => ⟨fun q4 => h1 (by rw [hb, q3, q4]; cases f3 <;> cases f2 <;> rfl), fun q4 => hZ ((h2 (by rw [hb, q, q2, q3, q4]; rfl)).1 q3)⟩, fun q3 => ?_⟩⟩⟩
  have hbf : bd = false := by rw [hb, q, q2, q3]; rfl
  have h3 := (h2 hbf).2 q3
  have f3' : f3 = true := by cases f3 <;> first | rfl | cases q
  have f2' : f2 = false := by rw [q3] at q2; cases f2 <;> first | rfl | cases q2
  refine ⟨fun q4 => ?_, fun q4 => ⟨fun q5 => h3.1 q5, fun q5 => hU f3' f2' q3 q4 q5 ((h3.2 q5).2 q4)⟩⟩
  rcases q5 : g2 with _ | _
  rotate_left
  · exact h3.1 q5
  · exact (h3.2 q5).1 q4
theorem due_le {p m : Int} {x r : PP} {a : Bool} {K : SV → Prop} {U : T Unit SV} (kk : Kok K) (hw : walk3 x (dueY p m r) U = true) (h : (ansR p m x (some r)).Holds K (fun _ => False)) : U.Holds K (fun _ => False) := by
  have kt : K (tup3 x (dueY p m r)) := by
    have := h.1 rfl
    unfold dueY
    rcases q : markS p r != m with _ | _
    rotate_left
    · exact this.1 q
    · exact this.2 q
  unfold walk3 at hw
  split at hw
  · next v hv => exact T.walk_holds (kk _ _ (isTup3_le hw) kt) hv
  · cases hw
set_option tactic.hygienic false in
theorem root_le {p m w x1 : Int} {a : Bool} {K : SV → Prop} (hp : isP p = true) (hma : (m = 4 ∧ a = false) ∨ (m = 5 ∧ a = true)) (kk : Kok K) (hw : 0 ≤ w) (hw' : w < p) (h0 : 0 ≤ x1) (h1 : x1 < p) (h : (ansR p m (w, x1) (rootS p (v3 p (w, x1) (bOf p)))).Holds K (fun _ => False)) :
    (mapT toldK refused (dRoot p (w, x1) (bOf p) a)).Holds K (fun _ => False) := by
  have ok := tail_all hp hw hw' h0 h1
  unfold tailOK at ok
  rw [show ((w.toNat : Nat) : Int) = w by omega, show ((x1.toNat : Nat) : Int) = x1 by omega] at ok
  simp only [Bool.and_eq_true] at ok
  obtain ⟨o1, o2, o3⟩ := ok
  have o2 := eqP_iff o2
  rw [← o2] at h
  refine ⟨o1, fun q => ?_, fun q => ?_⟩
  · rcases e : rootS p (vOf p (w, x1) (bOf p)) with _ | r
    · rw [e] at q; cases q
    ·
      rw [e] at h o3
      simp only [Bool.and_eq_true] at o3
      rcases hma with ⟨rfl, rfl⟩ | ⟨rfl, rfl⟩
      · exact due_le (a := false) kk o3.1 h
      · exact due_le (a := true) kk o3.2 h
  · exact h.2 q
set_option tactic.hygienic false in
theorem bad_eq {m : Int} {x : PP} (hm : 0 ≤ m) (hm' : m < 8) : bad m x = (!(Builtin.bitAnd (m / 4) 1 != 0) || !((Builtin.bitAnd (m / 2) 1 != 0) == c2 x) || (c2 x && (Builtin.bitAnd m 1 != 0))) := by
  unfold bad
  have := eight hm hm'
  rcases this with rfl | rfl | rfl | rfl | rfl | rfl | rfl | rfl <;> cases c2 x <;> decide +kernel
set_option tactic.hygienic false in
theorem told_le {p z w : Int} (hp : isP p = true) (hz : 0 ≤ z) (hz' : z < 8 * 2 ^ 381) (hw : 0 ≤ w) : TLe (ansT p (bOf p) (z.fdiv (2 ^ 381)) (w, z.fmod (2 ^ 381))) (toldT p (bOf p) z w) := ⟨fun K kk h => by
  have hp43 : p < 100 := by rcases isP_cases hp with rfl | rfl <;> decide
  have pos : (0 : Int) < 2 ^ 381 := by decide
  have h0 := Int.fmod_nonneg_of_pos z pos
  have h1 := Int.fmod_lt_of_pos z pos
  have e : z = z.fmod (2 ^ 381) + z.fdiv (2 ^ 381) * 2 ^ 381 := by
    have := Int.fmod_add_mul_fdiv z (2 ^ 381)
    rw [Int.mul_comm] at this
    exact this.symm
  have hm : 0 ≤ z.fdiv (2 ^ 381) := by rw [Int.fdiv_eq_ediv_of_nonneg _ (by decide)]; omega
  have hm' : z.fdiv (2 ^ 381) < 8 := by rw [Int.fdiv_eq_ediv_of_nonneg _ (by decide)]; omega
  obtain ⟨f3, f2, f1⟩ := flags_of e h0 h1
  have be := bad_eq (x := (w, z.fmod (2 ^ 381))) hm hm'
  generalize hmm : z.fdiv (2 ^ 381) = m at *
  generalize hxx : z.fmod (2 ^ 381) = x1 at *
  have hinf : infS z w = c2 (w, x1) := by
    unfold infS c2
    rw [hxx]
    exact Bool.and_comm _ _
  rw [← f3, ← f2, ← f1, ← hinf] at be
  have tx : toldT p (bOf p) z w = .dec (!(flagS z 383)) (.ret refused) (.dec (!(flagS z 382 == infS z w)) (.ret refused) (.dec (infS z w) (.dec (flagS z 381) (.ret refused) (toldK (.tup [elS p (oneS p), elS p (oneS p), elS p (zS p)]))) (.dec (decide (p ≤ z.fmod (2 ^ 381))) (.ret refused) (.dec (decide (p ≤ w)) (.ret refused) (mapT toldK refused (dRoot p (xOf p z w) (bOf p) (flagS z 381))))))) := rfl
  rw [tx, hxx]
  refine told_core hinf be (fun q3 q2 _ g1 g2 hR => ?_) (fun hk => ?_) h
  · have g1 : x1 < p := by have := of_decide_eq_false g1; omega
    have g2 : w < p := by have := of_decide_eq_false g2; omega
    have xe : xOf p z w = (w, x1) := by
      unfold xOf
      rw [hxx, Int.fmod_eq_of_lt hw g2, Int.fmod_eq_of_lt h0 g1]
    rw [xe]
    refine root_le hp ?_ kk hw g2 h0 g1 hR
    rw [q3] at f3
    rw [q2] at f2
    rw [f1]
    have := eight hm hm'
    rcases this with rfl | rfl | rfl | rfl | rfl | rfl | rfl | rfl
    · revert f3; decide +kernel
    · revert f3; decide +kernel
    · revert f3; decide +kernel
    · revert f3; decide +kernel
    · exact .inl ⟨rfl, by decide +kernel⟩
    · exact .inr ⟨rfl, by decide +kernel⟩
    · revert f2; decide +kernel
    · revert f2; decide +kernel
  · refine ⟨fun _ => hk, fun q => ?_⟩
    have : ((zS p).1 == 0 && (zS p).2 == 0) = true := by rcases isP_cases hp with rfl | rfl <;> decide +kernel
    have q : ((zS p).1 == 0 && (zS p).2 == 0) = false := q
    rw [this] at q
    cases q⟩
/-- _law_told, in short -/
noncomputable def gTold2 : List SV → T Unit SV := gT0 fun p b _ zw => gtQ (eqP b (bOf p)) (.need (decide (0 ≤ zw.1) && decide (zw.1 < 8 * 2 ^ 381) && decide (0 ≤ zw.2)) (ansT p (bOf p) (zw.1.fdiv (2 ^ 381)) (zw.2, zw.1.fmod (2 ^ 381))))
set_option tactic.hygienic false in
theorem told2_conW (args : List SV) : ConW 14 347 args (gTold2 args) := gT0_W (fun p b zw hp => by
  refine gtQ_P (ConW.stuck _ _ _) fun hb => ?_
  refine (told_c hp).conv (TLe.need fun hn => ?_)
  obtain ⟨hn, n3⟩ := Bool.and_eq_true_iff.mp hn
  obtain ⟨n1, n2⟩ := Bool.and_eq_true_iff.mp hn
  rw [eqP_iff hb]
  exact told_le hp (of_decide_eq_true n1) (of_decide_eq_true n2) (of_decide_eq_true n3)) args
/-- what is due: the raw tree -/
noncomputable def dueT (p : Int) (b : PP) (m : Int) (c0 : Bool) (x : PP) : T Unit SV := .dec (!(c0 == c2 x)) (.ret refused) (.dec (c2 x) (.ret .none) (.dec (decide (p ≤ x.1)) (.ret refused) (.dec (decide (p ≤ x.2)) (.ret refused) (ansR p m x (rootS p (v3 p x b))))))
noncomputable def dueB (p : Int) (c0 : Bool) (x : PP) : T Unit SV := .dec (!(c0 == c2 x)) (.ret refused) (.dec (c2 x) (.ret .none) (.dec (decide (p ≤ x.1)) (.ret refused) (.dec (decide (p ≤ x.2)) (.ret refused) .stuck)))
noncomputable def due7 (c0 : Bool) (x : PP) : T Unit SV := .dec (!(c0 == c2 x)) (.ret refused) (.ret refused)
noncomputable def rDue (p m : Int) (x : SV) : T Unit SV := runM F14 s_due [.num p, pT (bOf p), .num m, x]
set_option tactic.hygienic false in
theorem due19_0 (v : SV) : rDue 19 0 v = .ret refused := by kernel_rfl
set_option tactic.hygienic false in
theorem due19_1 (v : SV) : rDue 19 1 v = .ret refused := by kernel_rfl
set_option tactic.hygienic false in
theorem due19_2 (v : SV) : rDue 19 2 v = .ret refused := by kernel_rfl
set_option tactic.hygienic false in
theorem due19_3 (v : SV) : rDue 19 3 v = .ret refused := by kernel_rfl
set_option tactic.hygienic false in
theorem due43_0 (v : SV) : rDue 43 0 v = .ret refused := by kernel_rfl
set_option tactic.hygienic false in
theorem due43_1 (v : SV) : rDue 43 1 v = .ret refused := by kernel_rfl
set_option tactic.hygienic false in
theorem due43_2 (v : SV) : rDue 43 2 v = .ret refused := by kernel_rfl
set_option tactic.hygienic false in
theorem due43_3 (v : SV) : rDue 43 3 v = .ret refused := by kernel_rfl
set_option tactic.hygienic false in
theorem due19_4 (x : PP) : rDue 19 4 (pT x) = dueT 19 (bOf 19) 4 false x := by kernel_rfl
set_option tactic.hygienic false in
theorem due19_5 (x : PP) : rDue 19 5 (pT x) = dueT 19 (bOf 19) 5 false x := by kernel_rfl
set_option tactic.hygienic false in
theorem due19_6 (x : PP) : rDue 19 6 (pT x) = dueT 19 (bOf 19) 6 true x := by kernel_rfl
set_option tactic.hygienic false in
theorem due19_7 (x : PP) : rDue 19 7 (pT x) = due7 true x := by kernel_rfl
set_option tactic.hygienic false in
theorem due43_4 (x : PP) : rDue 43 4 (pT x) = dueT 43 (bOf 43) 4 false x := by kernel_rfl
set_option tactic.hygienic false in
theorem due43_5 (x : PP) : rDue 43 5 (pT x) = dueT 43 (bOf 43) 5 false x := by kernel_rfl
set_option tactic.hygienic false in
theorem due43_6 (x : PP) : rDue 43 6 (pT x) = dueT 43 (bOf 43) 6 true x := by kernel_rfl
set_option tactic.hygienic false in
theorem due43_7 (x : PP) : rDue 43 7 (pT x) = due7 true x := by kernel_rfl
noncomputable def bT (x : PP) : SV := .tup [.int x.1 none, .int x.2 none]
set_option tactic.hygienic false in
theorem duB19_4 (x : PP) : rDue 19 4 (bT x) = dueB 19 false x := by kernel_rfl
set_option tactic.hygienic false in
theorem duB19_5 (x : PP) : rDue 19 5 (bT x) = dueB 19 false x := by kernel_rfl
set_option tactic.hygienic false in
theorem duB19_6 (x : PP) : rDue 19 6 (bT x) = dueB 19 true x := by kernel_rfl
set_option tactic.hygienic false in
theorem duB19_7 (x : PP) : rDue 19 7 (bT x) = due7 true x := by kernel_rfl
set_option tactic.hygienic false in
theorem duB43_4 (x : PP) : rDue 43 4 (bT x) = dueB 43 false x := by kernel_rfl
set_option tactic.hygienic false in
theorem duB43_5 (x : PP) : rDue 43 5 (bT x) = dueB 43 false x := by kernel_rfl
set_option tactic.hygienic false in
theorem duB43_6 (x : PP) : rDue 43 6 (bT x) = dueB 43 true x := by kernel_rfl
set_option tactic.hygienic false in
theorem duB43_7 (x : PP) : rDue 43 7 (bT x) = due7 true x := by kernel_rfl
/-- in short -/
noncomputable def ansB (p : Int) (m : Int) (x : PP) : T Unit SV := .dec (bad m x) (.ret refused) (.dec (c2 x) (.ret .none) (.dec (decide (p ≤ x.1)) (.ret refused) (.dec (decide (p ≤ x.2)) (.ret refused) .stuck)))
set_option tactic.hygienic false in
theorem bad_0 {m : Int} {x : PP} (h : bad m x = true) {t R : T Unit SV} (e : t = .ret refused) : TLe (.dec (bad m x) (.ret refused) R) t := ⟨fun K _ k => by rw [e]; exact k.1 h⟩
set_option tactic.hygienic false in
theorem bad_7 {x : PP} {t R : T Unit SV} (e : t = due7 true x) : TLe (.dec (bad 7 x) (.ret refused) R) t := ⟨fun K _ k => by
  have hb : bad 7 x = true := by unfold bad; cases c2 x <;> decide +kernel
  rw [e]; exact ⟨fun _ => k.1 hb, fun _ => k.1 hb⟩⟩
set_option tactic.hygienic false in
theorem bad_n {m : Int} {x : PP} {c0 : Bool} {t R : T Unit SV} (hb : bad m x = !(c0 == c2 x)) (e : t = .dec (!(c0 == c2 x)) (.ret refused) R) : TLe (.dec (bad m x) (.ret refused) R) t := ⟨fun K _ k => by rw [e, ← hb]; exact k⟩
set_option tactic.hygienic false in
theorem due_small {p m : Int} {x : PP} (hp : isP p = true) (hm : 0 ≤ m) (hm' : m < 8) : TLe (ansT p (bOf p) m x) (rDue p m (pT x)) := by
  unfold ansT
  have := eight hm hm'
  rcases isP_cases hp with rfl | rfl <;> rcases this with rfl | rfl | rfl | rfl | rfl | rfl | rfl | rfl
  · exact bad_0 rfl (due19_0 _)
  · exact bad_0 rfl (due19_1 _)
  · exact bad_0 rfl (due19_2 _)
  · exact bad_0 rfl (due19_3 _)
  · exact bad_n (by unfold bad; cases c2 x <;> decide +kernel) (due19_4 x)
  · exact bad_n (by unfold bad; cases c2 x <;> decide +kernel) (due19_5 x)
  · exact bad_n (by unfold bad; cases c2 x <;> decide +kernel) (due19_6 x)
  · exact bad_7 (due19_7 x)
  · exact bad_0 rfl (due43_0 _)
  · exact bad_0 rfl (due43_1 _)
  · exact bad_0 rfl (due43_2 _)
  · exact bad_0 rfl (due43_3 _)
  · exact bad_n (by unfold bad; cases c2 x <;> decide +kernel) (due43_4 x)
  · exact bad_n (by unfold bad; cases c2 x <;> decide +kernel) (due43_5 x)
  · exact bad_n (by unfold bad; cases c2 x <;> decide +kernel) (due43_6 x)
  · exact bad_7 (due43_7 x)
set_option tactic.hygienic false in
theorem due_big {p m : Int} {x : PP} (hp : isP p = true) (hm : 0 ≤ m) (hm' : m < 8) : TLe (ansB p m x) (rDue p m (bT x)) := by
  unfold ansB
  have := eight hm hm'
  rcases isP_cases hp with rfl | rfl <;> rcases this with rfl | rfl | rfl | rfl | rfl | rfl | rfl | rfl
  · exact bad_0 rfl (due19_0 _)
  · exact bad_0 rfl (due19_1 _)
  · exact bad_0 rfl (due19_2 _)
  · exact bad_0 rfl (due19_3 _)
  · exact bad_n (by unfold bad; cases c2 x <;> decide +kernel) (duB19_4 x)
  · exact bad_n (by unfold bad; cases c2 x <;> decide +kernel) (duB19_5 x)
  · exact bad_n (by unfold bad; cases c2 x <;> decide +kernel) (duB19_6 x)
  · exact bad_7 (duB19_7 x)
  · exact bad_0 rfl (due43_0 _)
  · exact bad_0 rfl (due43_1 _)
  · exact bad_0 rfl (due43_2 _)
  · exact bad_0 rfl (due43_3 _)
  · exact bad_n (by unfold bad; cases c2 x <;> decide +kernel) (duB43_4 x)
  · exact bad_n (by unfold bad; cases c2 x <;> decide +kernel) (duB43_5 x)
  · exact bad_n (by unfold bad; cases c2 x <;> decide +kernel) (duB43_6 x)
  · exact bad_7 (duB43_7 x)
noncomputable def bigP : SV → Option PP
  | .tup l => match l with
    | [a, c] => match asI a with
      | some x => match asI c with
        | some y => some (x.2.1, y.2.1)
        | none => none
      | none => none
    | _ => none
  | _ => none
theorem bigP_le {v : SV} {x : PP} (h : bigP v = some x) : SVle v (bT x) := by
  cases v <;> (try exact none_neC h)
  rename_i l
  rcases l with _ | ⟨a, _ | ⟨c, _ | ⟨_, _⟩⟩⟩ <;> (try exact none_neC h)
  dsimp only [bigP] at h
  rcases e1 : asI a with _ | t
  · rw [e1] at h; exact none_neC h
  rw [e1] at h
  dsimp only at h
  rcases e2 : asI c with _ | u
  · rw [e2] at h; exact none_neC h
  rw [e2] at h
  rw [← Option.some.inj h]
  exact SVle.tup (.cons (asI_none e1) (.cons (asI_none e2) .nil))
noncomputable def gDu (p m : Int) (x : SV) : T Unit SV := match smP x with
  | some y => ansT p (bOf p) m y
  | none => match bigP x with
    | some y => ansB p m y
    | none => .stuck
noncomputable def gDue : List SV → T Unit SV
  | [q, b, c, x] => match c with
    | .num m => mdQ (fun p => smQ (fun bb => gtQ (isP p && eqP bb (bOf p) && decide (0 ≤ m) && decide (m < 8)) (gDu p m x)) b) q
    | _ => .stuck
  | _ => .stuck
theorem due_con (args : List SV) : Con 14 354 args (gDue args) := by
  rcases args with _ | ⟨q, _ | ⟨b, _ | ⟨c, _ | ⟨x, _ | ⟨_, _⟩⟩⟩⟩⟩ <;> (try exact Con.stuck _ _ _)
  cases c <;> (try exact Con.stuck _ _ _)
  rename_i m
  dsimp only [gDue]
  refine mdQ_P (Con.stuck _ _ _) fun p e1 => ?_
  refine smQ_P (Con.stuck _ _ _) fun bb e2 => ?_
  refine gtQ_P (Con.stuck _ _ _) fun h => ?_
  obtain ⟨h, h1⟩ := Bool.and_eq_true_iff.mp h
  obtain ⟨h, h0⟩ := Bool.and_eq_true_iff.mp h
  obtain ⟨hp, hb⟩ := Bool.and_eq_true_iff.mp h
  have h0 := of_decide_eq_true h0
  have h1 := of_decide_eq_true h1
  have hb := eqP_iff hb
  subst hb
  unfold gDu
  rcases e3 : smP x with _ | y
  rotate_left
  · exact Con.argsL (.cons ((mod_le e1).trans (md_num p)) (.cons (smP_le e2) (.cons (SVle.refl _) (.cons (smP_le e3) .nil)))) ((runM_con fok_due F14_ok _).conv (due_small hp h0 h1))
  · rcases e4 : bigP x with _ | y
    · exact Con.stuck _ _ _
    · exact Con.argsL (.cons ((mod_le e1).trans (md_num p)) (.cons (smP_le e2) (.cons (SVle.refl _) (.cons (bigP_le e4) .nil)))) ((runM_con fok_due F14_ok _).conv (due_big hp h0 h1))
/-- the field by whole numbers -/
noncomputable def mulI (a c : PP) : PP := (a.1 * c.1 - a.2 * c.2, a.1 * c.2 + a.2 * c.1)
noncomputable def addI (a c : PP) : PP := (a.1 + c.1, a.2 + c.2)
noncomputable def subI (a c : PP) : PP := (a.1 - c.1, a.2 - c.2)
noncomputable def mdI (p : Int) (a : PP) : PP := (a.1.fmod p, a.2.fmod p)
set_option tactic.hygienic false in
theorem fm_eq {p x y : Int} (k : Int) (h : x = y + p * k) : x.fmod p = y.fmod p := by rw [h, Int.add_mul_fmod_self_left]
set_option tactic.hygienic false in
theorem fm_out (p x : Int) : x = x.fmod p + p * x.fdiv p := (Int.fmod_add_mul_fdiv x p).symm
set_option tactic.hygienic false in
theorem mdI_mul (p : Int) (a c : PP) : mdI p (mulI (mdI p a) c) = mdI p (mulI a c) := by
  have h1 := fm_out p a.1
  have h2 := fm_out p a.2
  unfold mdI mulI
  generalize a.1.fmod p = u1 at *
  generalize a.2.fmod p = u2 at *
  generalize a.1.fdiv p = k1 at *
  generalize a.2.fdiv p = k2 at *
  refine Prod.ext (fm_eq (-(k1 * c.1) + k2 * c.2) ?_) (fm_eq (-(k1 * c.2) - k2 * c.1) ?_) <;> simp only [h1, h2] <;> grind
set_option tactic.hygienic false in
theorem mulI_comm (a c : PP) : mulI a c = mulI c a := by unfold mulI; refine Prod.ext ?_ ?_ <;> simp only <;> grind
set_option tactic.hygienic false in
theorem mdI_mulR (p : Int) (a c : PP) : mdI p (mulI a (mdI p c)) = mdI p (mulI a c) := by rw [mulI_comm, mdI_mul, mulI_comm]
set_option tactic.hygienic false in
theorem mdI_md (p : Int) (a : PP) : mdI p (mdI p a) = mdI p a := by unfold mdI; simp only [Int.fmod_fmod]
set_option tactic.hygienic false in
theorem mdI_sub (p : Int) (a c : PP) : mdI p (subI (mdI p a) c) = mdI p (subI a c) := by
  unfold mdI subI
  refine Prod.ext (fm_eq (-(a.1.fdiv p)) ?_) (fm_eq (-(a.2.fdiv p)) ?_)
  · have := fm_out p a.1; simp only; grind
  · have := fm_out p a.2; simp only; grind
set_option tactic.hygienic false in
theorem mdI_subR (p : Int) (a c : PP) : mdI p (subI a (mdI p c)) = mdI p (subI a c) := by
  unfold mdI subI
  refine Prod.ext (fm_eq (c.1.fdiv p) ?_) (fm_eq (c.2.fdiv p) ?_)
  · have := fm_out p c.1; simp only; grind
  · have := fm_out p c.2; simp only; grind
set_option tactic.hygienic false in
theorem mdI_add (p : Int) (a c : PP) : mdI p (addI (mdI p a) c) = mdI p (addI a c) := by
  unfold mdI addI
  refine Prod.ext (fm_eq (-(a.1.fdiv p)) ?_) (fm_eq (-(a.2.fdiv p)) ?_)
  · have := fm_out p a.1; simp only; grind
  · have := fm_out p a.2; simp only; grind
set_option tactic.hygienic false in
theorem pow2_eq (p : Int) (a : PP) : powS p 2 a = mdI p (mulI (mdI p (1, 0)) (mdI p (mulI a a))) := by rfl
set_option tactic.hygienic false in
theorem pow3_eq (p : Int) (a : PP) : powS p 3 a = mdI p (mulI (mdI p (mulI (mdI p (1, 0)) a)) (mdI p (mulI a a))) := by rfl
set_option tactic.hygienic false in
theorem mulS_eq (p : Int) (a c : PP) : mulS p a c = mdI p (mulI a c) := rfl
set_option tactic.hygienic false in
theorem subS_eq (p : Int) (a c : PP) : subS p a c = mdI p (subI a c) := rfl
set_option tactic.hygienic false in
theorem addS_eq (p : Int) (a c : PP) : addS p a c = mdI p (addI a c) := rfl
set_option tactic.hygienic false in
theorem eqP_of {a c : PP} (h : a = c) : eqP a c = true := by subst h; unfold eqP; simp
set_option tactic.hygienic false in
theorem scale_ring (X Y s : PP) : subI (mulI (mulI (1, 0) (mulI (mulI Y s) (mulI Y s))) s) (mulI (mulI (1, 0) (mulI X s)) (mulI (mulI X s) (mulI X s))) = mulI (subI (mulI Y Y) (mulI X (mulI X X))) (mulI (mulI (1, 0) s) (mulI s s)) := by
  unfold mulI subI; refine Prod.ext ?_ ?_ <;> simp only <;> grind
set_option tactic.hygienic false in
theorem sub_of_add {p : Int} {A B b : PP} (h : mdI p A = mdI p (addI B b)) : mdI p (subI A B) = mdI p b := by
  rw [← mdI_sub, h, mdI_sub]
  unfold subI addI
  refine congrArg (mdI p) (Prod.ext ?_ ?_) <;> simp only <;> omega
set_option tactic.hygienic false in
theorem add_of_sub {p : Int} {A B b : PP} (h : mdI p (subI A B) = mdI p b) : mdI p A = mdI p (addI B b) := by
  have : mdI p (addI (subI A B) B) = mdI p (addI b B) := by rw [← mdI_add, h, mdI_add]
  have e1 : addI (subI A B) B = A := by unfold subI addI; refine Prod.ext ?_ ?_ <;> simp only <;> omega
  have e2 : addI b B = addI B b := by unfold addI; refine Prod.ext ?_ ?_ <;> simp only <;> omega
  rw [e1, e2] at this
  exact this
set_option tactic.hygienic false in
/-- on the curve, scaled -/
theorem on_scaled {p : Int} {X Y b s : PP} (h : mulS p Y Y = addS p (mulS p X (mulS p X X)) b) : onS p (mulS p X s) (mulS p Y s) s b = true := by
  have h' : mdI p (mulI Y Y) = mdI p (addI (mulI X (mulI X X)) b) := by simpa only [mulS_eq, addS_eq, mdI_mulR, mdI_add] using h
  have h3 := sub_of_add h'
  unfold onS
  have : eqP (subS p (mulS p (powS p 2 (mulS p Y s)) s) (powS p 3 (mulS p X s))) (mulS p b (powS p 3 s)) = true := by
    refine eqP_of ?_
    simp only [pow2_eq, pow3_eq, mulS_eq, subS_eq, mdI_mul, mdI_mulR, mdI_sub, mdI_subR, mdI_md]
    rw [scale_ring, ← mdI_mul, h3, mdI_mul]
  rw [this, Bool.or_true]
set_option tactic.hygienic false in
theorem unscale {p : Int} {X s : PP} (hs : mulS p s (invS p s) = (1, 0)) (hX : mdI p X = X) : divS p (mulS p X s) s = X := by
  have h : mdI p (mulI s (invS p s)) = (1, 0) := hs
  unfold divS
  simp only [mulS_eq, mdI_mul]
  have e : mulI (mulI X s) (invS p s) = mulI X (mulI s (invS p s)) := by unfold mulI; refine Prod.ext ?_ ?_ <;> simp only <;> grind
  rw [e, ← mdI_mulR, h]
  have e2 : mulI X (1, 0) = X := by unfold mulI; refine Prod.ext ?_ ?_ <;> simp only <;> omega
  rw [e2, hX]
set_option tactic.hygienic false in
theorem one_ring (u X : PP) : subI (mulI (mulI (1, 0) (mulI u u)) (1, 0)) (mulI (mulI (1, 0) X) (mulI X X)) = subI (mulI u u) (mulI X (mulI X X)) := by
  unfold mulI subI; refine Prod.ext ?_ ?_ <;> simp only <;> grind
set_option tactic.hygienic false in
theorem one_cube (b : PP) : mulI b (mulI (mulI (1, 0) (1, 0)) (mulI (1, 0) (1, 0))) = b := by
  unfold mulI; refine Prod.ext ?_ ?_ <;> simp only <;> omega
set_option tactic.hygienic false in
theorem off_one {p : Int} {X u b o : PP} (ho : o = mdI p (1, 0)) (h0 : eqP o (zS p) = false) (h : mulS p u u ≠ addS p (mulS p X (mulS p X X)) b) : onS p X u o b = false := by
  unfold onS
  rw [h0, Bool.false_or]
  refine Bool.eq_false_iff.mpr fun q => h ?_
  have q := eqP_iff q
  subst ho
  simp only [pow2_eq, pow3_eq, mulS_eq, subS_eq, mdI_mul, mdI_mulR, mdI_sub, mdI_subR, mdI_md] at q
  rw [one_ring, one_cube] at q
  simpa only [mulS_eq, addS_eq, mdI_mulR, mdI_add] using add_of_sub q
/-- a script's number -/
noncomputable def cut (n : Int) : Int := match decide (-1000000000 < n) && decide (n < 1000000000) with
  | true => n
  | false => n.fmod 1000003
noncomputable def mkL (n : Nat) (g : Nat → Int) : List SV := (List.range n).map fun i => .int (g i) none
noncomputable def cutT (n : Int) : T Unit SV := .dec (decide (-1000000000 < n)) (.dec (decide (n < 1000000000)) (.ret (.int n none)) (.ret (.int (n.fmod 1000003) (some 1000003)))) (.ret (.int (n.fmod 1000003) (some 1000003)))
noncomputable def atT (n k : Nat) (g : Nat → Int) : T Unit SV := match Nat.blt k n with
  | true => cutT (g k)
  | false => .ret (.num (5 * k + 2))
noncomputable def runAt (n k : Nat) (g : Nat → Int) : T Unit SV := runM F13 s_at [.fl (mkL n g), .num k]
noncomputable def atA (k : Nat) (g : Nat → Int) : List (T Unit SV) := (List.range 64).map (fun n => runAt n k g)
noncomputable def atB (k : Nat) (g : Nat → Int) : List (T Unit SV) := (List.range 64).map (fun n => atT n k g)
set_option tactic.hygienic false in
theorem at0 (g : Nat → Int) : atA 0 g = atB 0 g := by kernel_rfl
set_option tactic.hygienic false in
theorem at1 (g : Nat → Int) : atA 1 g = atB 1 g := by kernel_rfl
set_option tactic.hygienic false in
theorem at3 (g : Nat → Int) : atA 3 g = atB 3 g := by kernel_rfl
set_option tactic.hygienic false in
theorem at4 (g : Nat → Int) : atA 4 g = atB 4 g := by kernel_rfl
set_option tactic.hygienic false in
theorem at5 (g : Nat → Int) : atA 5 g = atB 5 g := by kernel_rfl
set_option tactic.hygienic false in
theorem at6 (g : Nat → Int) : atA 6 g = atB 6 g := by kernel_rfl
set_option tactic.hygienic false in
theorem at7 (g : Nat → Int) : atA 7 g = atB 7 g := by kernel_rfl
set_option tactic.hygienic false in
theorem at8 (g : Nat → Int) : atA 8 g = atB 8 g := by kernel_rfl
set_option tactic.hygienic false in
theorem at9 (g : Nat → Int) : atA 9 g = atB 9 g := by kernel_rfl
noncomputable def isI : SV → Bool
  | .int _ none => true
  | _ => false
noncomputable def okL (l : List SV) : Bool := Nat.blt l.length 64 && l.all isI
noncomputable def valI (l : List SV) (i : Nat) : Int := match l[i]? with
  | some (.int n _) => n
  | _ => 0
noncomputable def atL (l : List SV) (k : Nat) : Int := match Nat.blt k l.length with
  | true => cut (valI l k)
  | false => 5 * k + 2
theorem mkL_eq {l : List SV} (h : l.all isI = true) : mkL l.length (valI l) = l := by
  refine List.ext_getElem? fun i => ?_
  unfold mkL
  rw [List.getElem?_map]
  rcases e : l[i]? with _ | v
  ·
    rw [List.getElem?_eq_none_iff] at e
    rw [List.getElem?_eq_none_iff.mpr (by rw [List.length_range]; exact e)]
    rfl
  ·
    have hi := (List.getElem?_eq_some_iff.mp e).1
    rw [List.getElem?_range hi]
    have := List.all_eq_true.mp h v (List.mem_of_getElem? e)
    show some (SV.int (valI l i) none) = some v
    unfold valI
    rw [e]
    cases v <;> try cases this
    next n b => cases b <;> first | rfl | cases this
set_option tactic.hygienic false in
theorem get_map {α : Type} {f h : Nat → α} (e : (List.range 64).map f = (List.range 64).map h) {n : Nat} (hn : n < 64) : f n = h n := by
  have := congrArg (fun l => l[n]?) e
  simp only [List.getElem?_map, List.getElem?_range hn, Option.map_some, Option.some.injEq] at this
  exact this
noncomputable def isK (k : Int) : Bool := k == 0 || k == 1 || k == 3 || k == 4 || k == 5 || k == 6 || k == 7 || k == 8 || k == 9
set_option tactic.hygienic false in
theorem atT_le {n k : Nat} {l : List SV} (hl : n = l.length) : TLe (.ret (.int (atL l k) none)) (atT n k (valI l)) := by
  unfold atT atL
  rw [hl]
  rcases q : Nat.blt k l.length with _ | _
  rotate_left
  ·
    show TLe (.ret (.int (cut (valI l k)) none)) (cutT (valI l k))
    have fm : ∀ {b : Option Nat}, SVle (.int ((valI l k).fmod 1000003) b) (.int ((valI l k).fmod 1000003) none) := int_none
    unfold cutT
    refine TLe.dec (fun q1 => TLe.dec (fun q2 => TLe.of_eq ?_) fun q2 => ?_) fun q1 => ?_
    · unfold cut; rw [q1, q2]; rfl
    · unfold cut; rw [q1, q2]; exact TLe.ret int_none
    · unfold cut; rw [q1]; exact TLe.ret int_none
  · exact TLe.ret fun W v hv => by simp only [VR] at hv ⊢; exact ⟨hv, trivial⟩
noncomputable def scL (l : List Int) : List SV := l.map fun n => .int n none
set_option tactic.hygienic false in
theorem ints_VRs {W : Wd} : ∀ {l : List Int} {vs : List Value}, intsR l vs → VRs W (scL l) vs
  | [], vs, h => by simp only [scL, List.map_nil, VRs]; exact h
  | n :: l, vs, h => by
    obtain ⟨t, r, rfl, h⟩ := h
    show VRs W (.int n none :: scL l) (.int n t :: r)
    exact .cons (by simp only [VR]; exact ⟨⟨t, rfl⟩, trivial⟩) (ints_VRs h)
set_option tactic.hygienic false in
theorem ty_le {l : List Int} : SVle (.ty (some l)) (.fl (scL l)) := fun W v hv => by
  simp only [VR, tyR] at hv ⊢
  obtain ⟨a, o, items, e, h1, h2, h3⟩ := hv
  exact ⟨a, o, items, e, h1, h2, ints_VRs h3⟩
set_option tactic.hygienic false in
theorem scL_ok {l : List Int} (h : Nat.blt l.length 64 = true) : okL (scL l) = true := by
  unfold okL
  rw [show (scL l).length = l.length from List.length_map .., h, Bool.true_and]
  refine List.all_eq_true.mpr fun v hv => ?_
  obtain ⟨n, _, rfl⟩ := List.mem_map.mp hv
  rfl
/-- the k-th number of the script -/
noncomputable def An (l : List Int) (k : Nat) : Int := atL (scL l) k
noncomputable def gAt : List SV → T Unit SV
  | [v, c] => match v with
    | .ty x => match x with
      | some l => match c with
        | .num k => gtQ (isK k) (.need (Nat.blt l.length 64) (.ret (.int (An l k.toNat) none)))
        | _ => .stuck
      | none => .stuck
    | _ => .stuck
  | _ => .stuck
theorem at_con (args : List SV) : Con 13 298 args (gAt args) := by
  rcases args with _ | ⟨v, _ | ⟨c, _ | ⟨_, _⟩⟩⟩ <;> (try exact Con.stuck _ _ _)
  cases v <;> (try exact Con.stuck _ _ _)
  rename_i x
  cases x <;> (try exact Con.stuck _ _ _)
  rename_i l
  cases c <;> (try exact Con.stuck _ _ _)
  rename_i k
  dsimp only [gAt]
  refine gtQ_P (Con.stuck _ _ _) fun hk => ?_
  refine Con.argsL (.cons ty_le (.cons (SVle.refl _) .nil)) ((runM_con fok_at F13_ok _).conv (TLe.need fun h => ?_))
  have h := scL_ok h
  unfold An
  generalize scL l = l at *
  unfold okL at h
  obtain ⟨h1, h2⟩ := Bool.and_eq_true_iff.mp h
  have h1 : l.length < 64 := by simpa using h1
  have key : ∀ k : Nat, atA k (valI l) = atB k (valI l) → TLe (.ret (.int (atL l k) none)) (runM F13 s_at [.fl l, .num k]) := fun k e => by
    have e1 := get_map e h1
    simp only [runAt] at e1
    rw [mkL_eq h2] at e1
    rw [e1]
    exact atT_le rfl
  unfold isK at hk
  simp only [Bool.or_eq_true, beq_iff_eq] at hk
  rcases hk with (((((((rfl | rfl) | rfl) | rfl) | rfl) | rfl) | rfl) | rfl) | rfl
  · exact key 0 (at0 _)
  · exact key 1 (at1 _)
  · exact key 3 (at3 _)
  · exact key 4 (at4 _)
  · exact key 5 (at5 _)
  · exact key 6 (at6 _)
  · exact key 7 (at7 _)
  · exact key 8 (at8 _)
  · exact key 9 (at9 _)
/-- the lists of the text, as the head left them -/
noncomputable def seqIt : Data → Option (Array Value)
  | .seq items _ => some items
  | _ => none
set_option tactic.hygienic false in
theorem seqIt_eq {d : Data} {items : Array Value} (h : seqIt d = some items) : ∃ n, d = .seq items n := by
  cases d <;> (try exact none_neC h)
  rw [← Option.some.inj h]
  exact ⟨_, rfl⟩
noncomputable def tupIt (o : Obj) : Option (Array Value) := match isTyp o.cls "tuple" && o.dict.isNone with
  | true => seqIt o.data
  | false => none
noncomputable def lstIt (o : Obj) : Option (Array Value) := match isTyp o.cls "list" && (o.dict.isNone && o.slots.toList.isEmpty) with
  | true => seqIt o.data
  | false => none
set_option tactic.hygienic false in
theorem tupIt_ok {o : Obj} {items : Array Value} (h : tupIt o = some items) : TupO o items := by
  unfold tupIt at h
  rcases e : isTyp o.cls "tuple" && o.dict.isNone with _ | _
  · rw [e] at h; exact none_neC h
  ·
    rw [e] at h
    obtain ⟨e1, e2⟩ := Bool.and_eq_true_iff.mp e
    exact ⟨isTyp_eq e1, Option.isNone_iff_eq_none.mp e2, seqIt_eq h⟩
set_option tactic.hygienic false in
theorem lstIt_ok {o : Obj} {items : Array Value} (h : lstIt o = some items) : LstO o items := by
  unfold lstIt at h
  rcases e : isTyp o.cls "list" && (o.dict.isNone && o.slots.toList.isEmpty) with _ | _
  · rw [e] at h; exact none_neC h
  ·
    rw [e] at h
    obtain ⟨e1, e2⟩ := Bool.and_eq_true_iff.mp e
    obtain ⟨e2, e3⟩ := Bool.and_eq_true_iff.mp e2
    obtain ⟨n, hn⟩ := seqIt_eq h
    obtain ⟨c, d, x, sl⟩ := o
    obtain ⟨sl⟩ := sl
    have f1 : c = .type "list" := isTyp_eq e1
    have f2 : d = none := Option.isNone_iff_eq_none.mp e2
    have f3 : sl = [] := List.isEmpty_iff.mp e3
    have f4 : x = .seq items n := hn
    rw [f1, f2, f3, f4]
    exact ⟨_, rfl⟩
noncomputable def all2 (f : SV → Value → Bool) : List SV → List Value → Bool
  | [] => List.isEmpty
  | x :: l => hdT (f x) (all2 f l)
noncomputable def isIntV (n : Int) : Value → Bool
  | .int m _ => n == m
  | _ => false
noncomputable def bOK (n : Int) : Option Nat → Bool
  | some b => Nat.ble n.natAbs b
  | none => false
noncomputable def refB (f : Addr → Bool) : Value → Bool
  | .ref a => f a
  | _ => false
noncomputable def itB (f : List Value → Bool) : Option (Array Value) → Bool
  | some items => f items.toList
  | none => false
noncomputable def chkS (g : Addr → Option Obj) (f : SV → Value → Bool) : SV → Value → Bool
  | .num n => isIntV n
  | .int n b => fun v => isIntV n v && bOK n b
  | .tup l => refB fun a => itB (all2 f l) ((g a).bind tupIt)
  | .sl l => refB fun a => itB (all2 f l) ((g a).bind lstIt)
  | _ => fun _ => false
noncomputable def chkV (g : Addr → Option Obj) : Nat → SV → Value → Bool
  | 0 => fun _ _ => false
  | k + 1 => chkS g (chkV g k)
set_option tactic.hygienic false in
theorem all2_ok {W : Wd} {f : SV → Value → Bool} (h : ∀ x v, f x v = true → VR W x v) (l : List SV) : ∀ {vs : List Value}, all2 f l vs = true → VRs W l vs := by
  induction l with
  | nil =>
    intro vs q
    rw [List.isEmpty_iff.mp q]
    simp only [VRs]
  | cons x l ih =>
    intro vs q
    obtain ⟨v, r, rfl, h1, h2⟩ := hdT_ok q
    exact .cons (h _ _ h1) (ih h2)
set_option tactic.hygienic false in
theorem isIntV_ok {n : Int} {v : Value} (h : isIntV n v = true) : ∃ t, v = .int n t := by
  cases v <;> (try exact Bool.noConfusion h)
  rw [← eq_of_beq h]
  exact ⟨_, rfl⟩
set_option tactic.hygienic false in
theorem refB_ok {f : Addr → Bool} {v : Value} (h : refB f v = true) : ∃ a, v = .ref a ∧ f a = true := by
  cases v <;> (try exact Bool.noConfusion h)
  exact ⟨_, rfl, h⟩
set_option tactic.hygienic false in
theorem itB_ok {g : Addr → Option Obj} {it : Obj → Option (Array Value)} {f : List Value → Bool} {a : Addr} (h : itB f ((g a).bind it) = true) : ∃ o items, g a = some o ∧ it o = some items ∧ f items.toList = true := by
  rcases e : (g a).bind it with _ | items
  · rw [e] at h; exact Bool.noConfusion h
  ·
    rw [e] at h
    obtain ⟨o, h1, h2⟩ := Option.bind_eq_some_iff.mp e
    exact ⟨o, items, h1, h2, h⟩
theorem chkS_ok {g : Addr → Option Obj} {W : Wd} (hg : ∀ a o, g a = some o → W.H a o) {f : SV → Value → Bool} (ih : ∀ x v, f x v = true → VR W x v) (x : SV) (v : Value) (h : chkS g f x v = true) : VR W x v := by
  cases x <;> (try exact Bool.noConfusion h)
  · simp only [VR]; exact isIntV_ok h
  · obtain ⟨h1, h2⟩ := Bool.and_eq_true_iff.mp h
    rename_i n b
    rcases b with _ | b
    · exact Bool.noConfusion h2
    · simp only [VR, bdd]; exact ⟨isIntV_ok h1, Nat.le_of_ble_eq_true h2⟩
  · obtain ⟨a, e, h⟩ := refB_ok h
    obtain ⟨o, items, h1, h2, h3⟩ := itB_ok h
    simp only [VR]
    exact ⟨a, o, items, e, hg _ _ h1, tupIt_ok h2, all2_ok ih _ h3⟩
  · obtain ⟨a, e, h⟩ := refB_ok h
    obtain ⟨o, items, h1, h2, h3⟩ := itB_ok h
    simp only [VR]
    exact ⟨a, o, items, e, hg _ _ h1, lstIt_ok h2, all2_ok ih _ h3⟩
set_option tactic.hygienic false in
theorem chkV_ok {g : Addr → Option Obj} {W : Wd} (hg : ∀ a o, g a = some o → W.H a o) : ∀ k x v, chkV g k x v = true → VR W x v
  | 0, _, _, h => nomatch h
  | k + 1, x, v, h => chkS_ok hg (chkV_ok hg k) x v h
noncomputable def chkO (g : Addr → Option Obj) (v : SV) : Option (Option Value) → Bool
  | some (some u) => chkV g 9 v u
  | _ => false
set_option tactic.hygienic false in
theorem ge_sl {x : Str} {v : SV} (h : ∀ P, chkO (fun a => (kmk.heap_1 P).lookup a) v (nsIn (kmk.heap_1 P) mainGlobals x) = true) : GE x v := fun P => by
  have h := h P
  rcases e : nsIn (kmk.heap_1 P) mainGlobals x with _ | r
  · rw [e] at h; cases h
  ·
    rcases r with _ | u
    · rw [e] at h; cases h
    · rw [e] at h; exact ⟨u, .inl rfl, fun W hW => chkV_ok hW 9 v u h⟩
noncomputable def q4 (a : Int × Int × Int × Int) : SV := .tup [.int a.1 (some 100), .int a.2.1 (some 100), .int a.2.2.1 (some 100), .int a.2.2.2 (some 100)]
noncomputable def pts19 : List (Int × Int × Int × Int) := [(11, 2, 11, 18), (7, 6, 5, 4), (3, 11, 7, 9), (1, 17, 4, 17), (4, 5, 8, 12), (10, 13, 4, 4), (1, 4, 14, 7)]
noncomputable def pts43 : List (Int × Int × Int × Int) := [(8, 1, 13, 24), (32, 2, 24, 41), (38, 4, 21, 19), (25, 7, 24, 20), (30, 10, 17, 30), (17, 14, 4, 19), (24, 18, 41, 13)]
noncomputable def cvV : SV := .sl [.tup [.num 19, pT (4, 1), .sl (pts19.map q4)], .tup [.num 43, pT (8, 3), .sl (pts43.map q4)]]
noncomputable def eiV : SV := .sl [.sl ((rootsL 19).map pT), .sl ((rootsL 43).map pT)]
set_option tactic.hygienic false in
theorem ge_curves : GE (nm "_law_curves") cvV := ge_sl fun P => by kernel_rfl
set_option tactic.hygienic false in
theorem ge_eighths : GE (nm "_law_eighths") eiV := ge_sl fun P => by kernel_rfl
/-- a point, written -/
noncomputable def rWr (p : Int) (pt : SV) (s : PP) (b : PP) (y : SV) : T Unit SV := runC F14 FEx (.bool true) s_written [.num p, pt, pT s, elS p b, pT b, y]
noncomputable def cL (p : Int) (X Y x : PP) (m : Int) : SV := .sb ((x.2 + (m * 2).fdiv p * 2 ^ 381 + 2 ^ 383 == X.2 + markS p Y * 2 ^ 381) && x.1 == X.1)
noncomputable def wrTail (p : Int) (X Y s b : PP) : T Unit SV := .dec (!(onS p (mdI p (mulS p X s)) (mdI p (mulS p Y s)) (mdI p s) b)) .stuck (.dec (eqP (mdI p s) (zS p)) (.ret (.sb ((2 ^ 383 + 2 ^ 382 == X.2 + markS p Y * 2 ^ 381) && 0 == X.1)))
  (.need (nz (mdI p s)) (.dec (decide (0 < (divS p (mdI p (mulS p Y s)) (mdI p s)).2)) (.ret (cL p X Y (divS p (mdI p (mulS p X s)) (mdI p s)) (divS p (mdI p (mulS p Y s)) (mdI p s)).2)) (.ret (cL p X Y (divS p (mdI p (mulS p X s)) (mdI p s)) (divS p (mdI p (mulS p Y s)) (mdI p s)).1)))))
noncomputable def wrU (p : Int) (X Y s b u : PP) : T Unit SV := .dec (!(u.1 == 0 && u.2 == 0)) (.dec (!(eqP (mulS p u u) (v3 p X b)))
  (.dec (!(onS p (mdI p X) (mdI p u) (oneS p) b)) (.ret (.bool true)) (.dec (eqP (oneS p) (zS p)) (.ret (.bool false)) (.need (nz (oneS p)) (.dec (decide (0 < (divS p (mdI p u) (oneS p)).2)) (.ret (.bool false)) (.ret (.bool false))))))
  (wrTail p X Y s b)) (wrTail p X Y s b)
set_option tactic.hygienic false in
theorem wrN19 (s b : PP) (y : SV) : T.pathR [false, true] (rWr 19 .none s b y) = .need (!(!(onS 19 (mdI 19 s) (mdI 19 s) (zS 19) b))) (.need (eqP (zS 19) (zS 19)) (.ret (.bool true))) := by kernel_rfl
set_option tactic.hygienic false in
theorem wrN43 (s b : PP) (y : SV) : T.pathR [false, true] (rWr 43 .none s b y) = .need (!(!(onS 43 (mdI 43 s) (mdI 43 s) (zS 43) b))) (.need (eqP (zS 43) (zS 43)) (.ret (.bool true))) := by kernel_rfl
set_option tactic.hygienic false in
theorem wrU19 (X Y s b u : PP) : rWr 19 (.tup [pT X, pT Y]) s b (pT u) = wrU 19 X Y s b u := by kernel_rfl
set_option tactic.hygienic false in
theorem wrU43 (X Y s b u : PP) : rWr 43 (.tup [pT X, pT Y]) s b (pT u) = wrU 43 X Y s b u := by kernel_rfl
noncomputable def ptOK (p : Int) (X Y b : PP) : Bool := eqP (mulS p Y Y) (v3 p X b) && (eqP (mdI p X) X && eqP (mdI p Y) Y)
noncomputable def sOK (p : Int) (s : PP) : Bool := nz s && (!(eqP s (zS p)) && (eqP (mdI p s) s && eqP (mulS p s (invS p s)) (1, 0)))
set_option tactic.hygienic false in
theorem TLe.retB {b : Bool} (h : b = true) : TLe (.ret (.bool true)) (.ret (.sb b)) := .ret fun W v hv => by simp only [VR] at hv ⊢; rw [hv, h]
set_option tactic.hygienic false in
theorem flag_eq {x q : Int} : (x + q * 2 ^ 381 + 2 ^ 383 == x + (4 + q) * 2 ^ 381) = true := by
  rw [beq_iff_eq, Int.add_mul, show (4 : Int) * 2 ^ 381 = 2 ^ 383 by decide]
  generalize q * 2 ^ 381 = a
  generalize (2 : Int) ^ 383 = c
  omega
set_option tactic.hygienic false in
theorem tail_le {p : Int} {X Y s b : PP} (hp : ptOK p X Y b = true) (hs : sOK p s = true) : TLe (.ret (.bool true)) (wrTail p X Y s b) := by
  unfold ptOK at hp
  unfold sOK at hs
  simp only [Bool.and_eq_true, Bool.not_eq_true'] at hp hs
  obtain ⟨h1, h2, h3⟩ := hp
  obtain ⟨g1, g2, g3, g4⟩ := hs
  have h1 := eqP_iff h1
  have h2 := eqP_iff h2
  have h3 := eqP_iff h3
  have g3 := eqP_iff g3
  have g4 := eqP_iff g4
  unfold wrTail
  have e1 : mdI p (mulS p X s) = mulS p X s := mdI_md p (mulI X s)
  have e2 : mdI p (mulS p Y s) = mulS p Y s := mdI_md p (mulI Y s)
  rw [e1, e2, g3, unscale g4 h2, unscale g4 h3, on_scaled h1, g2, g1]
  refine TLe.dec (fun q => by cases q) fun _ => TLe.dec (fun q => by cases q) fun _ => ⟨fun K kk h => ⟨rfl, ?_⟩⟩
  refine (TLe.dec (fun q => TLe.retB ?_) fun q => TLe.retB ?_).h K kk h
  · rw [Int.mul_comm Y.2 2, beq_self_eq_true, Bool.and_true]
    unfold markS
    rw [q]
    exact flag_eq
  · rw [Int.mul_comm Y.1 2, beq_self_eq_true, Bool.and_true]
    unfold markS
    rw [q]
    exact flag_eq
set_option tactic.hygienic false in
theorem one_nz {p : Int} (hp : isP p = true) : eqP (oneS p) (zS p) = false := by rcases isP_cases hp with rfl | rfl <;> decide +kernel
set_option tactic.hygienic false in
theorem wrU_le {p : Int} {X Y s b u : PP} (hi : isP p = true) (hp : ptOK p X Y b = true) (hs : sOK p s = true) : TLe (.ret (.bool true)) (wrU p X Y s b u) := by
  unfold wrU
  refine TLe.dec (fun _ => TLe.dec (fun q => ?_) fun _ => tail_le hp hs) fun _ => tail_le hp hs
  refine TLe.dec (fun _ => TLe.refl _) fun q2 => ?_
  exfalso
  have hX : mdI p X = X := by
    unfold ptOK at hp
    simp only [Bool.and_eq_true] at hp
    exact eqP_iff hp.2.1
  have : onS p (mdI p X) (mdI p u) (oneS p) b = false := by
    refine off_one (p := p) rfl (one_nz hi) fun e => ?_
    have e' : mulS p u u = v3 p X b := by
      rw [hX] at e
      rw [mulS_eq, mdI_mul, mdI_mulR] at e
      exact e
    rw [eqP_of e'] at q
    cases q
  rw [this] at q2
  cases q2
noncomputable def sAll (p : Int) : Bool := allN (fun x => allN (fun y => sOK p ((x : Int) + 1, (y : Int))) p.toNat) (p.toNat - 1)
set_option tactic.hygienic false in
theorem sAll19 : sAll 19 = true := by kernel_rfl
set_option tactic.hygienic false in
theorem sAll43 : sAll 43 = true := by kernel_rfl
set_option tactic.hygienic false in
theorem s_all {p : Int} (hp : isP p = true) {x y : Int} (hx : 0 ≤ x) (hx' : x < p - 1) (hy : 0 ≤ y) (hy' : y < p) : sOK p (x + 1, y) = true := by
  have key : sAll p = true := by rcases isP_cases hp with rfl | rfl
                                 · exact sAll19
                                 · exact sAll43
  have := allN_get (f := fun y => sOK p ((x.toNat : Int) + 1, (y : Int))) (allN_get (f := fun x => allN (fun y => sOK p ((x : Int) + 1, (y : Int))) p.toNat) key (i := x.toNat) (by omega)) (i := y.toNat) (by omega)
  rw [show ((x.toNat : Nat) : Int) = x by omega, show ((y.toNat : Nat) : Int) = y by omega] at this
  exact this
noncomputable def gW0 (q s bb : SV) (p : Int) (b : PP) (k : PP → T Unit SV) : T Unit SV := match modOf q with
  | some p' => match smP s with
    | some s' => match smP bb with
      | some b2 => match isP p && (decide (p' = p) && eqP b2 b) with
        | true => k s'
        | false => .stuck
      | none => .stuck
    | none => .stuck
  | none => .stuck
noncomputable def gW1 (X Y y : SV) (p : Int) (b s : PP) : T Unit SV := match smP X with
  | some X' => match smP Y with
    | some Y' => match smP y with
      | some _ => .need (ptOK p X' Y' b && sOK p s) (.ret (.bool true))
      | none => .stuck
    | none => .stuck
  | none => .stuck
noncomputable def gWp (pt y : SV) (p : Int) (b s : PP) : T Unit SV := match pt with
  | .none => .ret (.bool true)
  | .tup [X, Y] => gW1 X Y y p b s
  | _ => .stuck
noncomputable def gWr : List SV → T Unit SV
  | [q, pt, s, e, bb, y] => match e with
    | .el p b b' => gW0 q s bb p (b, b') (gWp pt y p (b, b'))
    | _ => .stuck
  | _ => .stuck
set_option tactic.hygienic false in
theorem wr_none {p : Int} {b s : PP} {y : SV} (hp : isP p = true) : ConW 14 366 [.num p, .none, pT s, elS p b, pT b, y] (.ret (.bool true)) := by
  refine (runC_conW (cv := .bool true) fok_written F14_ok FEx_ok _).conv ?_
  have z0 : ∀ p b, onS p (mdI p s) (mdI p s) (zS p) b = true := fun p b => by unfold onS; rw [eqP_of rfl, Bool.true_or]
  have nn : ∀ p b, TLe (.ret (.bool true)) (.need (!(!(onS p (mdI p s) (mdI p s) (zS p) b))) (.need (eqP (zS p) (zS p)) (.ret (.bool true)))) := fun p b => ⟨fun K _ h => ⟨by rw [z0]; rfl, eqP_of rfl, h⟩⟩
  rcases isP_cases hp with rfl | rfl
  · exact (nn 19 b).trans (TLe.pathR (wrN19 s b y))
  · exact (nn 43 b).trans (TLe.pathR (wrN43 s b y))
set_option tactic.hygienic false in
theorem wr_pt {p : Int} {X Y b s u : PP} (hp : isP p = true) : ConW 14 366 [.num p, .tup [pT X, pT Y], pT s, elS p b, pT b, pT u] (.need (ptOK p X Y b && sOK p s) (.ret (.bool true))) := by
  refine (runC_conW (cv := .bool true) fok_written F14_ok FEx_ok _).conv (TLe.need fun hn => ?_)
  obtain ⟨n1, n2⟩ := Bool.and_eq_true_iff.mp hn
  have le := wrU_le (u := u) hp n1 n2
  rcases isP_cases hp with rfl | rfl
  · exact le.trans (TLe.of_eq (wrU19 X Y s b u))
  · exact le.trans (TLe.of_eq (wrU43 X Y s b u))
theorem wr_conW (args : List SV) : ConW 14 366 args (gWr args) := by
  rcases args with _ | ⟨q, _ | ⟨pt, _ | ⟨s, _ | ⟨e, _ | ⟨bb, _ | ⟨y, _ | ⟨_, _⟩⟩⟩⟩⟩⟩⟩ <;> (try exact ConW.stuck _ _ _)
  cases e <;> (try exact ConW.stuck _ _ _)
  rename_i p b b'
  show ConW _ _ _ (gW0 q s bb p (b, b') (gWp pt y p (b, b')))
  unfold gW0
  cases e1 : modOf q with
  | none => exact ConW.stuck _ _ _
  | some p' => cases e2 : smP s with
    | none => exact ConW.stuck _ _ _
    | some s' => cases e3 : smP bb with
      | none => exact ConW.stuck _ _ _
      | some b2 =>
       dsimp only
       cases h : isP p && (decide (p' = p) && eqP b2 (b, b')) with
        | false => exact ConW.stuck _ _ _
        | true =>
          obtain ⟨hp, h⟩ := Bool.and_eq_true_iff.mp h
          obtain ⟨h, hb⟩ := Bool.and_eq_true_iff.mp h
          have h := of_decide_eq_true h
          have hb := eqP_iff hb
          subst h
          subst hb
          show ConW _ _ _ (gWp pt y p' (b, b') s')
          cases pt <;> (try exact ConW.stuck _ _ _)
          · exact ConW.argsL (.cons ((mod_le e1).trans (md_num _)) (.cons (SVle.refl _) (.cons (smP_le e2) (.cons (SVle.refl _) (.cons (smP_le e3) (.cons (SVle.refl _) .nil)))))) (wr_none (b := (b, b')) hp)
          · rename_i l
            rcases l with _ | ⟨X, _ | ⟨Y, _ | ⟨_, _⟩⟩⟩ <;> (try exact ConW.stuck _ _ _)
            show ConW _ _ _ (gW1 X Y y p' (b, b') s')
            unfold gW1
            cases e4 : smP X with
            | none => exact ConW.stuck _ _ _
            | some X' => cases e5 : smP Y with
              | none => exact ConW.stuck _ _ _
              | some Y' => cases e6 : smP y with
                | none => exact ConW.stuck _ _ _
                | some u => exact ConW.argsL (.cons ((mod_le e1).trans (md_num _)) (.cons (SVle.tup (.cons (smP_le e4) (.cons (smP_le e5) .nil))) (.cons (smP_le e2) (.cons (SVle.refl _) (.cons (smP_le e3) (.cons (smP_le e6) .nil)))))) (wr_pt (b := (b, b')) hp)
noncomputable def gloL : List (Str × SV) := (nm "_law_curves", cvV) :: (nm "_law_eighths", eiV) :: gloG
theorem gloL_ok {names : List (Str × NameKind)} {F : Nat → List SV → T Unit SV} : GloOK ⟨names, gloL, F⟩ := by
  intro x v h P
  have h' : lk x gloL = some v := h
  unfold gloL at h'
  simp only [lk] at h'
  split at h'
  · next q => cases h'; obtain rfl := sq_iff.mp q; exact ge_curves P
  · split at h'
    · next q => cases h'; obtain rfl := sq_iff.mp q; exact ge_eighths P
    · exact gloG_ok (names := names) (F := F) x v h' P
noncomputable def F15 : Nat → List SV → T Unit SV := addF 251 gMarks (addF 298 gAt (addF 354 gDue F14))
set_option tactic.hygienic false in
theorem F15_ok : FOK 14 F15 := FOK.add (FOK.add (FOK.add (F14_ok.le (by decide)) due_con) fun a => (at_con a).le (by decide)) fun a => (marks_con a).le (by decide)
noncomputable def FW15 : Nat → List SV → T Unit SV := addF 347 gTold2 (addF 366 gWr fun _ _ => .stuck)
theorem FW15_ok : ∀ f args, ConW 14 f args (FW15 f args) := by
  intro f args
  unfold FW15 addF
  split
  · next q => have := Nat.eq_of_beq_eq_true q; subst this; exact told2_conW args
  · split
    · next q => have := Nat.eq_of_beq_eq_true q; subst this; exact wr_conW args
    · exact ConW.stuck _ _ _
noncomputable def cxL : Cx := ⟨fnN s_law, gloL, F15⟩
noncomputable def runL (l : List Int) : T Unit SV := match initS (fnN s_law) (fnP s_law) [.ty (some l)] with
  | some (a, b) => outT (exN4 cxL FW15 60 (fnB s_law) ⟨a, b, []⟩)
  | none => .stuck
/-- THE RUN OF THE LAW IS WHAT ITS CALL DOES -/
theorem law_sound {l : List Int} {w : World} {mg mb : Str → Option Value} {A : Around} {s : Shared} {H HL : Addr → Obj → Prop} {vals : List Value} {Q E : Value → Shared → Prop} (hA : OKC 15 A) (hfr : A.frames = some []) (pre : CallPre w mg mb s H HL) (hv : VRs ⟨H, HL, []⟩ [.ty (some l)] vals)
    (hh : (runL l).Holds (fun r => ∀ s' W u, TabOK s'.heap → (∀ b o, b ≠ PT → s.heap.get? b = some o → s'.heap.get? b = some o) → Sh s s' → VR W r u → Q u s') (fun _ => False)) :
    wpAny (model PySem.Challenge.pw_lh0035_01 w) A (call (.ref (371 : Nat)) vals) Q E s := by
  unfold runL at hh
  split at hh
  · next a b e =>
    refine wpAny_call (enter fok_law F15_ok gloL_ok (fun _ _ _ => False) (fun _ _ _ z => z.elim) hA pre hv e (by kernel_rfl) fun X hp tk ok co hc hA' hw hX0 hXH _ _ hcd rep => ?_)
    subst hw
    have hfm : X.env.frame = some X.L := let ⟨_, _, _, _, _, q⟩ := hcd; q
    refine exN4_sound FW15_ok hA' 60 ok co hc (Around.frames_deeper hfr) hfm (fnB s_law) ⟨a, b, []⟩ ⟨H, HL, []⟩ _ _ _ rep ((holds_out hh).mono (fun r hr s' W' le r' sh' => ?_) fun σ hx => hx.elim)
    split at hr
    · next q =>
      try rw [q]
      exact hr s' W' .none r'.z.tab (hX0 ▸ r'.z.base) ⟨sh'.d, sh'.o, sh'.g⟩ (by simp only [VR])
    · next v q =>
      try rw [q]
      intro u hu
      obtain ⟨y, q2, hr⟩ := hr
      unfold resV at q2
      split at q2
      · next i =>
        split at q2
        · next fz l q3 =>
          split at q2
          · next q4 =>
            cases q2
            simp only [VR] at hu
            obtain ⟨ad, rfl, ha⟩ := hu
            obtain ⟨a', ha', d⟩ := r'.l.at_ _ _ _ q3
            rw [ha] at ha'
            cases ha'
            obtain ⟨o, items, g, y, z, _⟩ := d.at_
            refine hr s' ⟨W'.H, fun b o => (∃ i : Nat, W'.eta[i]? = some b) ∧ s'.heap.get? b = some o, []⟩ _ r'.z.tab (hX0 ▸ r'.z.base) ⟨sh'.d, sh'.o, sh'.g⟩ ?_
            simp only [VR]
            exact ⟨ad, o, items, rfl, ⟨⟨i, ha⟩, g⟩, y, VRs.out (W := W') (W' := ⟨W'.H, fun b o => (∃ i : Nat, W'.eta[i]? = some b) ∧ s'.heap.get? b = some o, []⟩) (fun _ _ h => h) q4 z⟩
          · cases q2
        · cases q2
      · split at q2
        · cases q2; exact hr s' W' _ r'.z.tab (hX0 ▸ r'.z.base) ⟨sh'.d, sh'.o, sh'.g⟩ hu
        · cases q2
  · exact hh.elim
set_option tactic.hygienic false in
theorem T.bind_assoc {ε α β γ : Type} (f : α → T ε β) (g : β → T ε γ) : ∀ t : T ε α, (t.bind f).bind g = t.bind fun a => (f a).bind g
  | .ret _ => rfl
  | .dec b t e => congr (congrArg (T.dec b) (T.bind_assoc f g t)) (T.bind_assoc f g e)
  | .need b t => congrArg (T.need b) (T.bind_assoc f g t)
  | .exc _ => rfl
  | .stuck => rfl
noncomputable def goOn (C : Cx) (FW : Nat → List SV → T Unit SV) (n : Nat) (b : List Stmt) (f : Fl × St) : TS Fl := match f.1 with
  | .next => exN4 C FW n b f.2
  | .ret v => .ret (.ret v, f.2)
theorem exN4_app {C : Cx} {FW : Nat → List SV → T Unit SV} {b : List Stmt} : ∀ (a : List Stmt) (n : Nat) (st : St), exN4 C FW (n + 1 + a.length) (a ++ b) st = (exN4 C FW (n + 1 + a.length) a st).bind (goOn C FW (n + 1) b)
  | [], _, _ => rfl
  | s :: a, n, st => by
    show (exS4 C FW _ _ _ s st).bind _ = ((exS4 C FW _ _ _ s st).bind _).bind _
    rw [T.bind_assoc]
    refine congrArg _ (funext fun f => ?_)
    obtain ⟨f1, f2⟩ := f
    cases f1 with
    | next => exact exN4_app a n f2
    | ret v => rfl
/-- a tree's ends, gone on with -/
noncomputable def bindU {α : Type} : TS α → (α × St → T Unit SV) → T Unit SV
  | .ret a, f => f a
  | .dec b t e, f => .dec b (bindU t f) (bindU e f)
  | .need b t, f => .need b (bindU t f)
  | .exc _, _ => .stuck
  | .stuck, _ => .stuck
set_option tactic.hygienic false in
theorem out_bind {g : Fl × St → TS Fl} : ∀ t : TS Fl, outT (t.bind g) = bindU t fun a => outT (g a)
  | .ret _ => rfl
  | .dec b t e => congr (congrArg (T.dec b) (out_bind t)) (out_bind e)
  | .need b t => congrArg (T.need b) (out_bind t)
  | .exc _ => rfl
  | .stuck => rfl
/-- the law, first part: the curve and the point -/
noncomputable def ptsOf (p : Int) : List (Int × Int × Int × Int) := match p == 19 with
  | true => pts19
  | false => pts43
noncomputable def loc0 (l : List Int) (p : Int) (pt : SV) : List (Str × SV) := [(nm "script", .ty (some l)), (nm "way", .int ((An l 3).fmod 4) (some 4)), (nm "pick", .int ((An l 0).fmod 2) (some 2)), (nm "b", pT (bOf p)), (nm "points", .sl ((ptsOf p).map q4)), (nm "number", .int ((An l 1).fmod 15) (some 15)), (nm "point", pt)]
noncomputable def locP (l : List Int) (p : Int) (X Y Y0 : PP) : List (Str × SV) := loc0 l p (.tup [pT X, pT Y]) ++ [(nm "x", .int X.1 (some 100)), (nm "i", .int X.2 (some 100)), (nm "y", .int Y0.1 (some 100)), (nm "j", .int Y0.2 (some 100))]
noncomputable def stB (p : Int) (locs : List (Str × SV)) : St := ⟨locs, [(nm "p", .num p)], []⟩
noncomputable def runB (p : Int) (locs : List (Str × SV)) : T Unit SV := outT (exN4 cxL FW15 55 ((fnB s_law).drop 5) (stB p locs))
noncomputable def ok64 (l : List Int) : Bool := Nat.blt l.length 64
noncomputable def lt14 (l : List Int) : Bool := decide ((An l 1).fmod 15 < 14)
noncomputable def pk0 (l : List Int) : Bool := (An l 0).fmod 2 == 0
noncomputable def pk1 (l : List Int) : Bool := (An l 0).fmod 2 == 1
noncomputable def nthP (p : Int) (i : Nat) : Int × Int × Int × Int := (ptsOf p).getD i (0, 0, 0, 0)
noncomputable def XX (p : Int) (i : Nat) : PP := ((nthP p i).1, (nthP p i).2.1)
noncomputable def YY (p : Int) (i : Nat) : PP := ((nthP p i).2.2.1, (nthP p i).2.2.2)
noncomputable def par0 (l : List Int) : Bool := ((An l 1).fmod 15).fmod 2 == 0
noncomputable def fork7 {ε α : Type} (v : Int) (S : Nat → T ε α) : T ε α := .dec (v == 0) (S 0) (.dec (v == 1) (S 1) (.dec (v == 2) (S 2) (.dec (v == 3) (S 3) (.dec (v == 4) (S 4) (.dec (v == 5) (S 5) (.need (v == 6) (S 6)))))))
noncomputable def trP {ε α : Type} (l : List Int) (p : Int) (f : Int → List (Str × SV) → T ε α) : T ε α := .need (ok64 l) (.dec (lt14 l) (fork7 (((An l 1).fmod 15).fdiv 2) fun i => .dec (par0 l) (f p (locP l p (XX p i) (YY p i) (YY p i))) (f p (locP l p (XX p i) (oppS p (YY p i)) (YY p i)))) (f p (loc0 l p .none)))
noncomputable def trA {ε α : Type} (l : List Int) (f : Int → List (Str × SV) → T ε α) : T ε α := .need (ok64 l) (.need (ok64 l) (.dec (pk0 l) (trP l 19 f) (.need (pk1 l) (trP l 43 f))))
noncomputable def endA (p : Int) (locs : List (Str × SV)) : TS Fl := .ret (.next, stB p locs)
set_option tactic.hygienic false in
theorem init_law (l : List Int) : initS (fnN s_law) (fnP s_law) [.ty (some l)] = some ([(nm "script", .ty (some l))], []) := by kernel_rfl
set_option tactic.hygienic false in
theorem stA (l : List Int) : exN4 cxL FW15 60 ((fnB s_law).take 5) ⟨[(nm "script", .ty (some l))], [], []⟩ = trA l endA := by kernel_rfl
set_option tactic.hygienic false in
theorem len5 : ((fnB s_law).take 5).length = 5 := by kernel_rfl
set_option tactic.hygienic false in
theorem runL_eq (l : List Int) : runL l = trA l runB := by
  unfold runL
  rw [init_law]
  show outT (exN4 cxL FW15 60 (fnB s_law) ⟨[(nm "script", .ty (some l))], [], []⟩) = _
  have e := exN4_app (C := cxL) (FW := FW15) (b := (fnB s_law).drop 5) ((fnB s_law).take 5) 54 ⟨[(nm "script", .ty (some l))], [], []⟩
  rw [List.take_append_drop, len5] at e
  rw [show (60 : Nat) = 54 + 1 + 5 from rfl, e, show 54 + 1 + 5 = (60 : Nat) from rfl, stA, out_bind]
  rfl
/-- the law, second part: the four ways -/
noncomputable def isWay (l : List Int) (k : Int) : Bool := (An l 3).fmod 4 == k
noncomputable def pkN (p : Int) (l : List Int) (t : T Unit SV) : T Unit SV := match p == 19 with
  | true => .need (pk0 l) t
  | false => .need (!(pk0 l)) (.need (pk1 l) t)
noncomputable def nOK (l : List Int) (t : T Unit SV) : T Unit SV := .need (ok64 l) t
noncomputable def sc (l : List Int) (p : Int) : PP := (1 + (An l 4).fmod (p - 1), (An l 5).fmod p)
noncomputable def w1N (l : List Int) : T Unit SV := .need (isWay l 1) (nOK l (.dec (decide (0 < (An l 6).fmod 3)) (nOK l (nOK l (.ret (.bool true)))) (nOK l (nOK l (nOK l (nOK l (.ret (.bool true))))))))
noncomputable def w1P (l : List Int) (p : Int) (X Y : PP) : T Unit SV := .need (isWay l 1) (nOK l (.dec (decide (0 < (An l 6).fmod 3)) (nOK l (nOK l (.need (ptOK p X Y (mdI p (bOf p)) && sOK p (sc l p)) (.ret (.bool true))))) (nOK l (nOK l (nOK l (nOK l (.need (ptOK p X Y (mdI p (bOf p)) && sOK p (sc l p)) (.ret (.bool true)))))))))
noncomputable def rtv (p : Int) (v : PP) : PP := (rootS p v).getD (0, 0)
noncomputable def w0v (p : Int) (v : PP) : T Unit SV := .dec (rootS p v).isSome (.need (nz (mdI p v)) (.dec (rootS p (mdI p v)).isSome (.dec (gtS (rtv p v) (oppS p (rtv p v)))
    (.ret (.sb ((bigS p (rtv p (mdI p v))).1 == (rtv p v).1 && (bigS p (rtv p (mdI p v))).2 == (rtv p v).2))) (.ret (.sb ((bigS p (rtv p (mdI p v))).1 == (oppS p (rtv p v)).1 && (bigS p (rtv p (mdI p v))).2 == (oppS p (rtv p v)).2)))) (.ret (.bool false))))
  (.need (nz (mdI p v)) (.dec (rootS p (mdI p v)).isSome (.ret (.bool false)) (.ret (.bool true))))
noncomputable def val0 (l : List Int) (p : Int) : PP := ((An l 4).fmod p, (An l 5).fmod p)
noncomputable def w0 (l : List Int) (p : Int) : T Unit SV := .need (!(isWay l 1)) (pkN p l (.need (isWay l 0) (nOK l (nOK l (.dec ((val0 l p).1 == 0 && (val0 l p).2 == 0) (w0v p (1, 0)) (w0v p (val0 l p)))))))
noncomputable def eqK (a c : SV) : T Unit SV := match eqS a c with
  | some v => .ret v
  | none => .stuck
noncomputable def zv (m : Int) (x : PP) : Int := x.2 + m * 2 ^ 381
noncomputable def okZ (z w : Int) : Bool := decide (0 ≤ z) && decide (z < 8 * 2 ^ 381) && decide (0 ≤ w)
noncomputable def tld (p m : Int) (x : PP) (g : SV → T Unit SV) : T Unit SV := .need (okZ (zv m x) x.1) (T.bind (ansT p (bOf p) ((zv m x).fdiv (2 ^ 381)) (x.1, (zv m x).fmod (2 ^ 381))) g)
noncomputable def w2N (l : List Int) (p : Int) : T Unit SV := .need (!(isWay l 1)) (pkN p l (.need (!(isWay l 0)) (.need (isWay l 2) (.need (okZ (6 * 2 ^ 381) 0) (T.bind (ansT p (bOf p) ((6 * 2 ^ 381 : Int).fdiv (2 ^ 381)) (0, (6 * 2 ^ 381 : Int).fmod (2 ^ 381))) fun a => eqK a .none)))))
noncomputable def w2P (l : List Int) (p : Int) (X Y : PP) : T Unit SV := .need (!(isWay l 1)) (pkN p l (.need (!(isWay l 0)) (.need (isWay l 2) (tld p (markS p Y) X fun a => eqK a (tup3 X Y)))))
noncomputable def finS (p m : Int) (x : PP) : T Unit SV := tld p m x fun a => T.bind (ansT p (bOf p) m x) fun c => eqK a c
noncomputable def finB (p m : Int) (x : PP) : T Unit SV := tld p m x fun a => T.bind (ansB p m x) fun c => eqK a c
noncomputable def isKind (l : List Int) (k : Int) : Bool := (An l 7).fmod 7 == k
noncomputable def xk4 (l : List Int) (x : PP) : PP := (x.1 + (1 + (An l 9).fmod 7) * 2 ^ 381, x.2)
noncomputable def xk5 (l : List Int) (p : Int) (x : PP) : PP := (x.1, p + (An l 8).fmod 1000003 * 2 ^ 300)
noncomputable def k4T (l : List Int) (p m : Int) (x : PP) : T Unit SV := .dec (isKind l 4) (nOK l (.dec (isKind l 5) (nOK l (finB p m (xk5 l p (xk4 l x)))) (finB p m (xk4 l x)))) (.dec (isKind l 5) (nOK l (finB p m (xk5 l p x))) (finS p m x))
noncomputable def k3T (l : List Int) (p m : Int) : T Unit SV := nOK l (nOK l (.dec (isKind l 3) (k4T l p m (0, 0)) (k4T l p m ((An l 8).fmod (p + 2), (An l 9).fmod (p + 2)))))
noncomputable def fork12 (v : Int) (S : Int → T Unit SV) : T Unit SV := .dec (v == 0) (S 4) (.dec (v == 1) (S 5) (.dec (v == 2) (S 4) (.dec (v == 3) (S 5) (.dec (v == 4) (S 4) (.dec (v == 5) (S 5) (.dec (v == 6) (S 6) (.dec (v == 7) (S 7) (.dec (v == 8) (S 0) (.dec (v == 9) (S 1) (.dec (v == 10) (S 2) (.need (v == 11) (S 3))))))))))))
noncomputable def w3 (l : List Int) (p : Int) : T Unit SV := .need (!(isWay l 1)) (pkN p l (.need (!(isWay l 0)) (.need (!(isWay l 2)) (nOK l (nOK l (fork12 ((An l 7).fmod 12) (k3T l p)))))))
set_option tactic.hygienic false in
theorem w1N19 (l : List Int) : T.pathR [true] (runB 19 (loc0 l 19 .none)) = w1N l := by kernel_rfl
set_option tactic.hygienic false in
theorem w1N43 (l : List Int) : T.pathR [true] (runB 43 (loc0 l 43 .none)) = w1N l := by kernel_rfl
set_option tactic.hygienic false in
theorem w1P19 (l : List Int) (X Y Z : PP) : T.pathR [true] (runB 19 (locP l 19 X Y Z)) = w1P l 19 X Y := by kernel_rfl
set_option tactic.hygienic false in
theorem w1P43 (l : List Int) (X Y Z : PP) : T.pathR [true] (runB 43 (locP l 43 X Y Z)) = w1P l 43 X Y := by kernel_rfl
set_option tactic.hygienic false in
theorem w0N19 (l : List Int) : T.pathR [false, true, true] (runB 19 (loc0 l 19 .none)) = w0 l 19 := by kernel_rfl
set_option tactic.hygienic false in
theorem w0N43 (l : List Int) : T.pathR [false, false, true] (runB 43 (loc0 l 43 .none)) = w0 l 43 := by kernel_rfl
set_option tactic.hygienic false in
theorem w0P19 (l : List Int) (X Y Z : PP) : T.pathR [false, true, true] (runB 19 (locP l 19 X Y Z)) = w0 l 19 := by kernel_rfl
set_option tactic.hygienic false in
theorem w0P43 (l : List Int) (X Y Z : PP) : T.pathR [false, false, true] (runB 43 (locP l 43 X Y Z)) = w0 l 43 := by kernel_rfl
set_option tactic.hygienic false in
theorem w2N19 (l : List Int) : T.pathR [false, true, false, true] (runB 19 (loc0 l 19 .none)) = w2N l 19 := by kernel_rfl
set_option tactic.hygienic false in
theorem w2N43 (l : List Int) : T.pathR [false, false, false, true] (runB 43 (loc0 l 43 .none)) = w2N l 43 := by kernel_rfl
set_option tactic.hygienic false in
theorem w2P19 (l : List Int) (X Y Z : PP) : T.pathR [false, true, false, true] (runB 19 (locP l 19 X Y Z)) = w2P l 19 X Y := by kernel_rfl
set_option tactic.hygienic false in
theorem w2P43 (l : List Int) (X Y Z : PP) : T.pathR [false, false, false, true] (runB 43 (locP l 43 X Y Z)) = w2P l 43 X Y := by kernel_rfl
set_option tactic.hygienic false in
theorem w3N19 (l : List Int) : T.pathR [false, true, false, false] (runB 19 (loc0 l 19 .none)) = w3 l 19 := by kernel_rfl
set_option tactic.hygienic false in
theorem w3N43 (l : List Int) : T.pathR [false, false, false, false] (runB 43 (loc0 l 43 .none)) = w3 l 43 := by kernel_rfl
set_option tactic.hygienic false in
theorem w3P19 (l : List Int) (X Y Z : PP) : T.pathR [false, true, false, false] (runB 19 (locP l 19 X Y Z)) = w3 l 19 := by kernel_rfl
set_option tactic.hygienic false in
theorem w3P43 (l : List Int) (X Y Z : PP) : T.pathR [false, false, false, false] (runB 43 (locP l 43 X Y Z)) = w3 l 43 := by kernel_rfl
end Mine
set_option exponentiation.threshold 2000
namespace Mine
/-- it tells True -/
abbrev OKT (t : T Unit SV) : Prop := TLe (.ret (.bool true)) t
set_option tactic.hygienic false in
theorem TLe.needI {c : Bool} {t : T Unit SV} (h : c = true) (k : OKT t) : OKT (.need c t) := ⟨fun K kk x => ⟨h, k.h K kk x⟩⟩
set_option tactic.hygienic false in
theorem TLe.n {l : List Int} {t : T Unit SV} (h : ok64 l = true) (k : OKT t) : OKT (nOK l t) := .needI h k
set_option tactic.hygienic false in
theorem TLe.t : OKT (.ret (.bool true)) := .refl _
/-- the draw of the curve -/
noncomputable def drawn (p : Int) (l : List Int) : Prop := (p = 19 ∧ pk0 l = true) ∨ (p = 43 ∧ pk0 l = false ∧ pk1 l = true)
set_option tactic.hygienic false in
theorem TLe.pk {p : Int} {l : List Int} {t : T Unit SV} (h : drawn p l) (k : OKT t) : OKT (pkN p l t) := by
  rcases h with ⟨rfl, h⟩ | ⟨rfl, h, h'⟩
  · exact .needI h k
  · exact .needI (by rw [h]; rfl) (.needI h' k)
set_option tactic.hygienic false in
theorem drawn.isP {p : Int} {l : List Int} (h : drawn p l) : isP p = true := by rcases h with ⟨rfl, _⟩ | ⟨rfl, _⟩ <;> rfl
set_option tactic.hygienic false in
theorem fm_rng (a : Int) {m : Int} (h : 0 < m) : 0 ≤ a.fmod m ∧ a.fmod m < m := ⟨Int.fmod_nonneg_of_pos a h, Int.fmod_lt_of_pos a h⟩
set_option tactic.hygienic false in
/-- way 1 -/
theorem sc_ok {p : Int} (hp : isP p = true) (l : List Int) : sOK p (sc l p) = true := by
  have h0 : 1 < p := by rcases isP_cases hp with rfl | rfl <;> decide
  unfold sc
  rw [Int.add_comm]
  have a := fm_rng (An l 4) (m := p - 1) (by omega)
  have b := fm_rng (An l 5) (m := p) (by omega)
  exact s_all hp a.1 a.2 b.1 b.2
set_option tactic.hygienic false in
theorem w1N_le {l : List Int} (h : ok64 l = true) (w : isWay l 1 = true) : OKT (w1N l) := .needI w (.n h (.dec (fun _ => .n h (.n h .t)) fun _ => .n h (.n h (.n h (.n h .t)))))
set_option tactic.hygienic false in
theorem w1P_le {l : List Int} {p : Int} {X Y : PP} (h : ok64 l = true) (hp : isP p = true) (hX : ptOK p X Y (mdI p (bOf p)) = true) (w : isWay l 1 = true) : OKT (w1P l p X Y) := by
  have v : (ptOK p X Y (mdI p (bOf p)) && sOK p (sc l p)) = true := by rw [hX, sc_ok hp]; rfl
  exact .needI w (.n h (.dec (fun _ => .n h (.n h (.needI v .t))) fun _ => .n h (.n h (.n h (.n h (.needI v .t))))))
set_option tactic.hygienic false in
/-- way 0 -/
theorem w0v_le {p : Int} {v : PP} (h1 : mdI p v = v) (h2 : nz v = true) : OKT (w0v p v) := by
  unfold w0v
  rw [h1, h2]
  refine .dec (fun q => .needI rfl (.dec (fun _ => .dec (fun g => .retB ?_) fun g => .retB ?_) fun q' => (by rw [q] at q'; cases q'))) fun q => .needI rfl (.dec (fun q' => (by rw [q] at q'; cases q')) fun _ => .t)
  · unfold bigS; rw [g]; simp
  · unfold bigS; rw [g]; simp
set_option tactic.hygienic false in
theorem w0_le {l : List Int} {p : Int} (h : ok64 l = true) (d : drawn p l) (w : isWay l 1 = false) (w' : isWay l 0 = true) : OKT (w0 l p) := by
  refine .needI (by rw [w]; rfl) (.pk d (.needI w' (.n h (.n h (.dec (fun _ => w0v_le ?_ rfl) fun q => w0v_le ?_ ?_)))))
  · rcases isP_cases d.isP with rfl | rfl <;> decide +kernel
  · unfold val0 mdI; simp only [Int.fmod_fmod]
  · unfold nz; rw [q]; rfl
set_option tactic.hygienic false in
/-- trees, twice -/
theorem holds_bindR {ε α β : Type} {f : α → T ε β} {K : β → Prop} {X : ε → Prop} : ∀ {t : T ε α}, t.Holds (fun a => (f a).Holds K X) X → (t.bind f).Holds K X
  | .ret _, h => h
  | .dec _ _ _, h => ⟨fun q => holds_bindR (h.1 q), fun q => holds_bindR (h.2 q)⟩
  | .need _ _, h => ⟨h.1, holds_bindR h.2⟩
  | .exc _, h => h
  | .stuck, h => h.elim
set_option tactic.hygienic false in
theorem holds_diag {ε α : Type} {P : α → α → Prop} {X : ε → Prop} : ∀ {t : T ε α}, t.Holds (fun a => P a a) X → t.Holds (fun a => t.Holds (P a) X) X
  | .ret _, h => h
  | .dec b t e, h => ⟨fun q => (holds_diag (h.1 q)).mono (fun a ha => ⟨fun _ => ha, fun q' => (by rw [q] at q'; cases q')⟩) fun _ z => z, fun q => (holds_diag (h.2 q)).mono (fun a ha => ⟨fun q' => (by rw [q] at q'; cases q'), fun _ => ha⟩) fun _ z => z⟩
  | .need b t, h => ⟨h.1, (holds_diag h.2).mono (fun a ha => ⟨h.1, ha⟩) fun _ z => z⟩
  | .exc _, h => h
  | .stuck, h => h.elim
set_option tactic.hygienic false in
theorem eqK_ref : eqK refused refused = .ret (.bool true) := by kernel_rfl
set_option tactic.hygienic false in
theorem eqK_none : eqK .none .none = .ret (.bool true) := by kernel_rfl
set_option tactic.hygienic false in
theorem eqK_tup (x y x' y' : PP) : eqK (tup3 x y) (tup3 x' y') = .ret (.sb (((x.1 == x'.1) && (x.2 == x'.2)) && ((y.1 == y'.1) && (y.2 == y'.2)))) := by kernel_rfl
set_option tactic.hygienic false in
theorem ans_diag {p m : Int} {b x : PP} {K : SV → Prop} (kk : Kok K) (k : K (.bool true)) : (ansT p b m x).Holds (fun a => (eqK a a).Holds K fun _ => False) fun _ => False := by
  have r : (eqK refused refused).Holds K fun _ => False := by rw [eqK_ref]; exact k
  have n : (eqK .none .none).Holds K fun _ => False := by rw [eqK_none]; exact k
  have t : ∀ y, (eqK (tup3 x y) (tup3 x y)).Holds K fun _ => False := fun y => by
    rw [eqK_tup]
    exact (TLe.retB (by simp)).h K kk k
  exact ⟨fun _ => r, fun _ => ⟨fun _ => n, fun _ => ⟨fun _ => r, fun _ => ⟨fun _ => r, fun _ => ⟨fun _ => ⟨fun _ => t _, fun _ => t _⟩, fun _ => r⟩⟩⟩⟩⟩
set_option tactic.hygienic false in
theorem ansB_of {p m : Int} {b x : PP} {P : SV → Prop} (hb : p ≤ x.1 ∨ p ≤ x.2) (h : (ansT p b m x).Holds P fun _ => False) : (ansB p m x).Holds P fun _ => False :=
  ⟨h.1, fun q => ⟨(h.2 q).1, fun q1 => ⟨((h.2 q).2 q1).1, fun q2 => ⟨(((h.2 q).2 q1).2 q2).1, fun q3 => by
    have q2 := of_decide_eq_false q2
    have q3 := of_decide_eq_false q3
    omega⟩⟩⟩⟩
set_option tactic.hygienic false in
theorem zv_eq {m : Int} {x : PP} (hx : 0 ≤ x.2) (hx' : x.2 < 2 ^ 381) : (zv m x).fdiv (2 ^ 381) = m ∧ (zv m x).fmod (2 ^ 381) = x.2 := by
  unfold zv
  have pos : (0 : Int) < 2 ^ 381 := by decide
  generalize (2 : Int) ^ 381 = H at *
  rw [Int.fdiv_eq_ediv_of_nonneg _ (Int.le_of_lt pos), Int.fmod_eq_emod_of_nonneg _ (Int.le_of_lt pos)]
  exact ⟨by rw [Int.add_mul_ediv_right _ _ (by omega), Int.ediv_eq_zero_of_lt hx hx', Int.zero_add], by rw [Int.add_mul_emod_self_right, Int.emod_eq_of_lt hx hx']⟩
set_option tactic.hygienic false in
theorem okZ_of {m : Int} {x : PP} (hm : 0 ≤ m) (hm' : m < 8) (h1 : 0 ≤ x.1) (hx : 0 ≤ x.2) (hx' : x.2 < 2 ^ 381) : okZ (zv m x) x.1 = true := by
  unfold okZ zv
  simp only [Bool.and_eq_true, decide_eq_true_eq]
  omega
set_option tactic.hygienic false in
theorem tld_le {p m : Int} {x : PP} {g : SV → T Unit SV} (hm : 0 ≤ m) (hm' : m < 8) (h1 : 0 ≤ x.1) (hx : 0 ≤ x.2) (hx' : x.2 < 2 ^ 381) {K : SV → Prop} (h : (ansT p (bOf p) m x).Holds (fun a => (g a).Holds K fun _ => False) fun _ => False) : (tld p m x g).Holds K fun _ => False := by
  obtain ⟨e1, e2⟩ := zv_eq (m := m) hx hx'
  unfold tld
  rw [e1, e2]
  exact ⟨okZ_of hm hm' h1 hx hx', holds_bindR h⟩
set_option tactic.hygienic false in
theorem finS_le {p m : Int} {x : PP} (hm : 0 ≤ m) (hm' : m < 8) (h1 : 0 ≤ x.1) (hx : 0 ≤ x.2) (hx' : x.2 < 2 ^ 381) : OKT (finS p m x) :=
  ⟨fun K kk k => tld_le hm hm' h1 hx hx' ((holds_diag (P := fun a c => (eqK a c).Holds K fun _ => False) (ans_diag kk k)).mono (fun _ h => holds_bindR h) fun _ z => z)⟩
set_option tactic.hygienic false in
theorem finB_le {p m : Int} {x : PP} (hm : 0 ≤ m) (hm' : m < 8) (h1 : 0 ≤ x.1) (hx : 0 ≤ x.2) (hx' : x.2 < 2 ^ 381) (hb : p ≤ x.1 ∨ p ≤ x.2) : OKT (finB p m x) :=
  ⟨fun K kk k => tld_le hm hm' h1 hx hx' ((holds_diag (P := fun a c => (eqK a c).Holds K fun _ => False) (ans_diag kk k)).mono (fun _ h => holds_bindR (ansB_of hb h)) fun _ z => z)⟩
set_option tactic.hygienic false in
theorem k4_le {l : List Int} {p m : Int} {x : PP} (h : ok64 l = true) (hp : isP p = true) (hm : 0 ≤ m) (hm' : m < 8) (h1 : 0 ≤ x.1) (hx : 0 ≤ x.2) (hx' : x.2 < 100) : OKT (k4T l p m x) := by
  have p1 : 0 < p ∧ p < 100 := by rcases isP_cases hp with rfl | rfl <;> decide
  have a9 := fm_rng (An l 9) (m := 7) (by decide)
  have a8 := fm_rng (An l 8) (m := 1000003) (by decide)
  have b4 : 0 ≤ (xk4 l x).1 ∧ p ≤ (xk4 l x).1 := by unfold xk4; simp only; omega
  have b5 : ∀ y : PP, 0 ≤ (xk5 l p y).2 ∧ (xk5 l p y).2 < 2 ^ 381 ∧ p ≤ (xk5 l p y).2 := fun y => by unfold xk5; simp only; omega
  have c : x.2 < 2 ^ 381 := by omega
  exact .dec (fun _ => .n h (.dec (fun _ => .n h (finB_le hm hm' b4.1 (b5 _).1 (b5 _).2.1 (.inr (b5 _).2.2))) fun _ => finB_le hm hm' b4.1 hx c (.inl b4.2)))
    fun _ => .dec (fun _ => .n h (finB_le hm hm' h1 (b5 _).1 (b5 _).2.1 (.inr (b5 _).2.2))) fun _ => finS_le hm hm' h1 hx c
set_option tactic.hygienic false in
theorem stepI {v a b : Int} (h : a ≤ v) (q : (v == a) = false) (e : b = a + 1) : b ≤ v := by
  rw [beq_eq_false_iff_ne] at q
  omega
set_option tactic.hygienic false in
theorem lastI {v a b : Int} (h : a ≤ v) (h' : v < b) (e : b = a + 1) : (v == a) = true := by
  rw [beq_iff_eq]
  omega
set_option tactic.hygienic false in
theorem fork_le {v : Int} {S : Int → T Unit SV} (h0 : 0 ≤ v) (h1 : v < 12) (k : ∀ m, 0 ≤ m → m < 8 → OKT (S m)) : OKT (fork12 v S) := by
  have k0 := k 0 (by decide) (by decide)
  have k1 := k 1 (by decide) (by decide)
  have k2 := k 2 (by decide) (by decide)
  have k3 := k 3 (by decide) (by decide)
  have k4 := k 4 (by decide) (by decide)
  have k5 := k 5 (by decide) (by decide)
  have k6 := k 6 (by decide) (by decide)
  have k7 := k 7 (by decide) (by decide)
  refine .dec (fun _ => k4) fun q => ?_
  have h := stepI h0 q (b := 1) rfl
  refine .dec (fun _ => k5) fun q => ?_
  have h := stepI h q (b := 2) rfl
  refine .dec (fun _ => k4) fun q => ?_
  have h := stepI h q (b := 3) rfl
  refine .dec (fun _ => k5) fun q => ?_
  have h := stepI h q (b := 4) rfl
  refine .dec (fun _ => k4) fun q => ?_
  have h := stepI h q (b := 5) rfl
  refine .dec (fun _ => k5) fun q => ?_
  have h := stepI h q (b := 6) rfl
  refine .dec (fun _ => k6) fun q => ?_
  have h := stepI h q (b := 7) rfl
  refine .dec (fun _ => k7) fun q => ?_
  have h := stepI h q (b := 8) rfl
  refine .dec (fun _ => k0) fun q => ?_
  have h := stepI h q (b := 9) rfl
  refine .dec (fun _ => k1) fun q => ?_
  have h := stepI h q (b := 10) rfl
  refine .dec (fun _ => k2) fun q => ?_
  have h := stepI h q (b := 11) rfl
  exact .needI (lastI h h1 rfl) k3
set_option tactic.hygienic false in
theorem w3_le {l : List Int} {p : Int} (h : ok64 l = true) (d : drawn p l) (w1 : isWay l 1 = false) (w0 : isWay l 0 = false) (w2 : isWay l 2 = false) : OKT (w3 l p) := by
  have p1 : 0 < p ∧ p < 50 := by rcases isP_cases d.isP with rfl | rfl <;> decide
  have a := fm_rng (An l 7) (m := 12) (by decide)
  have b := fm_rng (An l 8) (m := p + 2) (by omega)
  have c := fm_rng (An l 9) (m := p + 2) (by omega)
  exact .needI (by rw [w1]; rfl) (.pk d (.needI (by rw [w0]; rfl) (.needI (by rw [w2]; rfl) (.n h (.n h (fork_le a.1 a.2 fun m hm hm' => .n h (.n h (.dec (fun _ => k4_le h d.isP hm hm' (by decide) (by decide) (by decide)) fun _ => k4_le h d.isP hm hm' b.1 c.1 (show (An l 9).fmod (p + 2) < 100 by omega)))))))))
/-- way 2: the written points, one by one -/
noncomputable def wtrue (t : T Unit SV) : Bool := match t.walk with
  | some (.bool b) => b
  | some (.sb b) => b
  | _ => false
theorem wtrue_le {t : T Unit SV} (h : wtrue t = true) : OKT t := by
  unfold wtrue at h
  split at h
  · next b e => subst h; exact ⟨fun K kk k => T.walk_holds k e⟩
  · next b e => exact ⟨fun K kk k => T.walk_holds (kk _ _ (fun W v hv => by simp only [VR] at hv ⊢; rw [hv, h]) k) e⟩
  · cases h
noncomputable def ptC (p : Int) (X Y : PP) : Bool := ptOK p X Y (mdI p (bOf p)) && wtrue (tld p (markS p Y) X fun a => eqK a (tup3 X Y))
noncomputable def ptA (p : Int) (i : Nat) : Bool := ptC p (XX p i) (YY p i) && ptC p (XX p i) (oppS p (YY p i))
set_option tactic.hygienic false in
theorem ptA19 : allN (ptA 19) 7 = true := by kernel_rfl
set_option tactic.hygienic false in
theorem ptA43 : allN (ptA 43) 7 = true := by kernel_rfl
set_option tactic.hygienic false in
theorem pt_all {p : Int} (hp : isP p = true) {i : Nat} (hi : i < 7) : ptA p i = true := by
  rcases isP_cases hp with rfl | rfl
  · exact allN_get ptA19 hi
  · exact allN_get ptA43 hi
noncomputable def nnC (p : Int) : Bool := wtrue (.need (okZ (6 * 2 ^ 381) 0) (T.bind (ansT p (bOf p) ((6 * 2 ^ 381 : Int).fdiv (2 ^ 381)) (0, (6 * 2 ^ 381 : Int).fmod (2 ^ 381))) fun a => eqK a .none))
set_option tactic.hygienic false in
theorem nn19 : nnC 19 = true := by kernel_rfl
set_option tactic.hygienic false in
theorem nn43 : nnC 43 = true := by kernel_rfl
set_option tactic.hygienic false in
theorem nn_all {p : Int} (hp : isP p = true) : nnC p = true := by
  rcases isP_cases hp with rfl | rfl
  · exact nn19
  · exact nn43
set_option tactic.hygienic false in
theorem w2N_le {l : List Int} {p : Int} (d : drawn p l) (w1 : isWay l 1 = false) (w0 : isWay l 0 = false) (w2 : isWay l 2 = true) : OKT (w2N l p) :=
  .needI (by rw [w1]; rfl) (.pk d (.needI (by rw [w0]; rfl) (.needI w2 (wtrue_le (nn_all d.isP)))))
set_option tactic.hygienic false in
theorem w2P_le {l : List Int} {p : Int} {X Y : PP} (h : wtrue (tld p (markS p Y) X fun a => eqK a (tup3 X Y)) = true) (d : drawn p l) (w1 : isWay l 1 = false) (w0 : isWay l 0 = false) (w2 : isWay l 2 = true) : OKT (w2P l p X Y) :=
  .needI (by rw [w1]; rfl) (.pk d (.needI (by rw [w0]; rfl) (.needI w2 (wtrue_le h))))
set_option tactic.hygienic false in
/-- the four ways -/
theorem ways_le {l : List Int} {p : Int} {t t1 t2 : T Unit SV} (h : ok64 l = true) (d : drawn p l) (h1 : isWay l 1 = true → OKT t1) (h2 : isWay l 1 = false → isWay l 0 = false → isWay l 2 = true → OKT t2)
    (b1 : TLe t1 t) (b0 : TLe (w0 l p) t) (b2 : TLe t2 t) (b3 : TLe (w3 l p) t) : OKT t := by
  rcases e1 : isWay l 1 with _ | _
  rotate_left
  · exact (h1 e1).trans b1
  · rcases e0 : isWay l 0 with _ | _
    rotate_left
    · exact (w0_le h d e1 e0).trans b0
    ·
      rcases e2 : isWay l 2 with _ | _
      rotate_left
      · exact (h2 e1 e0 e2).trans b2
      · exact (w3_le h d e1 e0 e2).trans b3
set_option tactic.hygienic false in
theorem runN_le {l : List Int} {p : Int} (h : ok64 l = true) (d : drawn p l) : OKT (runB p (loc0 l p .none)) := by
  have w := fun (t : T Unit SV) => ways_le (t := t) h d (w1N_le h) (w2N_le d)
  rcases isP_cases d.isP with rfl | rfl
  · exact w _ (.pathR (w1N19 l)) (.pathR (w0N19 l)) (.pathR (w2N19 l)) (.pathR (w3N19 l))
  · exact w _ (.pathR (w1N43 l)) (.pathR (w0N43 l)) (.pathR (w2N43 l)) (.pathR (w3N43 l))
set_option tactic.hygienic false in
theorem runP_le {l : List Int} {p : Int} {X Y Z : PP} (h : ok64 l = true) (d : drawn p l) (c : ptC p X Y = true) : OKT (runB p (locP l p X Y Z)) := by
  obtain ⟨c1, c2⟩ := Bool.and_eq_true_iff.mp c
  have w := fun (t : T Unit SV) => ways_le (t := t) h d (w1P_le h d.isP c1) (w2P_le c2 d)
  rcases isP_cases d.isP with rfl | rfl
  · exact w _ (.pathR (w1P19 l X Y Z)) (.pathR (w0P19 l X Y Z)) (.pathR (w2P19 l X Y Z)) (.pathR (w3P19 l X Y Z))
  · exact w _ (.pathR (w1P43 l X Y Z)) (.pathR (w0P43 l X Y Z)) (.pathR (w2P43 l X Y Z)) (.pathR (w3P43 l X Y Z))
set_option tactic.hygienic false in
theorem fork7_le {v : Int} {S : Nat → T Unit SV} (h0 : 0 ≤ v) (h1 : v < 7) (k : ∀ i, i < 7 → OKT (S i)) : OKT (fork7 v S) := by
  refine .dec (fun _ => k _ (by decide)) fun q => ?_
  have h := stepI h0 q (b := 1) rfl
  refine .dec (fun _ => k _ (by decide)) fun q => ?_
  have h := stepI h q (b := 2) rfl
  refine .dec (fun _ => k _ (by decide)) fun q => ?_
  have h := stepI h q (b := 3) rfl
  refine .dec (fun _ => k _ (by decide)) fun q => ?_
  have h := stepI h q (b := 4) rfl
  refine .dec (fun _ => k _ (by decide)) fun q => ?_
  have h := stepI h q (b := 5) rfl
  refine .dec (fun _ => k _ (by decide)) fun q => ?_
  have h := stepI h q (b := 6) rfl
  exact .needI (lastI h h1 rfl) (k _ (by decide))
set_option tactic.hygienic false in
theorem trP_le {l : List Int} {p : Int} (h : ok64 l = true) (d : drawn p l) : OKT (trP l p runB) := by
  have a1 := fm_rng (An l 1) (m := 15) (by decide)
  refine .needI h (.dec (fun q => ?_) fun _ => runN_le h d)
  have q : (An l 1).fmod 15 < 14 := of_decide_eq_true q
  refine fork7_le ?_ ?_ fun i hi => .dec (fun _ => runP_le h d (Bool.and_eq_true_iff.mp (pt_all d.isP hi)).1) fun _ => runP_le h d (Bool.and_eq_true_iff.mp (pt_all d.isP hi)).2
  · rw [Int.fdiv_eq_ediv_of_nonneg _ (by decide)]; omega
  · rw [Int.fdiv_eq_ediv_of_nonneg _ (by decide)]; omega
set_option tactic.hygienic false in
/-- THE LAW'S RUN TELLS TRUE -/
theorem runL_le {l : List Int} (h : ok64 l = true) : OKT (runL l) := by
  rw [runL_eq]
  refine .needI h (.needI h (.dec (fun k => trP_le h (.inl ⟨rfl, k⟩)) fun k => ?_))
  have k' : pk1 l = true := by
    have a0 := fm_rng (An l 0) (m := 2) (by decide)
    unfold pk0 at k
    unfold pk1
    rw [beq_eq_false_iff_ne] at k
    rw [beq_iff_eq]
    omega
  exact .needI k' (trP_le h (.inr ⟨rfl, k, k'⟩))
set_option tactic.hygienic false in
/-- the end: what the head asks for -/
theorem lw : looseW qv loose = loose := by kernel_rfl
set_option tactic.hygienic false in
theorem law_at (P : Params) : nsIn (kmk.heap_1 P) mainGlobals PySem.Challenge.rw_lh0035_01.row.name = some (some (.ref (371 : Nat))) := by kernel_rfl
set_option tactic.hygienic false in
theorem no_pt (P : Params) : (kmk.heap_1 P).lookup PT = none := by kernel_rfl
set_option tactic.hygienic false in
theorem code_at (P : Params) : codeOf PT ((kmk.heap_1 P).lookup 103) = true := by kernel_rfl
set_option tactic.hygienic false in
theorem ints_of {vs : List Value} {l : List Int} (h : IntsAre vs l) : intsR l vs := by
  induction h with
  | nil => rfl
  | cons n t _ ih => exact ⟨t, _, rfl, ih⟩
set_option tactic.hygienic false in
theorem old_of {P : Params} {h h' : Heap} (KX : (kmk.heap_1 P).In h) (pt : h.get? PT = some (tabO #[])) (tab : TabOK h') (k : ∀ b o, b ≠ PT → h.get? b = some o → h'.get? b = some o) : OldK h h' := by
  obtain ⟨o', vs, t1, _, _, t2⟩ := tab
  refine ⟨fun b o e => ?_, fun b o e => ?_⟩
  · by_cases hb : b = PT
    · subst hb
      rw [pt] at e
      cases e
      refine .inr (.inl ⟨?_, rfl, #[], vs, rfl, ?_⟩)
      · obtain ⟨oc, vc, c1, c2, c3, c4⟩ := codeOf_ok (P := PT) (h := h) (c := 103) (code_at P) fun o e => KX _ _ e
        exact ⟨103, oc, vc, c1, c2, c3, c4⟩
      · rw [t1, t2, Array.empty_append]; rfl
    · exact .inl (k b o hb e)
  · by_cases hb : b = PT
    · subst hb; exact ⟨_, t1⟩
    · exact ⟨o, k b o hb e⟩
theorem walk : WalkO qv loose XO KH.says PySem.Challenge.rw_lh0035_01.row.toRowW ((defOf qv PySem.Challenge.rw_lh0035_01.row.name).get (by rfl)).1 ((defOf qv PySem.Challenge.rw_lh0035_01.row.name).get (by rfl)).2 fun f vs => PySem.call f vs := by
  intro w s₀ s₁ mg mb G Y fa o pm cd doc dV kV ho hd hcd hD hmg hg args vals as hpre hlay hrd hwl hlo
  have KX : (kmk.heap_1 w.params).In s₁.heap := kIn_of Y
  have T := topRead_of G.T
  rw [lw] at T
  have XB := G.X.bm
  have XP : s₁.heap.get? PT = some (tabO #[]) := G.X.pt
  have h371 : fa = (371 : Nat) := by
    have e := mg_of KX T.g (law_at w.params)
    have hmg : mg PySem.Challenge.rw_lh0035_01.row.name = some (.ref fa) := hmg
    rw [e] at hmg
    cases hmg
    rfl
  subst h371
  clear hD hd hcd ho hmg
  wrow_args hpre hlay hrd hwl hlo
  rename_i l _ _ _ _ _ _ _ a vs _ hL _ w1 _ hI _ hlen _
  have hl : ok64 l = true := by
    unfold ok64
    have : l.length < 64 := by omega
    simpa using this
  have ga : s₁.heap.get? a = some { cls := .type "list", data := .seq vs.toArray } := by
    cases w1 with
    | list e _ =>
      rename_i vs' 
      obtain ⟨o1, g1, g2, n, g3⟩ := hL
      rw [e] at g1
      cases g1
      cases g3
      exact e
  have aPT : a ≠ PT := fun e => by
    rw [e, XP] at ga
    cases ga
  have tab : TabOK s₁.heap := ⟨_, #[], XP, rfl, trivial, rfl⟩
  have kk : Kok (fun r => ∀ (s' : Shared) (W : Wd) (u : Value), TabOK s'.heap → (∀ b o, b ≠ PT → s₁.heap.get? b = some o → s'.heap.get? b = some o) → Sh s₁ s' → VR W r u →
      GoodWG PySem.Challenge.rw_lh0035_01.row.claim (classAt s₀.heap) (ExcName.means s₀.heap) [ofPy (PyData.list (List.map PyData.int l))] s₁ (.ok (.ret u)) s') := fun r r' le k s' W u t b sh hv => k s' W u t b sh (le _ _ hv)
  refine law_sound (l := l) (H := fun b o => (kmk.heap_1 w.params).lookup b = some o) (HL := fun b o => b = a ∧ s₁.heap.get? b = some o) (mg := mg) (mb := mb) ⟨rfl, by decide, by decide⟩ rfl
    ⟨KX, T, tab, XB, fun _ _ h => h, fun b o h => ⟨KX _ _ h, fun e => by rw [e, no_pt] at h; cases h⟩, fun b o h => ⟨h.2, fun e => aPT (h.1.symm.trans e)⟩⟩
    (.one (by simp only [VR, tyR]; exact ⟨a, _, vs.toArray, rfl, ⟨rfl, ga⟩, ⟨_, rfl⟩, ints_of hI⟩)) ((runL_le hl).h _ kk fun s' W u t b sh hv => ?_)
  simp only [VR] at hv
  subst hv
  refine ⟨.inl ⟨.bool true, .bool true, [], rfl, ?_, .bool _, ?_, fun _ => ⟨List.nodup_nil, fun _ h => nomatch h⟩⟩, old_of KX XP t b, sh.o, sh.g (.of_eq hg)⟩
  · exact fun _ => rfl
  · wrow_post
end Mine
theorem PySem.Challenge.cw_lh0035_01_holds : PySem.Challenge.rw_lh0035_01.Holds := by
  exact Mine.t1 fun said => Mine.hd0 Mine.walk said
