import PyProof.Rows.All
import Wide.All
import OpenK.AllK
import Wide.FinOn
import Lean
import PySem.Challenge.RW_jb0040_01
open PySem PySem.W PySem.Calls PyProof.Rows
set_option Elab.async false
set_option maxRecDepth 100000
set_option maxHeartbeats 8000000
set_option linter.unusedVariables false
-- H0
namespace Mine
/-- the text's own statements -/
noncomputable def stAt (i : Nat) : Stmt := PySem.Challenge.pw_jb0040_01.main.body.getD i default
noncomputable def inCls (i j : Nat) : Stmt := match stAt i with | .ClassDef _ _ _ body _ _ _ _ _ _ _ => body.getD j default | _ => default
noncomputable def litsAt (i : Nat) : List Int := match stAt i with
  | .Assign _ (.List es _) _ => es.map fun e => match e with | .Constant (.int k) _ _ => k | _ => 0
  | _ => []
/-- what its defs leave -/
noncomputable def mkFn (st : Stmt) (qual : Option Str) (dflt : Value) (doc : Nat) (mod : Value) (code : Addr) : Obj := match st with
  | .FunctionDef name args body _ _ _ scope _ _ _ => { cls := .type "function", data := .func { name, qualname := qual.getD name, params := args, body := .stmts body, scope, globals := 3, closure := [], defaults := dflt, kwdefaults := .none, doc := match PySem.docOf body with | some s => .str s doc | none => .none, pyModule := mod, code := .ref code } }
  | _ => default
noncomputable def mkCode (name qual : Str) (q line nargs flags names p11 P : Nat) (c12 c13 c14 c15 : Value) (e f : Nat) : Obj :=
  { cls := .type "code", data := .fields #[.str name (q - 1), .str qual q, .str "/claim/cut.py" (q + 1), .int line 0, .int nargs 0, .int 0 0, .int 0 0, .int flags 0, .ref names, .bool true, .int p11 0, .ref P, c12, c13, c14, c15, .int e 0, .int line 0, .str "/claim/cut.py" f] }
noncomputable def tabOf (t : Nat) (ns : List Int) : List Value := ns.zipIdx.map fun x => .int x.1 (t + x.2)
noncomputable def kv (x : Str) (t : Nat) (v : Value) : Str × Nat × Value := (x, t, v)
noncomputable def dictE (P : Params) (l : List (Str × Nat × Value)) : Array DictEntry := (l.map fun x => { hash := PyData.keyHash P x.1, key := .str x.1 x.2.1, val := x.2.2 : DictEntry }).toArray
noncomputable def K0a : List Addr := [2, 3, 49, 55, 56, 72, 73, 94, 95, 136, 137, 139, 140, 144, 145, 146, 160, 161, 167, 168, 172, 173, 179, 180, 186, 187, 193, 194, 200, 201, 207, 208, 214, 215, 221, 222, 226, 227, 231, 232, 151, 154]
noncomputable def K0f (P : Params) : Frag := [
  (2, { cls := .none, data := .dict (dictE P [kv "type.__subclasses__.Exception.0" 220 (.int 31 0), kv "type.__subclasses__.Exception.n" 221 (.int 1 0)]) 2 }),
  (3, { cls := .type "dict", data := .dict (dictE P [kv "__name__" 165 (.str "law_jb0040_01" 946), kv "__doc__" 166 (.none), kv "__package__" 167 (.none), kv "__loader__" 168 (.builtin "__main__.__loader__#opaque"), kv "__spec__" 169 (.none), kv "__annotations__" 170 (.ref 6), kv "__builtins__" 171 (.ref 4), kv "__file__" 173 (.str "/claim/cut.py" 172), kv "__cached__" 174 (.none), kv "_wall" 193 (.ref 21), kv "MAX_SHARE_COUNT" 195 (.int 16 194), kv "DIGEST_LENGTH_BYTES" 197 (.int 4 196), kv "SECRET_INDEX" 199 (.int 255 198), kv "DIGEST_INDEX" 201 (.int 254 200), kv "MnemonicError" 223 (.ref 31), kv "_tuplegetter" 282 (.ref 73), kv "RawShare" 397 (.ref 145), kv "_EXP_TABLE_00" 526 (.ref 149), kv "_EXP_TABLE_01" 654 (.ref 150), kv "EXP_TABLE" 655 (.ref 151), kv "_LOG_TABLE_00" 784 (.ref 152), kv "_LOG_TABLE_01" 913 (.ref 153), kv "LOG_TABLE" 914 (.ref 154), kv "_interpolate" 930 (.ref 161), kv "_create_digest" 939 (.ref 168), kv "_split_secret" 945 (.ref 173), kv "_law_ones" 953 (.ref 180), kv "_law_spread" 955 (.int 16395309179817738009521987751666139093583423331470737840399399094199505546377 954), kv "_law_number" 963 (.ref 187), kv "_law_octets" 971 (.ref 194), kv "_law_times" 981 (.ref 201), kv "_law_inverse" 990 (.ref 208), kv "_law_reach" 1000 (.ref 215), kv "_law_curve" 1012 (.ref 222), kv "_law_split" 1018 (.ref 227), kv "law" 1024 (.ref 232)]) 36 }),
  (49, { cls := .type "tuple", data := .seq #[.none] 0 }),
  (55, mkCode "__get__" "_tuplegetter.__get__" 248 18 3 3 50 181 51 (.none) (.ref 52) (.ref 53) (.ref 54) 253 254),
  (56, mkFn (inCls 8 1) (some "_tuplegetter.__get__") (.ref 49) 0 (.str "shamir_mnemonic.shamir" 224) 55),
  (72, { cls := .type "dict", data := .dict (dictE P [kv "__module__" 233 (.str "shamir_mnemonic.shamir" 224), kv "__firstlineno__" 237 (.int 12 236), kv "__init__" 246 (.ref 48), kv "__get__" 255 (.ref 56), kv "__set__" 264 (.ref 63), kv "__delete__" 272 (.ref 70), kv "__static_attributes__" 275 (.ref 71), kv "__dict__" 277 (.ref 74), kv "__weakref__" 279 (.ref 75), kv "__doc__" 280 (.none)]) 4 }),
  (73, { cls := .type "type", data := .cls { name := "_tuplegetter", bases := [.type "object"], mro := [.ref 73, .type "object"], ns := 72, qualname := "_tuplegetter", hasDict := true }, slots := #[none, none, some (.str "_tuplegetter" 226), some (.str "_tuplegetter" 234), some (.builtin "object.__new__"), some (.bool true)] }),
  (94, mkCode "__new__" "RawShare.__new__" 304 36 3 3 89 181 90 (.none) (.ref 91) (.ref 92) (.ref 93) 309 310),
  (95, mkFn (inCls 9 4) (some "RawShare.__new__") (.none) 311 (.str "shamir_mnemonic.shamir" 224) 94),
  (136, { cls := .type "dict", data := .dict (dictE P [kv "index" 379 (.int 0 373), kv "__doc__" 381 (.str "Alias for field number 0" 374)]) 2 }),
  (137, { cls := .ref 73, dict := some 136, data := .plain }),
  (139, { cls := .type "dict", data := .dict (dictE P [kv "index" 389 (.int 1 383), kv "__doc__" 391 (.str "Alias for field number 1" 384)]) 2 }),
  (140, { cls := .ref 73, dict := some 139, data := .plain }),
  (144, { cls := .type "dict", data := .dict (dictE P [kv "__module__" 290 (.str "shamir_mnemonic.shamir" 224), kv "__firstlineno__" 294 (.int 30 293), kv "__doc__" 296 (.str "RawShare(x, data)" 295), kv "__slots__" 298 (.ref 86), kv "_fields" 301 (.ref 87), kv "_field_defaults" 302 (.ref 88), kv "__new__" 312 (.ref 146), kv "_make" 334 (.ref 104), kv "_replace" 345 (.ref 113), kv "__replace__" 346 (.ref 113), kv "__repr__" 354 (.ref 120), kv "_asdict" 361 (.ref 127), kv "__getnewargs__" 369 (.ref 134), kv "__match_args__" 372 (.ref 135), kv "x" 382 (.ref 137), kv "data" 392 (.ref 140), kv "__static_attributes__" 393 (.ref 142)]) 2 }),
  (145, { cls := .type "type", data := .cls { name := "RawShare", bases := [.type "tuple"], mro := [.ref 145, .type "tuple", .type "object"], ns := 144, qualname := "RawShare", hasDict := false }, slots := #[some (.ref 78), none, some (.str "RawShare" 283), some (.str "RawShare" 291), some (.none), some (.bool false)] }),
  (146, { cls := .type "staticmethod", data := .fields #[.ref 95] }),
  (160, mkCode "_interpolate" "_interpolate" 916 78 2 3 155 181 156 (.none) (.ref 157) (.ref 158) (.ref 159) 927 928),
  (161, mkFn (stAt 16) none (.none) 929 (.str "shamir_mnemonic.shamir" 224) 160),
  (167, mkCode "_create_digest" "_create_digest" 932 104 3 3 162 181 163 (.none) (.ref 164) (.ref 165) (.ref 166) 937 938),
  (168, mkFn (stAt 17) none (.none) 0 (.str "shamir_mnemonic.shamir" 224) 167),
  (172, mkCode "_split_secret" "_split_secret" 941 106 5 3 169 181 170 (.none) (.none) (.none) (.ref 171) 943 944),
  (173, mkFn (stAt 18) none (.none) 0 (.str "shamir_mnemonic.shamir" 224) 172),
  (179, mkCode "_law_ones" "_law_ones" 949 124 0 3 174 181 175 (.none) (.ref 176) (.ref 177) (.ref 178) 951 952),
  (180, mkFn (stAt 20) none (.none) 0 (.str "law_jb0040_01" 946) 179),
  (186, mkCode "_law_number" "_law_number" 957 127 2 3 181 181 182 (.none) (.ref 183) (.ref 184) (.ref 185) 961 962),
  (187, mkFn (stAt 22) none (.none) 0 (.str "law_jb0040_01" 946) 186),
  (193, mkCode "_law_octets" "_law_octets" 965 129 2 3 188 181 189 (.none) (.ref 190) (.ref 191) (.ref 192) 969 970),
  (194, mkFn (stAt 23) none (.none) 0 (.str "law_jb0040_01" 946) 193),
  (200, mkCode "_law_times" "_law_times" 973 131 2 3 195 181 196 (.none) (.ref 197) (.ref 198) (.ref 199) 979 980),
  (201, mkFn (stAt 24) none (.none) 0 (.str "law_jb0040_01" 946) 200),
  (207, mkCode "_law_inverse" "_law_inverse" 983 140 1 3 202 181 203 (.none) (.ref 204) (.ref 205) (.ref 206) 988 989),
  (208, mkFn (stAt 25) none (.none) 0 (.str "law_jb0040_01" 946) 207),
  (214, mkCode "_law_reach" "_law_reach" 992 146 2 3 209 181 210 (.none) (.ref 211) (.ref 212) (.ref 213) 998 999),
  (215, mkFn (stAt 26) none (.none) 0 (.str "law_jb0040_01" 946) 214),
  (221, mkCode "_law_curve" "_law_curve" 1002 151 4 3 216 181 217 (.none) (.ref 218) (.ref 219) (.ref 220) 1010 1011),
  (222, mkFn (stAt 27) none (.none) 0 (.str "law_jb0040_01" 946) 221),
  (226, mkCode "_law_split" "_law_split" 1014 156 5 3 223 181 224 (.none) (.none) (.none) (.ref 225) 1016 1017),
  (227, mkFn (stAt 28) none (.none) 0 (.str "law_jb0040_01" 946) 226),
  (231, mkCode "law" "law" 1020 166 1 3 228 181 229 (.none) (.none) (.none) (.ref 230) 1022 1023),
  (232, mkFn (stAt 29) none (.none) 0 (.str "law_jb0040_01" 946) 231),
  (151, { cls := .type "list", data := .seq (tabOf 398 (litsAt 10) ++ tabOf 527 (litsAt 11)).toArray }),
  (154, { cls := .type "list", data := .seq (tabOf 656 (litsAt 13) ++ tabOf 785 (litsAt 14)).toArray })]
noncomputable def K0 (w : World) : Frag := K0f w.params
end Mine

-- L1
namespace Mine

/-- what is known of a value; objects are told by their content -/
inductive D where
  | int (i : Int)
  | bool (b : Bool)
  | none
  | bytes (b : List UInt8)
  | str (x : Str)
  | val (v : Value)
  | list (ds : List D)
  | tup (ds : List D)
  | share (x : Int) (b : List UInt8)
  | obj (P : Obj → Prop)
  | is (d : D) (v : Value)

/-- the class RawShare stands at 145 -/
noncomputable abbrev shareObj (d : Addr) (vs : List Value) (n : Nat) : Obj := { cls := .ref 145, dict := some d, data := .seq vs.toArray n }

mutual
noncomputable def sat : D → Value → Heap → Prop
  | .int i, v, _ => ∃ t, v = .int i t
  | .bool b, v, _ => v = .bool b
  | .none, v, _ => v = .none
  | .bytes b, v, _ => ∃ t, v = .bytes b.toArray t
  | .str x, v, _ => ∃ t, v = .str x t
  | .val w, v, _ => v = w
  | .list ds, v, h => ∃ a vs, v = .ref a ∧ h.PlainList a vs.toArray ∧ sats ds vs h
  | .tup ds, v, h => ∃ a vs n, v = .ref a ∧ h.get? a = some { cls := .type "tuple", data := .seq vs.toArray n } ∧ sats ds vs h
  | .share x b, v, h => ∃ a d n t u, v = .ref a ∧ h.get? a = some (shareObj d [.int x t, .bytes b.toArray u] n) ∧ h.get? d = some emptyDict
  | .obj P, v, h => ∃ a o, v = .ref a ∧ h.get? a = some o ∧ P o
  | .is d u, v, h => v = u ∧ sat d v h
noncomputable def sats : List D → List Value → Heap → Prop
  | [], vs, _ => vs = []
  | d :: ds, vs, h => ∃ v r, vs = v :: r ∧ sat d v h ∧ sats ds r h
end

def Le (h h' : Heap) : Prop := ∀ b o, h.get? b = some o → h'.get? b = some o
theorem Le.refl (h : Heap) : Le h h := fun _ _ e => e
theorem Le.trans {a b c : Heap} (x : Le a b) (y : Le b c) : Le a c := fun _ _ e => y _ _ (x _ _ e)
theorem Le.list {h h' : Heap} (k : Le h h') {a : Addr} {items : Array Value} (x : h.PlainList a items) : h'.PlainList a items := let ⟨n, e⟩ := x; ⟨n, k _ _ e⟩

mutual
theorem sat_mono {h h' : Heap} (k : Le h h') : ∀ {d : D} {v : Value}, sat d v h → sat d v h'
  | .int _, _, x => by unfold sat at x ⊢; exact x
  | .bool _, _, x => by unfold sat at x ⊢; exact x
  | .none, _, x => by unfold sat at x ⊢; exact x
  | .bytes _, _, x => by unfold sat at x ⊢; exact x
  | .str _, _, x => by unfold sat at x ⊢; exact x
  | .val _, _, x => by unfold sat at x ⊢; exact x
  | .list ds, _, x => by
    unfold sat at x ⊢
    obtain ⟨a, vs, rfl, hl, hs⟩ := x
    exact ⟨a, vs, rfl, k.list hl, sats_mono k hs⟩
  | .tup ds, _, x => by
    unfold sat at x ⊢
    obtain ⟨a, vs, n, rfl, hl, hs⟩ := x
    exact ⟨a, vs, n, rfl, k _ _ hl, sats_mono k hs⟩
  | .share _ _, _, x => by
    unfold sat at x ⊢
    obtain ⟨a, d, n, t, u, rfl, hl, hd⟩ := x
    exact ⟨a, d, n, t, u, rfl, k _ _ hl, k _ _ hd⟩
  | .obj _, _, x => by
    unfold sat at x ⊢
    obtain ⟨a, o, rfl, hl, hp⟩ := x
    exact ⟨a, o, rfl, k _ _ hl, hp⟩
  | .is d u, _, x => by
    unfold sat at x ⊢
    exact ⟨x.1, sat_mono k x.2⟩
theorem sats_mono {h h' : Heap} (k : Le h h') : ∀ {ds : List D} {vs : List Value}, sats ds vs h → sats ds vs h'
  | [], _, x => by unfold sats at x ⊢; exact x
  | d :: ds, _, x => by
    unfold sats at x ⊢
    obtain ⟨v, r, rfl, a, b⟩ := x
    exact ⟨v, r, rfl, sat_mono k a, sats_mono k b⟩
end
theorem sats_length {h : Heap} : ∀ {ds : List D} {vs : List Value}, sats ds vs h → vs.length = ds.length
  | [], _, x => by unfold sats at x; rw [x]; rfl
  | d :: ds, _, x => by
    unfold sats at x
    obtain ⟨v, r, rfl, _, b⟩ := x
    rw [List.length_cons, List.length_cons, sats_length b]
theorem sats_get {h : Heap} : ∀ {ds : List D} {vs : List Value} {k : Nat} {d : D}, sats ds vs h → ds[k]? = some d → ∃ v, vs[k]? = some v ∧ sat d v h
  | [], _, _, _, _, e => by cases e
  | d :: ds, _, 0, _, x, e => by
    unfold sats at x
    obtain ⟨v, r, rfl, a, _⟩ := x
    cases e
    exact ⟨v, rfl, a⟩
  | d :: ds, _, k + 1, _, x, e => by
    unfold sats at x
    obtain ⟨v, r, rfl, _, b⟩ := x
    exact sats_get (ds := ds) (vs := r) (k := k) b (by simpa using e)
theorem sats_append {h : Heap} : ∀ {ds : List D} {vs : List Value} {es : List D} {ws : List Value}, sats ds vs h → sats es ws h → sats (ds ++ es) (vs ++ ws) h
  | [], _, _, _, x, y => by unfold sats at x; subst x; exact y
  | d :: ds, _, _, _, x, y => by
    unfold sats at x
    obtain ⟨v, r, rfl, a, b⟩ := x
    exact (by unfold sats; exact ⟨v, _, rfl, a, sats_append b y⟩ : sats (d :: (ds ++ _)) (v :: (r ++ _)) h)
theorem sats_one {h : Heap} {d : D} {v : Value} (x : sat d v h) : sats [d] [v] h := by
  unfold sats; exact ⟨v, [], rfl, x, by unfold sats; rfl⟩
theorem sats_nil {h : Heap} : sats [] [] h := by unfold sats; rfl
theorem sats_cons {h : Heap} {d : D} {v : Value} {ds : List D} {vs : List Value} (x : sat d v h) (y : sats ds vs h) : sats (d :: ds) (v :: vs) h := by
  unfold sats; exact ⟨v, vs, rfl, x, y⟩
theorem ints_of_sats {h : Heap} : ∀ {ns : List Int} {vs : List Value}, sats (ns.map .int) vs h → IntsAre vs ns
  | [], _, x => by unfold sats at x; subst x; exact .nil
  | n :: ns, _, x => by
    unfold List.map sats at x
    obtain ⟨v, r, rfl, a, b⟩ := x
    unfold sat at a
    obtain ⟨t, rfl⟩ := a
    exact .cons n t (ints_of_sats b)
theorem sats_of_ints {h : Heap} : ∀ {ns : List Int} {vs : List Value}, IntsAre vs ns → sats (ns.map .int) vs h
  | _, _, .nil => sats_nil
  | _, _, .cons n t r => sats_cons (by unfold sat; exact ⟨t, rfl⟩) (sats_of_ints r)

/-- a list of ds -/
def Lst (d : D) (ds : List D) : Prop := ∀ v h, sat d v h → ∃ a vs, v = .ref a ∧ h.IsList a vs.toArray ∧ sats ds vs h
theorem Lst.list (ds : List D) : Lst (.list ds) ds := fun v h x => by
  unfold sat at x
  obtain ⟨a, vs, e, hl, hs⟩ := x
  exact ⟨a, vs, e, hl.isList, hs⟩
noncomputable abbrev D.scr (ns : List Int) : D := .obj fun o => ∃ vs, IntsAre vs ns ∧ o.cls = .type "list" ∧ ∃ n, o.data = .seq vs.toArray n
theorem Lst.scr (ns : List Int) : Lst (D.scr ns) (ns.map .int) := fun v h x => by
  unfold sat at x
  obtain ⟨a, o, e, ho, vs, hi, hc, hd⟩ := x
  exact ⟨a, vs, e, ⟨o, ho, hc, hd⟩, sats_of_ints hi⟩
/-- the world, and whether the two tables of code and the generators may move -/
structure Wo where
  w : World
  t : Bool
structure Base (w : Wo) (h : Heap) : Prop where
  inK : (K0 w.w).In h
  lim : h.NoLimit
  blt : ∃ mb, h.Ns builtinsNs mb ∧ ∀ x : Str, x ≠ "__name__" → mb x = bootBuiltins x
  bm : ∃ o, h.get? 4 = some o ∧ o.cls = .type "module" ∧ o.dict = some builtinsNs ∧ o.data = .plain

def TabOk (h : Heap) (c P : Addr) : Prop := ∃ ps, h.TableAt c P ps ∧ h.IsCode c P ps
noncomputable def isTab (b : Addr) : Bool := b == 156
/-- all that stood stands, but the two tables, which stay tables -/
structure Kp (w : Wo) (h h' : Heap) : Prop where
  all : ∀ b o, (w.t = true → isTab b = false) → h.get? b = some o → h'.get? b = some o
  size : h.objs.size ≤ h'.objs.size

theorem Kp.keep {w : Wo} {h h' : Heap} (k : Kp w h h') (b : Addr) (o : Obj) (n : isTab b = false) (e : h.get? b = some o) : h'.get? b = some o := k.all b o (fun _ => n) e
structure Mv (w : Wo) (s s' : Shared) : Prop where
  kp : Kp w s.heap s'.heap
  os : s'.os = s.os
  gens : AllBare s.gens → AllBare s'.gens
  gen0 : w.t = false → s'.gens = s.gens ∧ s'.drawn = s.drawn
theorem Kp.refl {w : Wo} (h : Heap) : Kp w h h := ⟨fun _ _ _ e => e, Nat.le_refl _⟩
theorem Kp.trans {w : Wo} {a b c : Heap} (x : Kp w a b) (y : Kp w b c) : Kp w a c := ⟨fun _ _ n e => y.all _ _ n (x.all _ _ n e), Nat.le_trans x.size y.size⟩
theorem Mv.refl {w : Wo} (s : Shared) : Mv w s s := ⟨.refl _, rfl, id, fun _ => ⟨rfl, rfl⟩⟩
theorem Mv.trans {w : Wo} {a b c : Shared} (x : Mv w a b) (y : Mv w b c) : Mv w a c := ⟨x.kp.trans y.kp, y.os.trans x.os, fun h => y.gens (x.gens h), fun e => ⟨(y.gen0 e).1.trans (x.gen0 e).1, (y.gen0 e).2.trans (x.gen0 e).2⟩⟩

end Mine

-- L2
namespace Mine

theorem notTab {a : Addr} (h : isTab a = false) : a ≠ 156 := by
  unfold isTab at h
  simpa using h
theorem K0_noTab (w : World) : ∀ a o, (K0 w).lookup a = some o → isTab a = false := by
  intro a o e
  cases h : isTab a with
  | false => rfl
  | true =>
    exfalso
    unfold isTab at h
    rw [beq_iff_eq.mp h] at e
    have : (K0 w).lookup 156 = none := by kernel_rfl
    rw [this] at e; cases e
theorem Heap.Ns.kp {w : Wo} {h h' : Heap} (k : Kp w h h') {a : Addr} {m : Str → Option Value} (ha : isTab a = false) (n : h.Ns a m) : h'.Ns a m :=
  let ⟨o, es, ep, e, r⟩ := n; ⟨o, es, ep, k.keep _ _ ha e, r⟩
theorem Heap.IsCell.kp {w : Wo} {h h' : Heap} (k : Kp w h h') {a : Addr} {m : Option Value} (ha : isTab a = false) (n : h.IsCell a m) : h'.IsCell a m :=
  let ⟨o, e, r⟩ := n; ⟨o, k.keep _ _ ha e, r⟩
theorem Base.kp {w : Wo} {h h' : Heap} (B : Base w h) (k : Kp w h h') : Base w h' where
  inK := fun a o e => k.keep _ _ (K0_noTab w.w a o e) (B.inK a o e)
  lim := let ⟨mc, n, x⟩ := B.lim; ⟨mc, Heap.Ns.kp k (by rfl) n, x⟩
  blt := let ⟨mb, n, x⟩ := B.blt; ⟨mb, Heap.Ns.kp k (by rfl) n, x⟩
  bm := let ⟨o, e, r⟩ := B.bm; ⟨o, k.keep _ _ (by rfl) e, r⟩

structure Tb (h : Heap) : Prop where
  t1 : TabOk h 160 156
  t2 : TabOk h 226 224
structure Room (A : Around) (k : Nat) : Prop where
  hd : A.handled = none
  dep : A.depth + k ≤ 900
  un : A.units + 20 * k ≤ 9000
theorem Room.less {A : Around} {k j : Nat} (r : Room A k) (h : j ≤ k) : Room A j := ⟨r.hd, Nat.le_trans (Nat.add_le_add_left h _) r.dep, by have := r.un; omega⟩
theorem Room.deeper {A : Around} {k : Nat} (r : Room A (k + 1)) (env : Env) : Room (A.deeper env) k := ⟨r.hd, by have := r.dep; show A.depth + 1 + k ≤ 900; omega, by have := r.un; show A.units + 3 + 20 * k ≤ 9000; omega⟩
theorem Room.in1 {A : Around} {k : Nat} (r : Room A (k + 1)) : Room A.in1 k := ⟨r.hd, by have := r.dep; show A.depth + k ≤ 900; omega, by have := r.un; show A.units + 1 + 20 * k ≤ 9000; omega⟩

/-- what the frame env knows at s of the names in ρ, the addresses in X apart; s0: the state at the call -/
structure In (w : Wo) (env : Env) (X : List Addr) (F : List (D × Value)) (O : List (Addr × (Obj → Prop))) (s0 : Shared) (ρ : List (Str × D)) (s : Shared) : Prop where
  wd0 : Base w s0.heap
  tb : Tb s.heap
  mv : Mv w s0 s
  kind : env.scope.kind = .function
  glob : env.globals = 3
  bi : env.builtins = 0
  ns : ∃ m, s.heap.Ns env.locals m ∧ ∀ n d, ρ.lookup n = some d → env.kindOf n = some .local → ∃ v, m n = some v ∧ sat d v (hideAll s.heap X)
  isc : ∀ n c, env.cells.lookup n = some c → ∃ v, s.heap.IsCell c v
  cl : ∀ n d, ρ.lookup n = some d → (env.kindOf n = some .cell ∨ env.kindOf n = some .free) → ∃ c v, env.cells.lookup n = some c ∧ s.heap.IsCell c (some v) ∧ sat d v (hideAll s.heap X)
  locX : env.locals ∈ X
  celX : ∀ n c, env.cells.lookup n = some c → c ∈ X
  celT : ∀ n c, env.cells.lookup n = some c → isTab c = false
  locN : env.frame.isSome = true → (env.func.isSome || w.t) = true → s0.heap.objs.size ≤ env.locals
  locT : isTab env.locals = false
  celN : env.func.isSome = true → ∀ n c, env.kindOf n = some .cell → env.cells.lookup n = some c → s0.heap.objs.size ≤ c
  locC : ∀ n c, env.cells.lookup n = some c → c ≠ env.locals
  celC : ∀ n n' c, env.cells.lookup n = some c → env.cells.lookup n' = some c → n = n'
  t1 : 156 ∈ X
  t2 : 224 ∈ X
  lt : ∀ a ∈ X, a < s.heap.objs.size
  low : 233 ≤ s0.heap.objs.size
  fz : ∀ p ∈ F, sat p.1 p.2 (hideAll s.heap X)
  ow : ∀ p ∈ O, (∃ o, s.heap.get? p.1 = some o ∧ p.2 o) ∧ p.1 ≠ env.locals ∧ s0.heap.objs.size ≤ p.1 ∧ p.1 ∈ X ∧ ∀ n c, env.cells.lookup n = some c → c ≠ p.1
  owD : O.Pairwise fun p q => p.1 ≠ q.1

theorem hide_le {w : Wo} {h h' : Heap} {X : List Addr} (t1 : 156 ∈ X) (t2 : 224 ∈ X) (k : Kp w h h') : Le (hideAll h X) (hideAll h' X) := by
  intro b o e
  have hb : b ∉ X := fun hm => by rw [hideAll_none X hm] at e; cases e
  refine hideAll_get X (k.keep _ _ ?_ (of_hideAll X e)) hb
  unfold isTab
  simp only [beq_eq_false_iff_ne]
  exact fun q => hb (q ▸ t1)
theorem notTab_of_ge {n a : Nat} (h : 233 ≤ n) (ha : n ≤ a) : isTab a = false := by
  have h1 : a ≠ 156 := by omega
  unfold isTab
  simp only [beq_eq_false_iff_ne]
  exact h1

section
variable {w : Wo} {env : Env} {X : List Addr} {F : List (D × Value)} {O : List (Addr × (Obj → Prop))} {s0 s s' : Shared} {ρ : List (Str × D)}

/-- a step that keeps all that stood -/
theorem In.step (i : In w env X F O s0 ρ s) (m : Mv w s s') (t : Tb s'.heap) : In w env X F O s0 ρ s' where
  wd0 := i.wd0
  tb := t
  mv := i.mv.trans m
  kind := i.kind
  glob := i.glob
  bi := i.bi
  ns := let ⟨mm, n, x⟩ := i.ns; ⟨mm, Heap.Ns.kp m.kp i.locT n, fun y d e k => let ⟨v, a, b⟩ := x y d e k; ⟨v, a, sat_mono (hide_le i.t1 i.t2 m.kp) b⟩⟩
  isc := fun n c e => let ⟨v, x⟩ := i.isc n c e; ⟨v, Heap.IsCell.kp m.kp (i.celT n c e) x⟩
  cl := fun n d e k => let ⟨c, v, a, b, x⟩ := i.cl n d e k; ⟨c, v, a, Heap.IsCell.kp m.kp (i.celT n c a) b, sat_mono (hide_le i.t1 i.t2 m.kp) x⟩
  locX := i.locX
  celX := i.celX
  celT := i.celT
  locN := i.locN
  locT := i.locT
  celN := i.celN
  locC := i.locC
  celC := i.celC
  t1 := i.t1
  t2 := i.t2
  lt := fun a ha => Nat.lt_of_lt_of_le (i.lt a ha) m.kp.size
  low := i.low
  fz := fun p hp => sat_mono (hide_le i.t1 i.t2 m.kp) (i.fz p hp)
  ow := fun p hp => let ⟨⟨o, a, q⟩, b, c, d⟩ := i.ow p hp; ⟨⟨o, m.kp.keep _ _ (notTab_of_ge i.low c) a, q⟩, b, c, d⟩
  owD := i.owD
end
end Mine

-- L3
namespace Mine
noncomputable abbrev NoE : Value → Shared → Prop := fun _ _ => False

theorem Kp.of_le {w : Wo} {h h' : Heap} (k : Le h h') (hz : h.objs.size ≤ h'.objs.size) : Kp w h h' := ⟨fun b o _ e => k b o e, hz⟩
theorem Le.push (h : Heap) (o : Obj) : Le h (h.push o) := fun _ _ e => Heap.get?_push_of_some o e
theorem Kp.push {w : Wo} (h : Heap) (o : Obj) : Kp w h (h.push o) := .of_le (Le.push h o) (by rw [Heap.size_push]; exact Nat.le_succ _)
theorem TabOk.le {h h' : Heap} {c P : Addr} (k : Le h h') (x : TabOk h c P) : TabOk h' c P := let ⟨ps, a, b⟩ := x; ⟨ps, a.keeps k, b.keeps k⟩
theorem Tb.le {h h' : Heap} (k : Le h h') (x : Tb h) : Tb h' := ⟨x.t1.le k, x.t2.le k⟩
theorem Mv.of_le {w : Wo} {s s' : Shared} (k : Le s.heap s'.heap) (hz : s.heap.objs.size ≤ s'.heap.objs.size) (os : s'.os = s.os) (g : s'.gens = s.gens) (d : s'.drawn = s.drawn) : Mv w s s' :=
  ⟨.of_le k hz, os, fun h => g ▸ h, fun _ => ⟨g, d⟩⟩
theorem Mv.tok {w : Wo} (s : Shared) (t : Nat) : Mv w s { s with toks := t } := ⟨.refl _, rfl, id, fun _ => ⟨rfl, rfl⟩⟩
theorem Mv.heap {w : Wo} (s : Shared) (h : Heap) (t : Nat) (k : Le s.heap h) (hz : s.heap.objs.size ≤ h.objs.size) : Mv w s { s with heap := h, toks := t } := .of_le k hz rfl rfl rfl
theorem Mv.push {w : Wo} (s : Shared) (o : Obj) : Mv w s { s with heap := s.heap.push o } := ⟨.push _ _, rfl, id, fun _ => ⟨rfl, rfl⟩⟩

section
variable {w : Wo} {env : Env} {X : List Addr} {F : List (D × Value)} {O : List (Addr × (Obj → Prop))} {s0 s s' : Shared} {ρ : List (Str × D)} {prog : Program} {A : Around} {E : Value → Shared → Prop}
theorem In.tok (i : In w env X F O s0 ρ s) (t : Nat) : In w env X F O s0 ρ { s with toks := t } := i.step (.tok s t) i.tb
theorem In.keep (i : In w env X F O s0 ρ s) {h : Heap} {t : Nat} (k : Le s.heap h) (hz : s.heap.objs.size ≤ h.objs.size) : In w env X F O s0 ρ { s with heap := h, toks := t } :=
  i.step (.heap s h t k hz) (i.tb.le k)
theorem In.push (i : In w env X F O s0 ρ s) (o : Obj) : In w env X F O s0 ρ { s with heap := s.heap.push o } := i.step (.push s o) (i.tb.le (Le.push _ _))
theorem In.base (i : In w env X F O s0 ρ s) : Base w s.heap := i.wd0.kp i.mv.kp

theorem hide_same {h h' : Heap} {X : List Addr} {a : Addr} (ha : a ∈ X) (hs : Heap.SameBut a h h') : Le (hideAll h X) (hideAll h' X) := by
  intro b o e
  have hb : b ∉ X := fun hm => by rw [hideAll_none X hm] at e; cases e
  exact hideAll_get X (by rw [hs.2 b (fun q => hb (q ▸ ha))]; exact of_hideAll X e) hb
theorem Kp.same {w : Wo} {h0 h h' : Heap} {a : Addr} (k : Kp w h0 h) (ha : h0.objs.size ≤ a) (hs : Heap.SameBut a h h') : Kp w h0 h' :=
  ⟨fun b o n e => by rw [hs.2 b (Nat.ne_of_lt (Nat.lt_of_lt_of_le (Heap.lt_size e) ha))]; exact k.all b o n e, by rw [hs.1]; exact k.size⟩
theorem TabOk.same {h h' : Heap} {c P a : Addr} (x : TabOk h c P) (hc : c ≠ a) (hP : P ≠ a) (hs : Heap.SameBut a h h') : TabOk h' c P :=
  let ⟨ps, p, q⟩ := x; ⟨ps, p.sameBut hs hc hP, q.extBut hs.extBut hc hP⟩
theorem Tb.same {h h' : Heap} {a n : Nat} (x : Tb h) (hn : 233 ≤ n) (ha : n ≤ a) (hs : Heap.SameBut a h h') : Tb h' :=
  have h1 : 160 ≠ a := by omega
  have h2 : 156 ≠ a := by omega
  have h3 : 226 ≠ a := by omega
  have h4 : 224 ≠ a := by omega
  ⟨x.t1.same h1 h2 hs, x.t2.same h3 h4 hs⟩
theorem Mv.same {a : Addr} (m : Mv w s0 s) (ha : s0.heap.objs.size ≤ a) {h' : Heap} {t : Nat} (hs : Heap.SameBut a s.heap h') : Mv w s0 { s with heap := h', toks := t } :=
  ⟨m.kp.same ha hs, m.os, m.gens, m.gen0⟩
theorem lookup_cons_of {n n' : Str} {d d' : D} {ρ : List (Str × D)} (e : List.lookup n' ((n, d) :: ρ) = some d') : (n' = n ∧ d' = d) ∨ (n' ≠ n ∧ ρ.lookup n' = some d') := by
  rw [List.lookup_cons] at e
  by_cases h : n' = n
  · subst h
    simp only [beq_self_eq_true] at e
    exact .inl ⟨rfl, (Option.some.inj e).symm⟩
  · have : (n' == n) = false := by simpa using h
    rw [this] at e
    exact .inr ⟨h, e⟩

theorem In.local_ (i : In w env X F O s0 ρ s) (hfr : env.frame.isSome = true) (hft : (env.func.isSome || w.t) = true) {n : Str} {d : D} {v : Value} {m : Str → Option Value} {h' : Heap} {t : Nat} (hk : env.kindOf n = some .local) (hv : sat d v (hideAll s.heap X))
    (hm : s.heap.Ns env.locals m ∧ ∀ n d, ρ.lookup n = some d → env.kindOf n = some .local → ∃ v, m n = some v ∧ sat d v (hideAll s.heap X))
    (hn : h'.Ns env.locals (fun x => if x = n then some v else m x)) (hs : Heap.SameBut env.locals s.heap h') : In w env X F O s0 ((n, d) :: ρ) { s with heap := h', toks := t } where
  wd0 := i.wd0
  tb := i.tb.same i.low (i.locN hfr hft) hs
  mv := i.mv.same (i.locN hfr hft) hs
  kind := i.kind
  glob := i.glob
  bi := i.bi
  ns := by
    refine ⟨_, hn, fun y d' e k => ?_⟩
    rcases lookup_cons_of e with ⟨rfl, rfl⟩ | ⟨hy, e⟩
    · exact ⟨v, if_pos rfl, sat_mono (hide_same i.locX hs) hv⟩
    · obtain ⟨v', a, b⟩ := hm.2 y d' e k
      exact ⟨v', by rw [if_neg hy]; exact a, sat_mono (hide_same i.locX hs) b⟩
  isc := fun y c e => let ⟨v', x⟩ := i.isc y c e; ⟨v', x.sameBut hs (i.locC y c e)⟩
  cl := fun y d' e k => by
    rcases lookup_cons_of e with ⟨rfl, rfl⟩ | ⟨hy, e⟩
    · rw [hk] at k; rcases k with k | k <;> cases k
    · obtain ⟨c, v', a, b, x⟩ := i.cl y d' e k
      exact ⟨c, v', a, b.sameBut hs (i.locC y c a), sat_mono (hide_same i.locX hs) x⟩
  locX := i.locX
  celX := i.celX
  celT := i.celT
  locN := i.locN
  locT := i.locT
  celN := i.celN
  locC := i.locC
  celC := i.celC
  t1 := i.t1
  t2 := i.t2
  lt := fun a ha => by show a < h'.objs.size; rw [hs.1]; exact i.lt a ha
  low := i.low
  fz := fun p hp => sat_mono (hide_same i.locX hs) (i.fz p hp)
  ow := fun p hp => let ⟨⟨o, a, q⟩, b, c, d⟩ := i.ow p hp; ⟨⟨o, (hs.2 _ b).trans a, q⟩, b, c, d⟩
  owD := i.owD

theorem In.cell_ (i : In w env X F O s0 ρ s) (hf : env.func.isSome = true) {n : Str} {d : D} {v : Value} {c : Addr} {h' : Heap} {t : Nat} (hk : env.kindOf n = some .cell) (hv : sat d v (hideAll s.heap X))
    (hl : env.cells.lookup n = some c) (hn : h'.IsCell c (some v)) (hs : Heap.SameBut c s.heap h') : In w env X F O s0 ((n, d) :: ρ) { s with heap := h', toks := t } where
  wd0 := i.wd0
  tb := i.tb.same i.low (i.celN hf n c hk hl) hs
  mv := i.mv.same (i.celN hf n c hk hl) hs
  kind := i.kind
  glob := i.glob
  bi := i.bi
  ns := by
    obtain ⟨m, hm, hx⟩ := i.ns
    refine ⟨m, hm.sameBut hs (Ne.symm (i.locC n c hl)), fun y d' e k => ?_⟩
    rcases lookup_cons_of e with ⟨rfl, rfl⟩ | ⟨hy, e⟩
    · rw [hk] at k; cases k
    · obtain ⟨v', a, b⟩ := hx y d' e k
      exact ⟨v', a, sat_mono (hide_same (i.celX n c hl) hs) b⟩
  isc := fun y c' e => by
    by_cases q : c' = c
    · exact ⟨_, q ▸ hn⟩
    · obtain ⟨v', x⟩ := i.isc y c' e
      exact ⟨v', x.sameBut hs q⟩
  cl := fun y d' e k => by
    rcases lookup_cons_of e with ⟨rfl, rfl⟩ | ⟨hy, e⟩
    · exact ⟨c, v, hl, hn, sat_mono (hide_same (i.celX _ c hl) hs) hv⟩
    · obtain ⟨c', v', a, b, x⟩ := i.cl y d' e k
      refine ⟨c', v', a, b.sameBut hs (fun q => ?_), sat_mono (hide_same (i.celX n c hl) hs) x⟩
      subst q
      exact hy (i.celC _ _ _ a hl)
  locX := i.locX
  celX := i.celX
  celT := i.celT
  locN := i.locN
  locT := i.locT
  celN := i.celN
  locC := i.locC
  celC := i.celC
  t1 := i.t1
  t2 := i.t2
  lt := fun a ha => by show a < h'.objs.size; rw [hs.1]; exact i.lt a ha
  low := i.low
  fz := fun p hp => sat_mono (hide_same (i.celX n c hl) hs) (i.fz p hp)
  ow := fun p hp => let ⟨⟨o, a, q⟩, b, e, e', d⟩ := i.ow p hp; ⟨⟨o, (hs.2 _ (Ne.symm (d n c hl))).trans a, q⟩, b, e, e', d⟩
  owD := i.owD

noncomputable def canStore (t : Bool) (env : Env) (n : Str) : Bool := match env.kindOf n with
  | some .local => env.frame.isSome && (env.func.isSome || t)
  | some .cell => env.func.isSome && (env.cells.lookup n).isSome
  | _ => false
theorem store_var (i : In w env X F O s0 ρ s) {n : Str} {d : D} {v : Value} {Q : Unit → Shared → Prop} (hc : canStore w.t env n = true) (hv : sat d v (hideAll s.heap X))
    (h : ∀ s', In w env X F O s0 ((n, d) :: ρ) s' → Q () s') : wpAny (model prog w.w) A (storeName env n v) Q E s := by
  have hp : (env.scope.kind == .class || (env.scope.kind == .module && env.locals != env.globals)) = false := by rw [i.kind]; rfl
  unfold canStore at hc
  split at hc
  · rename_i hk
    obtain ⟨m, hm⟩ := i.ns
    obtain ⟨hc1, hc2⟩ := Bool.and_eq_true_iff.mp hc
    exact wpAny_storeName_local hk hm.1 (fun h' hn hs => h _ (i.local_ hc1 hc2 hk hv hm hn hs)) hp
  · rename_i hk
    obtain ⟨hf, hc⟩ := Bool.and_eq_true_iff.mp hc
    obtain ⟨c, hl⟩ := Option.isSome_iff_exists.mp hc
    obtain ⟨v0, hv0⟩ := i.isc n c hl
    exact wpAny_storeName_cell i.kind hk hl hv0 fun h' hn hs => h _ (i.cell_ hf (t := s.toks) hk hv hl hn hs)
  · cases hc

/-- a name of the frame -/
theorem load_var (i : In w env X F O s0 ρ s) {n : Str} {d : D} {Q : Value → Shared → Prop} (hr : ρ.lookup n = some d) (hk : env.kindOf n = some .local ∨ env.kindOf n = some .cell ∨ env.kindOf n = some .free)
    (hcd : (n == ("__classdict__" : Str)) = false) (h : ∀ v, sat d v (hideAll s.heap X) → Q v s) : wpAny (model prog w.w) A (loadName env n) Q E s := by
  rcases hk with hk | hk | hk
  · obtain ⟨m, hm, hx⟩ := i.ns
    obtain ⟨v, a, b⟩ := hx n d hr hk
    exact wpAny_loadName_local i.kind hk hm a (h v b)
  · obtain ⟨c, v, a, b, x⟩ := i.cl n d hr (.inl hk)
    exact wpAny_loadName_cell i.kind hk a b (h v x)
  · obtain ⟨c, v, a, b, x⟩ := i.cl n d hr (.inr hk)
    exact wpAny_loadName_free i.kind hk a b (h v x) hcd
end
end Mine

-- L4
namespace Mine

structure Cx where
  w : Wo
  prog : Program
  A : Around
  env : Env
  X : List Addr
  s0 : Shared
  F : List (D × Value) := []
  O : List (Addr × (Obj → Prop)) := []
noncomputable abbrev Cx.I (C : Cx) (ρ : List (Str × D)) (s : Shared) : Prop := In C.w C.env C.X C.F C.O C.s0 ρ s
noncomputable abbrev Cx.M (C : Cx) : Model := model C.prog C.w.w
noncomputable abbrev Cx.hid (C : Cx) (s : Shared) : Heap := hideAll s.heap C.X
/-- what an expression leaves -/
structure Po (C : Cx) (ρ : List (Str × D)) (d : D) (s : Shared) (v : Value) (s' : Shared) : Prop where
  v : sat d v (C.hid s')
  i : C.I ρ s'
  m : Mv C.w s s'
noncomputable def Ev (C : Cx) (ρ : List (Str × D)) (e : Expr) (d : D) : Prop := ∀ s, C.I ρ s → wpAny C.M C.A (eval e C.env) (Po C ρ d s) NoE s

theorem wp_mono {α : Type} {M : Model} {A : Around} {t : Sem α} {Q Q' : α → Shared → Prop} {E : Value → Shared → Prop} {s : Shared} (h : wpAny M A t Q E s) (k : ∀ a s', Q a s' → Q' a s') : wpAny M A t Q' E s := wpAny_mono h k fun _ _ e => e

section
variable {C : Cx} {ρ : List (Str × D)} {s : Shared}
theorem Po.le {d : D} {v : Value} {s' : Shared} (x : Po C ρ d s v s') {d' : D} {v' : Value} (h : sat d' v' (C.hid s)) : sat d' v' (C.hid s') := sat_mono (hide_le x.i.t1 x.i.t2 x.m.kp) h
theorem Po.tok (i : C.I ρ s) {d : D} {v : Value} (t : Nat) (h : sat d v (C.hid s)) : Po C ρ d s v { s with toks := t } := ⟨h, i.tok t, .tok s t⟩
theorem Po.now (i : C.I ρ s) {d : D} {v : Value} (h : sat d v (C.hid s)) : Po C ρ d s v s := ⟨h, i, .refl s⟩
theorem sat_int {i : Int} {t : Tok} {h : Heap} : sat (.int i) (.int i t) h := by unfold sat; exact ⟨t, rfl⟩
theorem sat_bool {b : Bool} {h : Heap} : sat (.bool b) (.bool b) h := by unfold sat; rfl
theorem sat_none {h : Heap} : sat .none .none h := by unfold sat; rfl
theorem sat_val {v : Value} {h : Heap} : sat (.val v) v h := by unfold sat; rfl
theorem sat_bytes {b : List UInt8} {t : Tok} {h : Heap} : sat (.bytes b) (.bytes b.toArray t) h := by unfold sat; exact ⟨t, rfl⟩
theorem of_int {i : Int} {v : Value} {h : Heap} (x : sat (.int i) v h) : ∃ t, v = .int i t := by unfold sat at x; exact x
theorem of_bool {i : Bool} {v : Value} {h : Heap} (x : sat (.bool i) v h) : v = .bool i := by unfold sat at x; exact x
theorem of_val {i : Value} {v : Value} {h : Heap} (x : sat (.val i) v h) : v = i := by unfold sat at x; exact x
theorem of_bytes {i : List UInt8} {v : Value} {h : Heap} (x : sat (.bytes i) v h) : ∃ t, v = .bytes i.toArray t := by unfold sat at x; exact x

theorem Ev.int {i : Int} {k p} : Ev C ρ (.Constant (.int i) k p) (.int i) := fun s x => wpAny_Constant_int (Po.tok x _ sat_int)
theorem Ev.true_ {b : Bool} {k p} : Ev C ρ (.Constant (.bool b) k p) (.bool b) := fun s x => fun _ _ _ => Po.now x sat_bool

noncomputable def isVar (env : Env) (n : Str) : Bool := match env.kindOf n with
  | some .local | some .cell | some .free => !(n == ("__classdict__" : Str)) && !(n == ("__debug__" : Str))
  | _ => false
theorem Ev.var {n : Str} {p : Pos} {d : D} (hr : ρ.lookup n = some d) (hv : isVar C.env n = true) : Ev C ρ (.Name n p) d := fun s x => by
  have key : (C.env.kindOf n = some .local ∨ C.env.kindOf n = some .cell ∨ C.env.kindOf n = some .free) ∧ (n == ("__classdict__" : Str)) = false ∧ (n == ("__debug__" : Str)) = false := by
    unfold isVar at hv
    split at hv <;> first | cases hv | (rename_i hk; simp only [Bool.and_eq_true, Bool.not_eq_true'] at hv; exact ⟨by simp [hk], hv⟩)
  exact wpAny_Name (load_var x hr key.1 key.2.1 fun v hv => Po.now x hv) key.2.2

noncomputable def gEs (w : Wo) : Array DictEntry := match (K0 w.w).lookup 3 with
  | some ⟨_, _, .dict es _, _⟩ => es
  | _ => #[]
theorem g_obj (w : Wo) : (K0 w.w).lookup 3 = some { cls := .type "dict", data := .dict (gEs w) 36 } := by kernel_rfl
theorem g_keys (w : Wo) : StrKeys (gEs w) := by
  have h : ((gEs w).all fun e => match e.key with | .str _ _ => true | _ => false) = true := by kernel_rfl
  intro e he
  have := Array.all_eq_true'.mp h e he
  split at this
  · rename_i n t q; exact ⟨n, t, q⟩
  · cases this
theorem glob_ns {w : Wo} {h : Heap} (B : Base w h) : h.Ns 3 (nsFind (gEs w)) := ⟨_, gEs w, 36, B.inK _ _ (g_obj w), rfl, g_keys w, fun _ => rfl⟩

theorem load_glob {E} (i : C.I ρ s) {n : Str} {v : Value} {Q : Value → Shared → Prop} (hk : C.env.kindOf n = some .globalImplicit) (hv : nsFind (gEs C.w) n = some v) (h : Q v s) : wpAny C.M C.A (loadName C.env n) Q E s := by
  unfold loadName
  simp only [Env.blockKind, i.kind, hk, ScopeKind.isAnnotationScope, Bool.false_and, Bool.false_eq_true, if_false]
  unfold loadGlobal
  rw [i.glob]
  refine wpAny_bind (wpAny_nsGet (glob_ns i.base) ?_)
  rw [hv]
  exact wpAny_pure h
theorem load_blt {E} (i : C.I ρ s) {n : Str} {v : Value} {Q : Value → Shared → Prop} (hk : C.env.kindOf n = some .globalImplicit) (hv : nsFind (gEs C.w) n = none) (hb : bootBuiltins n = some v) (hn : n ≠ "__name__") (h : Q v s) : wpAny C.M C.A (loadName C.env n) Q E s := by
  unfold loadName
  simp only [Env.blockKind, i.kind, hk, ScopeKind.isAnnotationScope, Bool.false_and, Bool.false_eq_true, if_false]
  unfold loadGlobal
  rw [i.glob, i.bi]
  refine wpAny_bind (wpAny_nsGet (glob_ns i.base) ?_)
  rw [hv]
  obtain ⟨mb, hmb, hx⟩ := i.base.blt
  refine wpAny_bind (wpAny_nsGet hmb ?_)
  rw [hx n hn, hb]
  exact wpAny_pure h
theorem Ev.glob {n : Str} {p : Pos} {d : D} {v : Value} (hk : C.env.kindOf n = some .globalImplicit) (hv : nsFind (gEs C.w) n = some v) (hd : ∀ h, sat d v h) (hn : (n == ("__debug__" : Str)) = false := by rfl) : Ev C ρ (.Name n p) d := fun s x =>
  wpAny_Name (load_glob x hk hv (Po.now x (hd _))) hn
theorem Ev.globV {n : Str} {p : Pos} {v : Value} (hk : C.env.kindOf n = some .globalImplicit) (hv : nsFind (gEs C.w) n = some v) (hn : (n == ("__debug__" : Str)) = false := by rfl) : Ev C ρ (.Name n p) (.val v) := .glob hk hv (fun _ => sat_val) hn
theorem Ev.blt {n : Str} {p : Pos} {v : Value} (hk : C.env.kindOf n = some .globalImplicit) (hv : nsFind (gEs C.w) n = none) (hb : bootBuiltins n = some v) (hn : n ≠ "__name__") (hd : (n == ("__debug__" : Str)) = false := by rfl) : Ev C ρ (.Name n p) (.val v) := fun s x =>
  wpAny_Name (load_blt x hk hv hb hn (Po.now x sat_val)) hd

theorem Ev.bin {l r : Expr} {op : Operator} {p : Pos} {a b d : D} (hl : Ev C ρ l a) (hr : Ev C ρ r b)
    (ho : ∀ s v u, C.I ρ s → sat a v (C.hid s) → sat b u (C.hid s) → wpAny C.M C.A (binaryOp op v u) (Po C ρ d s) NoE s) : Ev C ρ (.BinOp l op r p) d := fun s x =>
  wpAny_BinOp (wp_mono (hl s x) fun v s1 p1 => wp_mono (hr s1 p1.i) fun u s2 p2 => wp_mono (ho s2 v u p2.i (p2.le p1.v) p2.v) fun z s3 p3 => ⟨p3.v, p3.i, (p1.m.trans p2.m).trans p3.m⟩)

theorem Ev.bin_int {l r : Expr} {op : Operator} {p : Pos} {a b : Int} {d : D} (hl : Ev C ρ l (.int a)) (hr : Ev C ρ r (.int b))
    (ho : ∀ s t u, C.I ρ s → wpAny C.M C.A (binaryOp op (.int a t) (.int b u)) (Po C ρ d s) NoE s) : Ev C ρ (.BinOp l op r p) d :=
  hl.bin hr fun s v u x h1 h2 => by
    obtain ⟨t, rfl⟩ := of_int h1
    obtain ⟨t', rfl⟩ := of_int h2
    exact ho s t t' x
theorem Ev.add {l r : Expr} {p : Pos} {a b : Int} (hl : Ev C ρ l (.int a)) (hr : Ev C ρ r (.int b)) : Ev C ρ (.BinOp l .Add r p) (.int (a + b)) :=
  hl.bin_int hr fun s t u x => add_int (Po.tok x _ sat_int)
theorem Ev.sub {l r : Expr} {p : Pos} {a b : Int} (hl : Ev C ρ l (.int a)) (hr : Ev C ρ r (.int b)) : Ev C ρ (.BinOp l .Sub r p) (.int (a - b)) :=
  hl.bin_int hr fun s t u x => sub_int (Po.tok x _ sat_int)
theorem Ev.mul {l r : Expr} {p : Pos} {a b : Int} (hl : Ev C ρ l (.int a)) (hr : Ev C ρ r (.int b)) (hm : IntMulOk a b) : Ev C ρ (.BinOp l .Mult r p) (.int (a * b)) :=
  hl.bin_int hr fun s t u x => mul_int (Po.tok x _ sat_int) hm
theorem Ev.xor {l r : Expr} {p : Pos} {a b : Int} (hl : Ev C ρ l (.int a)) (hr : Ev C ρ r (.int b)) : Ev C ρ (.BinOp l .BitXor r p) (.int (Builtin.bitXor a b)) :=
  hl.bin_int hr fun s t u x => xor_int (Po.tok x _ sat_int)
theorem Ev.and {l r : Expr} {p : Pos} {a b : Int} (hl : Ev C ρ l (.int a)) (hr : Ev C ρ r (.int b)) : Ev C ρ (.BinOp l .BitAnd r p) (.int (Builtin.bitAnd a b)) :=
  hl.bin_int hr fun s t u x => and_int (Po.tok x _ sat_int)
theorem Ev.shr {l r : Expr} {p : Pos} {a b : Int} (hl : Ev C ρ l (.int a)) (hr : Ev C ρ r (.int b)) (hb : 0 ≤ b) : Ev C ρ (.BinOp l .RShift r p) (.int (a.fdiv (2 ^ b.toNat))) :=
  hl.bin_int hr fun s t u x => rshift_int hb (Po.tok x _ sat_int)
theorem Ev.shl {l r : Expr} {p : Pos} {a b : Int} (hl : Ev C ρ l (.int a)) (hr : Ev C ρ r (.int b)) (hb : 0 ≤ b) (hb2 : b ≤ 1000000) (ha : a.natAbs < 2 ^ 64) : Ev C ρ (.BinOp l .LShift r p) (.int (a * 2 ^ b.toNat)) :=
  hl.bin_int hr fun s t u x => lshift_int_small hb hb2 ha (Po.tok x _ sat_int)
theorem Ev.pow {l r : Expr} {p : Pos} {a b : Int} (hl : Ev C ρ l (.int a)) (hr : Ev C ρ r (.int b)) (hb : 0 ≤ b) (hz : (Builtin.Int.intBits a : Int) * b ≤ 2 ^ 27) : Ev C ρ (.BinOp l .Pow r p) (.int (a ^ b.toNat)) :=
  hl.bin_int hr fun s t u x => pow_int hb hz (Po.tok x _ sat_int)
end
end Mine

-- L5
namespace Mine

noncomputable def Callable (M : Model) (f : Value) (h : Heap) : Prop := ∃ k, (k = Keeper.frame ∨ k = Keeper.machine ∨ k = Keeper.boundFrame) ∧ Looks M h (keeperOf f) k
theorem Callable.builtin {M : Model} {id : String} {h : Heap} : Callable M (.builtin id) h := ⟨.machine, .inr (.inl rfl), Looks.of_pure rfl⟩
theorem Callable.type {M : Model} {id : String} {h : Heap} : Callable M (.type id) h := ⟨.machine, .inr (.inl rfl), Looks.of_pure rfl⟩
theorem Callable.fn {M : Model} {a : Addr} {c : Value} {d : Option Addr} {fd : FuncData} {sl : Array (Option Value)} {h : Heap} (e : h.get? a = some ⟨c, d, .func fd, sl⟩) : Callable M (.ref a) h :=
  ⟨.frame, .inl rfl, (Looks.ld (part := none) e).andThen .now⟩

structure Rdy (w : Wo) (X : List Addr) (s : Shared) : Prop where
  base : Base w s.heap
  tb : Tb s.heap
  t1 : 156 ∈ X
  t2 : 224 ∈ X
  lt : ∀ a ∈ X, a < s.heap.objs.size
  low : 233 ≤ s.heap.objs.size
structure Pf (w : Wo) (X : List Addr) (d : D) (s : Shared) (v : Value) (s' : Shared) : Prop where
  v : sat d v (hideAll s'.heap X)
  m : Mv w s s'
  tb : Tb s'.heap
noncomputable def Fn (w : Wo) (prog : Program) (k : Nat) (f : Value) (ds : List D) (d : D) : Prop :=
  ∀ (A : Around) (X : List Addr) (s : Shared) (vs : List Value), Room A k → Rdy w X s → sats ds vs (hideAll s.heap X) → wpAny (model prog w.w) A (call f vs) (Pf w X d s) NoE s

section
variable {C : Cx} {ρ : List (Str × D)} {s : Shared}
theorem In.rdy {w : Wo} {env : Env} {X : List Addr} {F : List (D × Value)} {O : List (Addr × (Obj → Prop))} {s0 s : Shared} (i : In w env X F O s0 ρ s) : Rdy w X s := ⟨i.base, i.tb, i.t1, i.t2, i.lt, Nat.le_trans i.low i.mv.kp.size⟩

/-- the arguments of a call, the items of a display -/
structure Pos' (C : Cx) (ρ : List (Str × D)) (ds : List D) (s : Shared) (vs : List Value) (s' : Shared) : Prop where
  v : sats ds vs (C.hid s')
  i : C.I ρ s'
  m : Mv C.w s s'
noncomputable def Evs (C : Cx) (ρ : List (Str × D)) (es : List Expr) (ds : List D) : Prop :=
  (∀ p, (backTo p (starEach es C.env)).any (·.1) = false) ∧ ∀ p s, C.I ρ s → wpAny C.M C.A (spliced (backTo p (starEach es C.env))) (Pos' C ρ ds s) NoE s
theorem Evs.nil : Evs C ρ [] [] := ⟨fun _ => rfl, fun p s x => spliced_nil ⟨sats_nil, x, .refl s⟩⟩
theorem Evs.cons {e : Expr} {es : List Expr} {d : D} {ds : List D} (h : Ev C ρ e d) (hs : Evs C ρ es ds) (he : starEach (e :: es) C.env = (false, eval e C.env) :: starEach es C.env := by rfl) : Evs C ρ (e :: es) (d :: ds) := by
  refine ⟨fun p => ?_, fun p s x => ?_⟩
  · rw [he]
    show (false || (backTo p (starEach es C.env)).any (·.1)) = false
    rw [hs.1 p]; rfl
  · rw [he]
    refine spliced_cons (x := eval e C.env) (wp_mono (h s x) fun v s1 p1 => wp_mono (hs.2 p s1 p1.i) fun vs s2 p2 => ?_)
    exact ⟨sats_cons (sat_mono (hide_le p2.i.t1 p2.i.t2 p2.m.kp) p1.v) p2.v, p2.i, p1.m.trans p2.m⟩

theorem evalArgs_of {M : Model} {A : Around} {E} {f : Value} {args : List (Bool × Sem Value)} {Q : Args → Shared → Prop} (ha : args.any (·.1) = false)
    (h : wpAny M A (spliced args) (fun vs s' => Q ⟨vs, []⟩ s') E s) : wpAny M A (evalArgs f true args []) Q E s := by
  match args, ha with
  | [], _ =>
    unfold evalArgs
    refine wpAny_bind (wp_mono h fun vs s' h' => wpAny_bind (wpAny_pure ?_))
    refine wpAny_holding ?_
    exact wpAny_bind (wpAny_pure (wpAny_bind (wpAny_pure (wpAny_pure h'))))
  | (false, x) :: r, _ => exact evalArgs_plain h
  | (true, x) :: r, ha => cases ha

theorem call_args {f : Value} {first : List Value} {es : List Expr} {ds : List D} {p : Pos} {Q : Value → Shared → Prop} (hs : Evs C ρ es ds) (i : C.I ρ s)
    (h : ∀ vs s', Pos' C ρ ds s vs s' → Callable C.M f s'.heap ∧ wpAny C.M C.A (call f (first ++ vs)) Q NoE s') :
    wpAny C.M C.A (callWith p f first (backTo p (starEach es C.env)) []) Q NoE s :=
  callWith_of (P := fun h => Callable C.M f h) (by rw [hs.1 p]; rfl) (fun _ x => x) (evalArgs_of (hs.1 p) (wp_mono (hs.2 p s i) fun vs s' x => h vs s' x))

theorem Ev.call {n : Str} {np p : Pos} {es : List Expr} {ds : List D} {f : Value} {d : D} (hf : Ev C ρ (.Name n np) (.val f)) (hs : Evs C ρ es ds)
    (hc : ∀ s vs, C.I ρ s → sats ds vs (C.hid s) → Callable C.M f s.heap ∧ wpAny C.M C.A (PySem.call f vs) (Po C ρ d s) NoE s) : Ev C ρ (.Call (.Name n np) es [] p) d := fun s x =>
  wpAny_Call_ofName (wp_mono (hf s x) fun v s1 p1 => by
    have := of_val p1.v
    subst this
    refine call_args (first := []) hs p1.i fun vs s2 p2 => ?_
    obtain ⟨a, b⟩ := hc s2 vs p2.i p2.v
    exact ⟨a, wp_mono b fun z s3 p3 => ⟨p3.v, p3.i, (p1.m.trans p2.m).trans p3.m⟩⟩)
theorem Ev.call_fn {n : Str} {np p : Pos} {es : List Expr} {ds : List D} {f : Value} {d : D} {k : Nat} (hf : Ev C ρ (.Name n np) (.val f)) (hs : Evs C ρ es ds) (hF : Fn C.w C.prog k f ds d) (hr : Room C.A k)
    (hc : ∀ s, C.I ρ s → Callable C.M f s.heap) : Ev C ρ (.Call (.Name n np) es [] p) d :=
  hf.call hs fun s vs x hv => ⟨hc s x, wp_mono (hF C.A C.X s vs hr x.rdy hv) fun v s' q => ⟨q.v, x.step q.m q.tb, q.m⟩⟩
end
end Mine

-- L6
namespace Mine

noncomputable def rho : List Str → List D → List (Str × D) → List (Str × D)
  | n :: ns, d :: ds, acc => rho ns ds ((n, d) :: acc)
  | _, _, acc => acc

theorem rho_L {kindOf : Str → Option NameKind} {h : Heap} : ∀ (ns : List Str) (ds : List D) (vs : List Value) (m : Str → Option Value) (acc : List (Str × D)), sats ds vs h → ns.length = ds.length →
    (∀ n d, acc.lookup n = some d → kindOf n = some .local → ∃ v, m n = some v ∧ sat d v h) →
    ∀ n d, (rho ns ds acc).lookup n = some d → kindOf n = some .local → ∃ v, bindL kindOf (ns.zip vs) m n = some v ∧ sat d v h
  | [], [], vs, m, acc, x, _, H, n, d, e, k => by
    unfold sats at x; subst x; exact H n d e k
  | n0 :: ns, d0 :: ds, vs, m, acc, x, hl, H, n, d, e, k => by
    unfold sats at x
    obtain ⟨v, r, rfl, hv, hr⟩ := x
    refine rho_L ns ds r _ ((n0, d0) :: acc) hr (by simpa using hl) (fun y d' e' k' => ?_) n d e k
    rcases lookup_cons_of e' with ⟨rfl, rfl⟩ | ⟨hy, e'⟩
    · exact ⟨v, by rw [if_pos k']; exact if_pos rfl, hv⟩
    · obtain ⟨u, a, b⟩ := H y d' e' k'
      refine ⟨u, ?_, b⟩
      split
      · show (if y = n0 then some v else m y) = some u
        rw [if_neg hy]; exact a
      · exact a
  | [], _ :: _, _, _, _, _, hl, _, _, _, _, _ => by cases hl
  | _ :: _, [], _, _, _, _, hl, _, _, _, _, _ => by cases hl
theorem rho_C {kindOf : Str → Option NameKind} {h : Heap} : ∀ (ns : List Str) (ds : List D) (vs : List Value) (m : Str → Option Value) (acc : List (Str × D)), sats ds vs h → ns.length = ds.length →
    (∀ n d, acc.lookup n = some d → kindOf n ≠ some .local → ∃ v, m n = some v ∧ sat d v h) →
    ∀ n d, (rho ns ds acc).lookup n = some d → kindOf n ≠ some .local → ∃ v, bindC kindOf (ns.zip vs) m n = some v ∧ sat d v h
  | [], [], vs, m, acc, x, _, H, n, d, e, k => by
    unfold sats at x; subst x; exact H n d e k
  | n0 :: ns, d0 :: ds, vs, m, acc, x, hl, H, n, d, e, k => by
    unfold sats at x
    obtain ⟨v, r, rfl, hv, hr⟩ := x
    refine rho_C ns ds r _ ((n0, d0) :: acc) hr (by simpa using hl) (fun y d' e' k' => ?_) n d e k
    rcases lookup_cons_of e' with ⟨rfl, rfl⟩ | ⟨hy, e'⟩
    · exact ⟨v, by rw [if_neg k']; exact if_pos rfl, hv⟩
    · obtain ⟨u, a, b⟩ := H y d' e' k'
      refine ⟨u, ?_, b⟩
      split
      · exact a
      · show (if y = n0 then some v else m y) = some u
        rw [if_neg hy]; exact a
  | [], _ :: _, _, _, _, _, hl, _, _, _, _, _ => by cases hl
  | _ :: _, [], _, _, _, _, hl, _, _, _, _, _ => by cases hl

theorem lookup_mem {α : Type} {n : Str} {c : α} : ∀ {l : List (Str × α)}, l.lookup n = some c → (n, c) ∈ l
  | (y, d) :: l, e => by
    rw [List.lookup_cons] at e
    by_cases h : n = y
    · subst h; simp only [beq_self_eq_true] at e; cases e; exact .head _
    · have : (n == y) = false := by simpa using h
      rw [this] at e
      exact .tail _ (lookup_mem e)
theorem pw_inj {l : List (Str × Addr)} (hp : l.Pairwise fun x y => x.2 ≠ y.2) {x y : Str × Addr} (hx : x ∈ l) (hy : y ∈ l) (e : x.2 = y.2) : x = y := by
  induction hp with
  | nil => cases hx
  | cons h _ ih =>
    rcases List.mem_cons.mp hx with q | hx'
    · rcases List.mem_cons.mp hy with q' | hy'
      · rw [q, q']
      · exact absurd (q ▸ e) (h _ hy')
    · rcases List.mem_cons.mp hy with q' | hy'
      · exact absurd (q' ▸ e.symm) (h _ hx')
      · exact ih hx' hy'

noncomputable abbrev envAt (fd : FuncData) (L a : Addr) : Env := newEnv fd.scope L 3 (cellsFrom (L + 1) fd.scope.names []) (fd.qualname ++ ".<locals>.") (some a) fd.code none 0
noncomputable abbrev frameX (env : Env) (X : List Addr) : List Addr := env.locals :: (env.cells.map (·.2) ++ X)

noncomputable def okKinds (scope : Scope) (ns : List Str) : Bool := ns.all fun n => match scope.names.lookup n with
  | some .local => true
  | some .cell => ((cellsFrom 0 scope.names []).lookup n).isSome
  | _ => false
theorem cellsFrom_shift {x : Str} : ∀ (names : List (Str × NameKind)) (n k : Nat) (a b : List (Str × Addr)), ((a.lookup x).isSome = (b.lookup x).isSome) → ((cellsFrom n names a).lookup x).isSome = ((cellsFrom k names b).lookup x).isSome
  | [], _, _, _, _, h => h
  | (y, kd) :: r, n, k, a, b, h => by
    unfold cellsFrom
    split
    · refine cellsFrom_shift r _ _ _ _ ?_
      rw [List.lookup_cons, List.lookup_cons]
      by_cases q : (x == y) = true
      · simp [q]
      · have : (x == y) = false := by simpa using q
        simp only [this]; exact h
    · exact cellsFrom_shift r _ _ _ _ h

structure FnObj (w : Wo) (f : Addr) (fd : FuncData) (body : List Stmt) : Prop where
  obj : (K0 w.w).lookup f = some { cls := .type "function", data := .func fd }
  body : fd.body = .stmts body
  clo : fd.closure = []
  glob : fd.globals = 3
  bi : fd.builtins = 0
  kind : fd.scope.kind = .function
  co : fd.scope.isCoroutine = false
  gen : fd.scope.isGenerator = false
  code : ∃ c vs t, fd.code = .ref c ∧ (K0 w.w).lookup c = some { cls := .type "code", data := .fields vs } ∧ vs[1]? = some (.str fd.qualname t)

theorem enter {w : Wo} {prog : Program} {A : Around} {X : List Addr} {s : Shared} {f : Addr} {fd : FuncData} {body : List Stmt} {names : List Str} {vs : List Value} {ds : List D} {Q : Value → Shared → Prop} {k : Nat}
    (H : FnObj w f fd body) (R : Room A k) (r : Rdy w X s) (hv : sats ds vs (hideAll s.heap X)) (hb : Looks (model prog w.w) s.heap (bindArgs fd ⟨vs, []⟩) (names.zip vs)) (hlen : names.length = ds.length) (hkd : okKinds fd.scope names = true) (hnd : decide ((cellsFrom 0 fd.scope.names []).map (·.1)).Nodup = true)
    (h : ∀ L s', In w (envAt fd L f) (frameX (envAt fd L f) X) [] [] s (rho names ds []) s' → Mv w s s' →
      wpAny (model prog w.w) (A.deeper (envAt fd L f)) (execs body (envAt fd L f)) (fun fl s'' => Q (match fl with | .ret v => v | _ => .none) s'') NoE s') :
    wpAny (model prog w.w) A (call (.ref f) vs) Q NoE s := by
  obtain ⟨obj, hbody, clo, glob, bi, kind, co, gen, c, cvs, ct, hcode, hcobj, hq⟩ := H
  have hcd : s.heap.CodeRec fd.code fd.qualname := ⟨c, _, cvs, ct, hcode, r.base.inK _ _ hcobj, rfl, hq⟩
  refine wpAny_call ?_
  refine codeAny_call_function (Nat.lt_of_le_of_lt (Nat.le_trans (Nat.le_add_right _ k) R.dep) (by decide)) (r.base.inK _ _ obj) rfl co gen hbody hcd ?_
  refine hb.here ?_
  rw [clo, glob, bi]
  refine wpAny_newFunctionEnv_cells kind ?_ ?_
  · intro x hx
    have hm : x.1 ∈ names := (List.of_mem_zip hx).1
    have := List.all_eq_true.mp hkd x.1 hm
    split at this
    · rename_i e; exact .inl e
    · rename_i e; exact .inr ⟨e, by rw [← this]; exact cellsFrom_shift _ _ _ _ _ rfl⟩
    · cases this
  intro env he s' x
  subst he
  have keep := x.toInCall.keep
  obtain ⟨h₁, tk, hs', _⟩ := x.done
  have hlow : 233 ≤ s.heap.objs.size := r.low
  have hsz : s.heap.objs.size ≤ s'.heap.objs.size := Nat.le_of_lt x.toInCall.ns.lt
  have mv : Mv w s s' := by subst hs'; exact .heap s h₁ tk keep hsz
  have ltc : ∀ n c, (cellsFrom (s.heap.objs.size + 1) fd.scope.names []).lookup n = some c → s.heap.objs.size < c := fun n c e => x.above n c (lookup_mem e)
  have hX : ∀ a ∈ X, a < s.heap.objs.size := r.lt
  have fresh : ∀ b o, (hideAll s.heap X).get? b = some o → (hideAll s'.heap (frameX (envAt fd s.heap.objs.size f) X)).get? b = some o := by
    intro b o e
    have e' := of_hideAll X e
    have hb : b ∉ X := fun hm => by rw [hideAll_none X hm] at e; cases e
    have hlt := Heap.lt_size e'
    refine hideAll_get _ (keep _ _ e') fun hm => ?_
    rcases List.mem_cons.mp hm with q | hm
    · exact Nat.lt_irrefl _ (q ▸ hlt)
    · rcases List.mem_append.mp hm with hm | hm
      · obtain ⟨y, hy, rfl⟩ := List.mem_map.mp hm
        exact Nat.lt_asymm hlt (x.above y.1 y.2 hy)
      · exact hb hm
  refine ⟨(r.base.lim.keeps keep), codeAny_func ?_⟩
  refine wpAny_mono (h s.heap.objs.size s' ?_ mv) (fun _ _ q => q) fun _ _ e => e.elim
  refine { wd0 := r.base, tb := r.tb.le keep, mv := mv, kind := kind, glob := rfl, bi := rfl, ns := ⟨_, x.toInCall.ns, ?_⟩, isc := fun n c e => ⟨_, x.cell n c e⟩, cl := ?_,
           locX := .head _, celX := fun n c e => .tail _ (List.mem_append_left _ (List.mem_map.mpr ⟨(n, c), lookup_mem e, rfl⟩)),
           celT := fun n c e => notTab_of_ge hlow (Nat.le_of_lt (ltc n c e)), locN := fun _ _ => Nat.le_refl _, locT := notTab_of_ge hlow (Nat.le_refl _), celN := fun _ n c _ e => Nat.le_of_lt (ltc n c e),
           locC := fun n c e => Nat.ne_of_gt (ltc n c e), celC := fun n n' c e e' => congrArg Prod.fst (pw_inj x.apart (lookup_mem e) (lookup_mem e') rfl),
           t1 := .tail _ (List.mem_append_right _ r.t1), t2 := .tail _ (List.mem_append_right _ r.t2), lt := ?_, low := hlow, fz := fun _ h => (nomatch h), ow := fun _ h => (nomatch h), owD := .nil }
  · exact rho_L names ds vs _ [] (sats_mono fresh hv) hlen fun n d e => by cases e
  · intro n d e kd
    have hk : (envAt fd s.heap.objs.size f).kindOf n ≠ some .local := by rcases kd with q | q <;> rw [q] <;> exact fun q => by cases q
    obtain ⟨v, a, b⟩ := rho_C (kindOf := (envAt fd s.heap.objs.size f).kindOf) names ds vs (fun _ => none) [] (sats_mono fresh hv) hlen (fun n d e => by cases e) n d e hk
    have hmem : n ∈ names := by
      have key : ∀ (ns : List Str) (ds : List D) (acc : List (Str × D)), (rho ns ds acc).lookup n = some d → n ∈ ns ∨ acc.lookup n = some d := by
        intro ns
        induction ns with
        | nil => intro ds acc e; exact .inr (by cases ds <;> exact e)
        | cons y ns ih =>
          intro ds acc e
          cases ds with
          | nil => exact .inr e
          | cons d0 ds =>
            rcases ih ds _ e with q | q
            · exact .inl (.tail _ q)
            · rcases lookup_cons_of q with ⟨rfl, _⟩ | ⟨_, q⟩
              · exact .inl (.head _)
              · exact .inr q
      rcases key names ds [] e with q | q
      · exact q
      · cases q
    have hc : ∃ c, (cellsFrom (s.heap.objs.size + 1) fd.scope.names []).lookup n = some c := by
      have := List.all_eq_true.mp hkd n hmem
      split at this
      · rename_i q; exact absurd q hk
      · exact Option.isSome_iff_exists.mp (by rw [← this]; exact cellsFrom_shift _ _ _ _ _ rfl)
      · cases this
    obtain ⟨c, hc⟩ := hc
    exact ⟨c, v, hc, a ▸ x.cell n c hc, b⟩
  · intro a ha
    rcases List.mem_cons.mp ha with q | ha
    · exact q ▸ x.toInCall.ns.lt
    · rcases List.mem_append.mp ha with ha | ha
      · obtain ⟨y, hy, rfl⟩ := List.mem_map.mp ha
        obtain ⟨o, ho, _⟩ := x.cell y.1 y.2 (lookup_of_mem_nodup (cellsFrom_names fd.scope.names 0 (s.heap.objs.size + 1) [] [] rfl ▸ of_decide_eq_true hnd) hy)
        exact Heap.lt_size ho
      · exact Nat.lt_of_lt_of_le (hX a ha) hsz
end Mine

-- L7
namespace Mine
theorem wp_any {α : Type} {M : Model} {A : Around} {t : Sem α} {Q Q' : α → Shared → Prop} {E : Value → Shared → Prop} {s : Shared} (h : wpAny M A t Q NoE s) (k : ∀ a s', Q a s' → Q' a s') : wpAny M A t Q' E s := wpAny_mono h k fun _ _ e => e.elim

section
variable {C : Cx} {ρ ρ' : List (Str × D)} {s : Shared}
/-- a test -/
noncomputable def Tr (C : Cx) (ρ : List (Str × D)) (e : Expr) (b : Bool) : Prop := ∀ s, C.I ρ s → wpAny C.M C.A (isTrue e C.env (eval e C.env)) (fun r s' => r = b ∧ C.I ρ s' ∧ Mv C.w s s') NoE s
noncomputable def Ex (C : Cx) (ρ : List (Str × D)) (st : Stmt) (ρ' : List (Str × D)) : Prop := ∀ s, C.I ρ s → wpAny C.M C.A (exec st C.env) (fun fl s' => fl = .next ∧ C.I ρ' s') NoE s
noncomputable def Bk (C : Cx) (ρ : List (Str × D)) (sts : List Stmt) (Q : Flow → Shared → Prop) : Prop := ∀ s, C.I ρ s → wpAny C.M C.A (execs sts C.env) Q NoE s

theorem Bk.nil {Q : Flow → Shared → Prop} (h : ∀ s, C.I ρ s → Q .next s) : Bk C ρ [] Q := fun s x => wpAny_execs_nil (h s x)
theorem Bk.cons {st : Stmt} {r : List Stmt} {Q : Flow → Shared → Prop} (h : Ex C ρ st ρ') (hr : Bk C ρ' r Q) : Bk C ρ (st :: r) Q := fun s x =>
  wpAny_execs_cons (wp_mono (h s x) fun fl s' q => by obtain ⟨rfl, i⟩ := q; exact hr s' i)
theorem Bk.ret {e : Expr} {p : Pos} {r : List Stmt} {d : D} {Q : Flow → Shared → Prop} (h : Ev C ρ e d) (hq : ∀ v s', sat d v (C.hid s') → C.I ρ s' → Q (.ret v) s') : Bk C ρ (.Return (some e) p :: r) Q := fun s x =>
  wpAny_execs_cons (wpAny_Return_some (wp_mono (h s x) fun v s' q => hq v s' q.v q.i))
theorem Ex.assign {n : Str} {np p : Pos} {e : Expr} {d : D} (h : Ev C ρ e d) (hc : canStore C.w.t C.env n = true) (hs : swapsWith e (some (.Name n np)) p.line C.env = pure false := by rfl) :
    Ex C ρ (.Assign [.Name n np] e p) ((n, d) :: ρ) := fun s x =>
  wpAny_Assign_Name (wp_mono (h s x) fun v s1 q => store_var q.i hc q.v fun s' i => ⟨rfl, i⟩) hs
theorem Ex.aug {n : Str} {np p : Pos} {op : Operator} {e : Expr} {a b c : D} (hr : ρ.lookup n = some a) (hv : isVar C.env n = true) (h : Ev C ρ e b) (hc : canStore C.w.t C.env n = true)
    (ho : ∀ s v u, C.I ρ s → sat a v (C.hid s) → sat b u (C.hid s) → wpAny C.M C.A (inplaceOp op v u) (Po C ρ c s) NoE s) : Ex C ρ (.AugAssign (.Name n np) op e p) ((n, c) :: ρ) := fun s x => by
  have key : (C.env.kindOf n = some .local ∨ C.env.kindOf n = some .cell ∨ C.env.kindOf n = some .free) ∧ (n == ("__classdict__" : Str)) = false ∧ (n == ("__debug__" : Str)) = false := by
    unfold isVar at hv
    split at hv <;> first | cases hv | (rename_i hk; simp only [Bool.and_eq_true, Bool.not_eq_true'] at hv; exact ⟨by simp [hk], hv⟩)
  refine wpAny_AugAssign_Name (load_var x hr key.1 key.2.1 fun v hv => wp_mono (h s x) fun u s1 q => ?_)
  exact wp_mono (ho s1 v u q.i (q.le hv) q.v) fun r s2 q2 => store_var q2.i hc q2.v fun s' i => ⟨rfl, i⟩
theorem Ex.aug_xor {n : Str} {np p : Pos} {e : Expr} {a b : Int} (hr : ρ.lookup n = some (.int a)) (hv : isVar C.env n = true) (h : Ev C ρ e (.int b)) (hc : canStore C.w.t C.env n = true) :
    Ex C ρ (.AugAssign (.Name n np) .BitXor e p) ((n, .int (Builtin.bitXor a b)) :: ρ) := .aug hr hv h hc fun s v u x h1 h2 => by
  obtain ⟨t, rfl⟩ := of_int h1
  obtain ⟨t', rfl⟩ := of_int h2
  exact ixor_int (Po.tok x _ sat_int)
theorem Ex.aug_fdiv {n : Str} {np p : Pos} {e : Expr} {a b : Int} (hr : ρ.lookup n = some (.int a)) (hv : isVar C.env n = true) (h : Ev C ρ e (.int b)) (hc : canStore C.w.t C.env n = true) (hb : b ≠ 0) (hz : b.natAbs.log2 < 9000) :
    Ex C ρ (.AugAssign (.Name n np) .FloorDiv e p) ((n, .int (a.fdiv b)) :: ρ) := .aug hr hv h hc fun s v u x h1 h2 => by
  obtain ⟨t, rfl⟩ := of_int h1
  obtain ⟨t', rfl⟩ := of_int h2
  exact ifloordiv_int hb (Po.tok x _ sat_int) (.inl (PyProof.noPylong_of_log2 hz))
theorem Ev.mod {l r : Expr} {p : Pos} {a b : Int} (hl : Ev C ρ l (.int a)) (hr : Ev C ρ r (.int b)) (hb : b ≠ 0) : Ev C ρ (.BinOp l .Mod r p) (.int (a.fmod b)) :=
  hl.bin_int hr fun s t u x => mod_int' hb (Po.tok x _ sat_int)
theorem Ev.fdiv {l r : Expr} {p : Pos} {a b : Int} (hl : Ev C ρ l (.int a)) (hr : Ev C ρ r (.int b)) (hb : b ≠ 0) (hz : b.natAbs.log2 < 9000) : Ev C ρ (.BinOp l .FloorDiv r p) (.int (a.fdiv b)) :=
  hl.bin_int hr fun s t u x => floordiv_int hb (Po.tok x _ sat_int) (.inl (PyProof.noPylong_of_log2 hz))

theorem Tr.cmp {l r : Expr} {op : CmpOp} {p : Pos} {a b : D} {c : Bool} (hl : Ev C ρ l a) (hr : Ev C ρ r b)
    (ho : ∀ s v u, C.I ρ s → sat a v (C.hid s) → sat b u (C.hid s) → wpAny C.M C.A (compareOp op v u) (Po C ρ (.bool c) s) NoE s) (hm : behindInMarks op r = false := by with_unfolding_all rfl) : Tr C ρ (.Compare l [op] [r] p) c := fun s x =>
  wpAny_isTrue_Compare1 (wp_mono (hl s x) fun v s1 p1 => wp_mono (hr s1 p1.i) fun u s2 p2 => wp_mono (ho s2 v u p2.i (p2.le p1.v) p2.v) fun z s3 p3 => by
    rw [of_bool p3.v]
    exact wpAny_truthy_bool ⟨rfl, p3.i, (p1.m.trans p2.m).trans p3.m⟩) hm
theorem Ev.cmp {l r : Expr} {op : CmpOp} {p : Pos} {a b : D} {c : D} (hl : Ev C ρ l a) (hr : Ev C ρ r b)
    (ho : ∀ s v u, C.I ρ s → sat a v (C.hid s) → sat b u (C.hid s) → wpAny C.M C.A (compareOp op v u) (Po C ρ c s) NoE s) (hm : behindInMarks op r = false := by with_unfolding_all rfl) : Ev C ρ (.Compare l [op] [r] p) c := fun s x =>
  wpAny_Compare1 (wp_mono (hl s x) fun v s1 p1 => wp_mono (hr s1 p1.i) fun u s2 p2 => wp_mono (ho s2 v u p2.i (p2.le p1.v) p2.v) fun z s3 p3 => ⟨p3.v, p3.i, (p1.m.trans p2.m).trans p3.m⟩) hm
theorem Tr.cmp_int {l r : Expr} {op : CmpOp} {p : Pos} {a b : Int} {c : Bool} (hl : Ev C ρ l (.int a)) (hr : Ev C ρ r (.int b))
    (ho : ∀ s t u, C.I ρ s → wpAny C.M C.A (compareOp op (.int a t) (.int b u)) (Po C ρ (.bool c) s) NoE s) (hm : behindInMarks op r = false := by with_unfolding_all rfl) : Tr C ρ (.Compare l [op] [r] p) c :=
  .cmp hl hr (fun s v u x h1 h2 => by
    obtain ⟨t, rfl⟩ := of_int h1
    obtain ⟨t', rfl⟩ := of_int h2
    exact ho s t t' x) hm
theorem Tr.lt {l r : Expr} {p : Pos} {a b : Int} (hl : Ev C ρ l (.int a)) (hr : Ev C ρ r (.int b)) (hm : behindInMarks .Lt r = false := by with_unfolding_all rfl) : Tr C ρ (.Compare l [.Lt] [r] p) (decide (a < b)) :=
  .cmp_int hl hr (fun s t u x => lt_int (Po.now x sat_bool)) hm
theorem Tr.gt {l r : Expr} {p : Pos} {a b : Int} (hl : Ev C ρ l (.int a)) (hr : Ev C ρ r (.int b)) (hm : behindInMarks .Gt r = false := by with_unfolding_all rfl) : Tr C ρ (.Compare l [.Gt] [r] p) (decide (a > b)) :=
  .cmp_int hl hr (fun s t u x => gt_int (Po.now x sat_bool)) hm
theorem Tr.eq {l r : Expr} {p : Pos} {a b : Int} (hl : Ev C ρ l (.int a)) (hr : Ev C ρ r (.int b)) (hm : behindInMarks .Eq r = false := by with_unfolding_all rfl) : Tr C ρ (.Compare l [.Eq] [r] p) (a == b) :=
  .cmp_int hl hr (fun s t u x => eq_int (Po.now x sat_bool)) hm
theorem Tr.ne {l r : Expr} {p : Pos} {a b : Int} (hl : Ev C ρ l (.int a)) (hr : Ev C ρ r (.int b)) (hm : behindInMarks .NotEq r = false := by with_unfolding_all rfl) : Tr C ρ (.Compare l [.NotEq] [r] p) (a != b) :=
  .cmp_int hl hr (fun s t u x => ne_int (Po.now x sat_bool)) hm
theorem Tr.value {e : Expr} {d : D} {c : Bool} (h : Ev C ρ e d) (ht : ∀ s v, C.I ρ s → sat d v (C.hid s) → wpAny C.M C.A (truthy v) (fun r s' => r = c ∧ C.I ρ s' ∧ Mv C.w s s') NoE s)
    (he : isTrue e C.env (eval e C.env) = (do let v ← eval e C.env; standAt e.pos; holding [v] (truthy v)) := by rfl) : Tr C ρ e c := fun s x =>
  wpAny_isTrue_value (wp_mono (h s x) fun v s1 q => wp_mono (ht s1 v q.i q.v) fun r s2 y => ⟨y.1, y.2.1, q.m.trans y.2.2⟩) he
theorem Tr.int {e : Expr} {a : Int} (h : Ev C ρ e (.int a)) (he : isTrue e C.env (eval e C.env) = (do let v ← eval e C.env; standAt e.pos; holding [v] (truthy v)) := by rfl) : Tr C ρ e (a != 0) :=
  .value h (fun s v x hv => by obtain ⟨t, rfl⟩ := of_int hv; exact P.truthy_int ⟨rfl, x, .refl s⟩) he
theorem Tr.list {e : Expr} {d : D} {ds : List D} (h : Ev C ρ e d) (hl : Lst d ds) (hz : ds.length < 2 ^ 62) (he : isTrue e C.env (eval e C.env) = (do let v ← eval e C.env; standAt e.pos; holding [v] (truthy v)) := by rfl) : Tr C ρ e (!ds.isEmpty) :=
  .value h (fun s v x hv => by
    obtain ⟨a, vs, rfl, hl, hs⟩ := hl _ _ hv
    have hlen := sats_length hs
    have hl' : s.heap.IsList a vs.toArray := let ⟨o, e, r⟩ := hl; ⟨o, of_hideAll _ e, r⟩
    refine wpAny_truthy_list hl' (by have e : (vs.toArray.size : Int) = (ds.length : Int) := by simp [hlen]
                                     rw [e]; have : (2:Nat)^62 < 2^63 := by decide
                                     omega) ⟨?_, x.tok _, .tok _ _⟩
    cases vs with
    | nil => cases ds with
      | nil => rfl
      | cons => simp at hlen
    | cons => cases ds with
      | nil => simp at hlen
      | cons => rfl) he
theorem Ev.ite {t b o : Expr} {p : Pos} {c : Bool} {d : D} (ht : Tr C ρ t c) (hb : c = true → Ev C ρ b d) (ho : c = false → Ev C ρ o d) : Ev C ρ (.IfExp t b o p) d := fun s x =>
  wpAny_IfExp (wp_mono (ht s x) fun r s1 q => by
    obtain ⟨rfl, i, m⟩ := q
    cases r with
    | true => exact wp_mono (hb rfl s1 i) fun v s2 y => ⟨y.v, y.i, m.trans y.m⟩
    | false => exact wp_mono (ho rfl s1 i) fun v s2 y => ⟨y.v, y.i, m.trans y.m⟩)
theorem Ex.if_false {t : Expr} {b : List Stmt} {p : Pos} (ht : Tr C ρ t false) : Ex C ρ (.If t b [] p) ρ := fun s x =>
  wpAny_If (wp_mono (ht s x) fun r s1 q => by obtain ⟨rfl, i, m⟩ := q; exact wpAny_execs_nil ⟨rfl, i⟩)
theorem Ex.if_ {t : Expr} {b : List Stmt} {p : Pos} {c : Bool} (ht : Tr C ρ t c) (hb : c = true → Bk C ρ b (fun fl s' => fl = .next ∧ C.I ρ' s')) (hn : c = false → ∀ s, C.I ρ s → C.I ρ' s) : Ex C ρ (.If t b [] p) ρ' := fun s x =>
  wpAny_If (wp_mono (ht s x) fun r s1 q => by
    obtain ⟨rfl, i, m⟩ := q
    cases r with
    | true => exact hb rfl s1 i
    | false => exact wpAny_execs_nil ⟨rfl, hn rfl _ i⟩)

/-- a while by an invariant over what the names hold and a measure -/
theorem Ex.while_ {test : Expr} {body : List Stmt} {p : Pos} {Q : Flow → Shared → Prop} (I : Nat → List (Str × D) → Prop)
    (turn : ∀ n ρ, I n ρ → ∃ b, Tr C ρ test b ∧ (b = true → Bk C ρ body (fun fl s' => fl = .next ∧ ∃ m ρ', m < n ∧ I m ρ' ∧ C.I ρ' s')) ∧ (b = false → ∀ s, C.I ρ s → Q .next s))
    (n : Nat) (h : I n ρ) {s : Shared} (x : C.I ρ s) : wpAny C.M C.A (exec (.While test body [] p) C.env) Q NoE s := by
  refine wpAny_While (codeAny_loop rfl (fun n s => ∃ ρ, I n ρ ∧ C.I ρ s) (fun n s hI => ?_) n ⟨ρ, h, x⟩)
  obtain ⟨ρ, hI, x⟩ := hI
  obtain ⟨b, ht, hb, hn⟩ := turn n ρ hI
  show wpAny _ C.A ((whileTurn test body [] C.env).onRaise (fun x => do noteFrame x C.env; theTreesLotGoes x)) _ _ s
  refine wpAny_noted ?_
  unfold whileTurn
  refine wpAny_bind (wp_any (ht s x) fun r s1 q => ?_)
  obtain ⟨rfl, i, m⟩ := q
  cases r with
  | true =>
    simp only [if_true]
    refine wpAny_bind (wp_any (hb rfl s1 i) fun fl s2 q => ?_)
    obtain ⟨rfl, m', ρ', hm, hI', i'⟩ := q
    exact wpAny_pure ⟨rfl, m', hm, ρ', hI', i'⟩
  | false =>
    simp only [Bool.false_eq_true]
    exact wpAny_bind (wpAny_execs_nil (wpAny_pure (hn rfl s1 i)))
end
end Mine

-- L8
namespace Mine
/-- the function at an address of the top -/
noncomputable def fnAt (w : Wo) (f : Addr) : FuncData := match (K0 w.w).lookup f with
  | some ⟨_, _, .func fd, _⟩ => fd
  | _ => default
noncomputable def bodyOf (fd : FuncData) : List Stmt := match fd.body with | .stmts b => b | _ => []
/-- the code of a def, by its address -/
noncomputable def codeVs (w : Wo) (c : Addr) : Array Value := match (K0 w.w).lookup c with
  | some ⟨_, _, .fields vs, _⟩ => vs
  | _ => #[]
noncomputable def namesOf (fd : FuncData) : List Str := fd.params.args.map (·.arg)
noncomputable abbrev fnEnv (w : Wo) (f L : Addr) : Env := envAt (fnAt w f) L f
noncomputable abbrev fnC (w : Wo) (prog : Program) (A : Around) (f L : Addr) (X : List Addr) (s : Shared) : Cx :=
  { w, prog, A := A.deeper (fnEnv w f L), env := fnEnv w f L, X := frameX (fnEnv w f L) X, s0 := s }
noncomputable abbrev FnQ (w : Wo) (X : List Addr) (d : D) (s : Shared) : Flow → Shared → Prop := fun fl s' => Pf w X d s (match fl with | .ret v => v | _ => .none) s'

theorem frame_le (h : Heap) (env : Env) (X : List Addr) : Le (hideAll h (frameX env X)) (hideAll h X) := fun b o e => by
  have hb : b ∉ frameX env X := fun hm => by rw [hideAll_none _ hm] at e; cases e
  exact hideAll_get X (of_hideAll _ e) fun hm => hb (.tail _ (List.mem_append_right _ hm))

def Binds (w : Wo) (prog : Program) (f : Addr) (names : List Str) : Prop := ∀ (vs : List Value) (h : Heap), (K0 w.w).In h → vs.length = names.length → Looks (model prog w.w) h (bindArgs (fnAt w f) ⟨vs, []⟩) (names.zip vs)
theorem Fn.of {w : Wo} {prog : Program} {k : Nat} {f : Addr} {names : List Str} {ds : List D} {d : D} (H : FnObj w f (fnAt w f) (bodyOf (fnAt w f)))
    (hlen : names.length = ds.length) (hb : Binds w prog f names) (hkd : okKinds (fnAt w f).scope names = true)
    (hnd : decide ((cellsFrom 0 (fnAt w f).scope.names []).map (·.1)).Nodup = true)
    (h : ∀ A X s L, Room A (k + 1) → Bk (fnC w prog A f L X s) (rho names ds []) (bodyOf (fnAt w f)) (FnQ w X d s)) : Fn w prog (k + 1) (.ref f) ds d := fun A X s vs R r hv => by
  refine enter H R r hv (hb vs s.heap r.base.inK ((sats_length hv).trans hlen.symm)) hlen hkd hnd fun L s' i m => ?_
  exact h A X s L R s' i

section
variable {w : Wo} {prog : Program} {A : Around} {f L : Addr} {X : List Addr} {s : Shared} {ρ : List (Str × D)}
theorem Room.fn {k : Nat} (R : Room A (k + 1)) : Room (fnC w prog A f L X s).A k := R.deeper _
theorem Pf.of {d : D} {v : Value} {s' : Shared} (hv : sat d v (hideAll s'.heap (frameX (fnEnv w f L) X))) (i : In w (fnEnv w f L) (frameX (fnEnv w f L) X) [] [] s ρ s') : Pf w X d s v s' :=
  ⟨sat_mono (frame_le _ _ _) hv, i.mv, i.tb⟩
theorem Bk.ret_fn {e : Expr} {p : Pos} {r : List Stmt} {d : D} (h : Ev (fnC w prog A f L X s) ρ e d) : Bk (fnC w prog A f L X s) ρ (.Return (some e) p :: r) (FnQ w X d s) :=
  .ret h fun v s' hv i => Pf.of hv i
end
theorem lenS {α : Type} {n : Nat} {l : List α} (h : l.length = n + 1) : ∃ a r, l = a :: r ∧ r.length = n := by
  cases l with
  | nil => cases h
  | cons a r => exact ⟨a, r, rfl, Nat.succ.inj h⟩
section
variable {w : Wo} {prog : Program} {f : Addr} {a b c d e : Str}
theorem bind0 (h : bindArgs (fnAt w f) ⟨[], []⟩ = pure []) : Binds w prog f [] := fun vs _ _ hl => by
  rw [List.length_eq_zero_iff.mp hl]; exact .of_pure h
theorem bind1 (h : ∀ x, bindArgs (fnAt w f) ⟨[x], []⟩ = pure [(a, x)]) : Binds w prog f [a] := fun vs _ _ hl => by
  obtain ⟨x, r1, rfl, h1⟩ := lenS hl
  rw [List.length_eq_zero_iff.mp h1]; exact .of_pure (h x)
theorem bind2 (h : ∀ x y, bindArgs (fnAt w f) ⟨[x, y], []⟩ = pure [(a, x), (b, y)]) : Binds w prog f [a, b] := fun vs _ _ hl => by
  obtain ⟨x, r1, rfl, h1⟩ := lenS hl
  obtain ⟨y, r2, rfl, h2⟩ := lenS h1
  rw [List.length_eq_zero_iff.mp h2]; exact .of_pure (h x y)
theorem bind3L (h : ∀ (hp : Heap), (K0 w.w).In hp → ∀ x y z, Looks (model prog w.w) hp (bindArgs (fnAt w f) ⟨[x, y, z], []⟩) [(a, x), (b, y), (c, z)]) : Binds w prog f [a, b, c] := fun vs hp X hl => by
  obtain ⟨x, r1, rfl, h1⟩ := lenS hl
  obtain ⟨y, r2, rfl, h2⟩ := lenS h1
  obtain ⟨z, r3, rfl, h3⟩ := lenS h2
  rw [List.length_eq_zero_iff.mp h3]; exact h hp X x y z
theorem bind3 (h : ∀ x y z, bindArgs (fnAt w f) ⟨[x, y, z], []⟩ = pure [(a, x), (b, y), (c, z)]) : Binds w prog f [a, b, c] := bind3L fun _ _ x y z => .of_pure (h x y z)
theorem bind4 (h : ∀ x y z u, bindArgs (fnAt w f) ⟨[x, y, z, u], []⟩ = pure [(a, x), (b, y), (c, z), (d, u)]) : Binds w prog f [a, b, c, d] := fun vs _ _ hl => by
  obtain ⟨x, r1, rfl, h1⟩ := lenS hl
  obtain ⟨y, r2, rfl, h2⟩ := lenS h1
  obtain ⟨z, r3, rfl, h3⟩ := lenS h2
  obtain ⟨u, r4, rfl, h4⟩ := lenS h3
  rw [List.length_eq_zero_iff.mp h4]; exact .of_pure (h x y z u)
theorem bind5 (h : ∀ x y z u v, bindArgs (fnAt w f) ⟨[x, y, z, u, v], []⟩ = pure [(a, x), (b, y), (c, z), (d, u), (e, v)]) : Binds w prog f [a, b, c, d, e] := fun vs _ _ hl => by
  obtain ⟨x, r1, rfl, h1⟩ := lenS hl
  obtain ⟨y, r2, rfl, h2⟩ := lenS h1
  obtain ⟨z, r3, rfl, h3⟩ := lenS h2
  obtain ⟨u, r4, rfl, h4⟩ := lenS h3
  obtain ⟨v, r5, rfl, h5⟩ := lenS h4
  rw [List.length_eq_zero_iff.mp h5]; exact .of_pure (h x y z u v)
end
theorem fnCallable {w : Wo} {M : Model} {f : Addr} {fd : FuncData} {body : List Stmt} {h : Heap} (H : FnObj w f fd body) (B : Base w h) : Callable M (.ref f) h := Callable.fn (B.inK _ _ H.obj)
end Mine

-- N1
namespace Mine
theorem nat_or (a b : Nat) : (a ||| b) = (a ^^^ b) + (a &&& b) := by
  induction a using Nat.strongRecOn generalizing b with
  | ind a ih =>
    by_cases h : a = 0
    · subst h; simp
    · have h1 := ih (a / 2) (by omega) (b / 2)
      have e1 := Nat.or_div_two (a := a) (b := b)
      have e2 := Nat.xor_div_two (a := a) (b := b)
      have e3 := Nat.and_div_two (a := a) (b := b)
      have m1 : (a ||| b) % 2 = (a % 2 ||| b % 2) := by have := Nat.or_mod_two_pow (a := a) (b := b) (n := 1); simpa using this
      have m2 : (a ^^^ b) % 2 = (a % 2 ^^^ b % 2) := by have := Nat.xor_mod_two_pow (a := a) (b := b) (n := 1); simpa using this
      have m3 : (a &&& b) % 2 = (a % 2 &&& b % 2) := by have := Nat.and_mod_two_pow (a := a) (b := b) (n := 1); simpa using this
      have key : (a % 2 ||| b % 2) = (a % 2 ^^^ b % 2) + (a % 2 &&& b % 2) := by
        rcases Nat.mod_two_eq_zero_or_one a with p | p <;> rcases Nat.mod_two_eq_zero_or_one b with q | q <;> rw [p, q] <;> rfl
      omega
theorem bitAnd_nat (a b : Nat) : Builtin.bitAnd (a : Int) (b : Int) = ((a &&& b : Nat) : Int) := by
  unfold Builtin.bitAnd
  rw [show decide (0 ≤ (a : Int)) = true from decide_eq_true (Int.natCast_nonneg a), show decide (0 ≤ (b : Int)) = true from decide_eq_true (Int.natCast_nonneg b)]
  rfl
theorem bitNot_nat (a : Nat) : Builtin.bitNot (Builtin.bitNot (a : Int)) = (a : Int) := by unfold Builtin.bitNot; omega
theorem bitOr_nat (a b : Nat) : Builtin.bitOr (a : Int) (b : Int) = ((a ||| b : Nat) : Int) := by
  unfold Builtin.bitOr
  have na : ∀ n : Nat, decide (0 ≤ Builtin.bitNot (n : Int)) = false := fun n => decide_eq_false (by unfold Builtin.bitNot; omega)
  have e : Builtin.bitAnd (Builtin.bitNot (a : Int)) (Builtin.bitNot (b : Int)) = Builtin.bitNot ((((Builtin.bitNot (Builtin.bitNot (a : Int))).toNat ||| (Builtin.bitNot (Builtin.bitNot (b : Int))).toNat : Nat)) : Int) := by
    show (match decide (0 ≤ Builtin.bitNot (a : Int)), decide (0 ≤ Builtin.bitNot (b : Int)) with
      | true, true => _ | true, false => _ | false, true => _ | false, false => _) = _
    rw [na a, na b]
  rw [e, bitNot_nat, bitNot_nat, bitNot_nat]; rfl
theorem bitXor_nat (a b : Nat) : Builtin.bitXor (a : Int) (b : Int) = ((a ^^^ b : Nat) : Int) := by
  unfold Builtin.bitXor
  rw [bitOr_nat, bitAnd_nat, nat_or]; omega

noncomputable abbrev D.nat (n : Nat) : D := .int (n : Int)
section
variable {C : Cx} {ρ : List (Str × D)}
theorem Ev.natLit {n : Nat} {k p} {i : Int} (h : i = (n : Int)) : Ev C ρ (.Constant (.int i) k p) (.nat n) := by subst h; exact .int
theorem Ev.addN {l r : Expr} {p : Pos} {a b : Nat} (hl : Ev C ρ l (.nat a)) (hr : Ev C ρ r (.nat b)) : Ev C ρ (.BinOp l .Add r p) (.nat (a + b)) := by
  have := hl.add (p := p) hr; rwa [← Int.natCast_add] at this
theorem Ev.subN {l r : Expr} {p : Pos} {a b : Nat} (hl : Ev C ρ l (.nat a)) (hr : Ev C ρ r (.nat b)) (h : b ≤ a) : Ev C ρ (.BinOp l .Sub r p) (.nat (a - b)) := by
  have := hl.sub (p := p) hr
  rwa [show (a : Int) - (b : Int) = ((a - b : Nat) : Int) by omega] at this
theorem Ev.mulN {l r : Expr} {p : Pos} {a b : Nat} (hl : Ev C ρ l (.nat a)) (hr : Ev C ρ r (.nat b)) (h : a < 2 ^ 64) : Ev C ρ (.BinOp l .Mult r p) (.nat (a * b)) := by
  have := hl.mul (p := p) hr (.of_left (intBits_le_64 (by have : (2:Int)^64 = 18446744073709551616 := by decide
                                                          omega) (by have : (2:Nat)^64 = 18446744073709551616 := by decide
                                                                     have : (2:Int)^64 = 18446744073709551616 := by decide
                                                                     omega)))
  rwa [← Int.natCast_mul] at this
theorem Ev.xorN {l r : Expr} {p : Pos} {a b : Nat} (hl : Ev C ρ l (.nat a)) (hr : Ev C ρ r (.nat b)) : Ev C ρ (.BinOp l .BitXor r p) (.nat (a ^^^ b)) := by
  have := hl.xor (p := p) hr; rwa [bitXor_nat] at this
theorem Ev.andN {l r : Expr} {p : Pos} {a b : Nat} (hl : Ev C ρ l (.nat a)) (hr : Ev C ρ r (.nat b)) : Ev C ρ (.BinOp l .BitAnd r p) (.nat (a &&& b)) := by
  have := hl.and (p := p) hr; rwa [bitAnd_nat] at this
theorem Ev.shrN {l r : Expr} {p : Pos} {a b : Nat} (hl : Ev C ρ l (.nat a)) (hr : Ev C ρ r (.nat b)) : Ev C ρ (.BinOp l .RShift r p) (.nat (a >>> b)) := by
  have := hl.shr (p := p) hr (Int.natCast_nonneg b)
  have e : ((a : Int)).fdiv (2 ^ ((b : Int)).toNat) = ((a >>> b : Nat) : Int) := by
    rw [Nat.shiftRight_eq_div_pow, Int.toNat_natCast, Int.fdiv_eq_ediv_of_nonneg _ (Int.pow_nonneg (by decide))]
    simp
  rwa [e] at this
theorem Ev.shlN {l r : Expr} {p : Pos} {a b : Nat} (hl : Ev C ρ l (.nat a)) (hr : Ev C ρ r (.nat b)) (hb : b ≤ 1000) (ha : a < 2 ^ 64) : Ev C ρ (.BinOp l .LShift r p) (.nat (a <<< b)) := by
  have := hl.shl (p := p) hr (Int.natCast_nonneg b) (by omega) (by rw [Int.natAbs_natCast]; exact ha)
  have e : ((a : Int)) * (2 ^ ((b : Int)).toNat) = ((a <<< b : Nat) : Int) := by
    rw [Nat.shiftLeft_eq, Int.toNat_natCast]; simp
  rwa [e] at this
theorem Ev.modN {l r : Expr} {p : Pos} {a b : Nat} (hl : Ev C ρ l (.nat a)) (hr : Ev C ρ r (.nat b)) (hb : 0 < b) : Ev C ρ (.BinOp l .Mod r p) (.nat (a % b)) := by
  have := hl.mod (p := p) hr (by omega)
  rwa [Int.fmod_eq_emod_of_nonneg _ (Int.natCast_nonneg b), ← Int.natCast_emod] at this
theorem Ev.divN {l r : Expr} {p : Pos} {a b : Nat} (hl : Ev C ρ l (.nat a)) (hr : Ev C ρ r (.nat b)) (hb : 0 < b) (hz : b < 2 ^ 64) : Ev C ρ (.BinOp l .FloorDiv r p) (.nat (a / b)) := by
  have := hl.fdiv (p := p) hr (by omega) (by rw [Int.natAbs_natCast]; exact Nat.lt_trans ((Nat.log2_lt (by omega)).mpr hz) (by decide))
  rwa [Int.fdiv_eq_ediv_of_nonneg _ (Int.natCast_nonneg b), ← Int.natCast_ediv] at this
theorem Ev.powN {l r : Expr} {p : Pos} {a b : Nat} (hl : Ev C ρ l (.nat a)) (hr : Ev C ρ r (.nat b)) (hz : (Builtin.Int.intBits (a : Int) : Int) * (b : Int) ≤ 2 ^ 27) : Ev C ρ (.BinOp l .Pow r p) (.nat (a ^ b)) := by
  have := hl.pow (p := p) hr (Int.natCast_nonneg b) hz
  rwa [Int.toNat_natCast, show ((a : Int) ^ b) = ((a ^ b : Nat) : Int) by simp] at this
theorem Ex.xorN {n : Str} {np p : Pos} {e : Expr} {a b : Nat} (hr : ρ.lookup n = some (.nat a)) (hv : isVar C.env n = true) (h : Ev C ρ e (.nat b)) (hc : canStore C.w.t C.env n = true) :
    Ex C ρ (.AugAssign (.Name n np) .BitXor e p) ((n, .nat (a ^^^ b)) :: ρ) := by
  have := Ex.aug_xor (np := np) (p := p) hr hv h hc; rwa [bitXor_nat] at this
theorem Ex.divN {n : Str} {np p : Pos} {e : Expr} {a b : Nat} (hr : ρ.lookup n = some (.nat a)) (hv : isVar C.env n = true) (h : Ev C ρ e (.nat b)) (hc : canStore C.w.t C.env n = true) (hb : 0 < b) (hz : b < 2 ^ 64) :
    Ex C ρ (.AugAssign (.Name n np) .FloorDiv e p) ((n, .nat (a / b)) :: ρ) := by
  have := Ex.aug_fdiv (np := np) (p := p) hr hv h hc (by omega) (by rw [Int.natAbs_natCast]; exact Nat.lt_trans ((Nat.log2_lt (by omega)).mpr hz) (by decide))
  rwa [Int.fdiv_eq_ediv_of_nonneg _ (Int.natCast_nonneg b), ← Int.natCast_ediv] at this

noncomputable abbrev Has (ρ : List (Str × D)) (n : Str) (d : D) : Prop := ρ.lookup n = some d
theorem In.sub {w : Wo} {env : Env} {X : List Addr} {F : List (D × Value)} {O : List (Addr × (Obj → Prop))} {s0 s : Shared} {ρ ρ' : List (Str × D)} (i : In w env X F O s0 ρ s) (h : ∀ n d, ρ'.lookup n = some d → ρ.lookup n = some d) : In w env X F O s0 ρ' s :=
  { i with ns := let ⟨m, a, b⟩ := i.ns; ⟨m, a, fun n d e => b n d (h n d e)⟩, cl := fun n d e => i.cl n d (h n d e) }
theorem In.dup {w : Wo} {env : Env} {X : List Addr} {F : List (D × Value)} {O : List (Addr × (Obj → Prop))} {s0 s : Shared} {ρ : List (Str × D)} {n : Str} {d : D} (i : In w env X F O s0 ρ s) (h : Has ρ n d) : In w env X F O s0 ((n, d) :: ρ) s :=
  i.sub fun n' d' e => by
    rcases lookup_cons_of e with ⟨rfl, rfl⟩ | ⟨_, e⟩
    · exact h
    · exact e
theorem lk {n m : Str} {d e : D} (h : (n == m) = false) (x : ρ.lookup n = some d) : List.lookup n ((m, e) :: ρ) = some d := by rw [List.lookup_cons, h]; exact x
theorem lk0 {n : Str} {d : D} : List.lookup n ((n, d) :: ρ) = some d := by rw [List.lookup_cons]; simp
theorem Bk.while_ {test : Expr} {body rest : List Stmt} {p : Pos} {Q : Flow → Shared → Prop} (I : Nat → List (Str × D) → Prop)
    (turn : ∀ n ρ, I n ρ → ∃ b, Tr C ρ test b ∧ (b = true → Bk C ρ body (fun fl s' => fl = .next ∧ ∃ m ρ', m < n ∧ I m ρ' ∧ C.I ρ' s')) ∧ (b = false → Bk C ρ rest Q))
    (n : Nat) (h : I n ρ) : Bk C ρ (.While test body [] p :: rest) Q := fun s x =>
  wpAny_execs_cons (Ex.while_ (Q := fun fl s' => match fl with | .next => wpAny C.M C.A (execs rest C.env) Q NoE s' | f => Q f s') I
    (fun n ρ hI => let ⟨b, ht, hb, hn⟩ := turn n ρ hI; ⟨b, ht, hb, fun e s y => hn e s y⟩) n h x)
end
end Mine

-- F1
namespace Mine
theorem ones_fn (w : Wo) : FnObj w 180 (fnAt w 180) (bodyOf (fnAt w 180)) := ⟨by kernel_rfl, by kernel_rfl, by kernel_rfl, by kernel_rfl, by kernel_rfl, by kernel_rfl, by kernel_rfl, by kernel_rfl, ⟨179, codeVs w 179, 949, by kernel_rfl, by kernel_rfl, by kernel_rfl⟩⟩
theorem number_fn (w : Wo) : FnObj w 187 (fnAt w 187) (bodyOf (fnAt w 187)) := ⟨by kernel_rfl, by kernel_rfl, by kernel_rfl, by kernel_rfl, by kernel_rfl, by kernel_rfl, by kernel_rfl, by kernel_rfl, ⟨186, codeVs w 186, 957, by kernel_rfl, by kernel_rfl, by kernel_rfl⟩⟩
theorem octets_fn (w : Wo) : FnObj w 194 (fnAt w 194) (bodyOf (fnAt w 194)) := ⟨by kernel_rfl, by kernel_rfl, by kernel_rfl, by kernel_rfl, by kernel_rfl, by kernel_rfl, by kernel_rfl, by kernel_rfl, ⟨193, codeVs w 193, 965, by kernel_rfl, by kernel_rfl, by kernel_rfl⟩⟩
theorem times_fn (w : Wo) : FnObj w 201 (fnAt w 201) (bodyOf (fnAt w 201)) := ⟨by kernel_rfl, by kernel_rfl, by kernel_rfl, by kernel_rfl, by kernel_rfl, by kernel_rfl, by kernel_rfl, by kernel_rfl, ⟨200, codeVs w 200, 973, by kernel_rfl, by kernel_rfl, by kernel_rfl⟩⟩

noncomputable def onesN : Nat := 72340172838076673
theorem ones_Fn (w : Wo) (prog : Program) : Fn w prog 1 (.ref 180) [] (.nat onesN) :=
  .of (names := []) (ones_fn w) rfl (bind0 (by kernel_rfl)) (by kernel_rfl) (by kernel_rfl) fun A X s L R =>
    .ret_fn (.fdiv (a := 18446744073709551615) (b := 255) (.sub (a := 18446744073709551616) (b := 1) (.pow (a := 256) (b := 8) .int .int (by decide) (by decide +kernel)) .int) .int (by decide) (by decide +kernel))

/-- the lanes once doubled -/
noncomputable def tops (l : Nat) : Nat := (l >>> 7) &&& onesN
noncomputable def dbl (l : Nat) : Nat := ((l ^^^ (tops l <<< 7)) <<< 1) ^^^ (tops l * 27)
noncomputable def timesG (f l t : Nat) : Nat := if f = 0 then t else timesG (f / 2) (dbl l) (if f % 2 = 0 then t else t ^^^ l)
termination_by f
noncomputable def times (l f : Nat) : Nat := timesG f l 0
theorem timesG_0 (l t : Nat) : timesG 0 l t = t := by rw [timesG]; rfl
theorem timesG_s {f : Nat} (h : f ≠ 0) (l t : Nat) : timesG f l t = timesG (f / 2) (dbl l) (if f % 2 = 0 then t else t ^^^ l) := by rw [timesG, if_neg h]
theorem tops_le (l : Nat) : tops l ≤ onesN := Nat.and_le_right
theorem clear_lt {l : Nat} (h : l < 2 ^ 64) : l ^^^ (tops l <<< 7) < 2 ^ 63 := by
  refine Nat.lt_pow_two_of_testBit _ fun i hi => ?_
  unfold tops
  rw [Nat.testBit_xor, Nat.testBit_shiftLeft, Nat.testBit_and, Nat.testBit_shiftRight]
  have h7 : decide (i ≥ 7) = true := decide_eq_true (by omega)
  rw [h7, show 7 + (i - 7) = i by omega]
  by_cases q : i = 63
  · subst q
    have : onesN.testBit (63 - 7) = true := by decide +kernel
    rw [this]; simp
  · have : l.testBit i = false := Nat.testBit_lt_two_pow (Nat.lt_of_lt_of_le h (Nat.pow_le_pow_right (by decide) (by omega)))
    rw [this]; simp
theorem dbl_lt {l : Nat} (h : l < 2 ^ 64) : dbl l < 2 ^ 64 := by
  refine Nat.xor_lt_two_pow ?_ ?_
  · rw [Nat.shiftLeft_eq]
    have := clear_lt h
    have e : (2 : Nat) ^ 64 = 2 ^ 63 * 2 ^ 1 := by decide
    rw [e]; exact Nat.mul_lt_mul_of_pos_right this (by decide)
  · refine Nat.lt_of_le_of_lt (Nat.mul_le_mul_right _ (tops_le l)) (by decide)

theorem times_Fn (w : Wo) (prog : Program) (l f : Nat) (hl : l < 2 ^ 64) : Fn w prog 2 (.ref 201) [.nat l, .nat f] (.nat (times l f)) :=
  .of (names := ["lanes", "factor"]) (times_fn w) rfl (bind2 (by intros; kernel_rfl)) (by kernel_rfl) (by kernel_rfl) fun A X s L R => by
    refine .cons (.assign (.natLit (n := 0) rfl) (by kernel_rfl)) ?_
    refine .while_ (fun n ρ => ∃ a b, Has ρ "lanes" (.nat a) ∧ Has ρ "factor" (.nat n) ∧ Has ρ "total" (.nat b) ∧ a < 2 ^ 64 ∧ timesG n a b = times l f) (fun n ρ hI => ?_) f
      ⟨l, 0, by kernel_rfl, by kernel_rfl, by kernel_rfl, hl, rfl⟩
    obtain ⟨a, b, h1, h2, h3, h4, h5⟩ := hI
    refine ⟨_, .int (.var h2 (by kernel_rfl)), fun hn => ?_, fun hn => ?_⟩
    · have hn0 : n ≠ 0 := by intro q; subst q; revert hn; decide
      rw [timesG_s hn0] at h5
      refine .cons (ρ' := ("total", .nat (if n % 2 = 0 then b else b ^^^ a)) :: ρ) (.if_ (.int (.modN (b := 2) (.var h2 (by kernel_rfl)) (.natLit rfl) (by decide))) (fun hc => ?_) (fun hc => ?_)) ?_
      · have hc' : ¬ n % 2 = 0 := by intro q; rw [q] at hc; revert hc; decide
        rw [if_neg hc']
        exact .cons (.xorN h3 (by kernel_rfl) (.var h1 (by kernel_rfl)) (by kernel_rfl)) (.nil fun s x => ⟨rfl, x⟩)
      · have hc' : n % 2 = 0 := by
          by_cases q : n % 2 = 0
          · exact q
          · exfalso; revert hc; simp; omega
        rw [if_pos hc']
        exact fun s x => x.dup h3
      · refine .cons (.assign (.andN (.shrN (b := 7) (.var (lk (by kernel_rfl) h1) (by kernel_rfl)) (.natLit rfl)) (.call_fn (.globV (by kernel_rfl) (by kernel_rfl)) .nil (ones_Fn w prog) R.fn fun s x => fnCallable (ones_fn w) x.base)) (by kernel_rfl)) ?_
        refine .cons (.assign (.xorN (.shlN (b := 1) (.xorN (.var (lk (by kernel_rfl) (lk (by kernel_rfl) h1)) (by kernel_rfl)) (.shlN (b := 7) (.var lk0 (by kernel_rfl)) (.natLit rfl) (by decide) (Nat.lt_of_le_of_lt (tops_le a) (by decide)))) (.natLit rfl) (by decide) ?_) (.mulN (b := 27) (.var lk0 (by kernel_rfl)) (.natLit rfl) (Nat.lt_of_le_of_lt (tops_le a) (by decide)))) (by kernel_rfl)) ?_
        · exact Nat.lt_of_lt_of_le (clear_lt h4) (by decide)
        refine .cons (.divN (b := 2) (lk (by kernel_rfl) (lk (by kernel_rfl) (lk (by kernel_rfl) h2))) (by kernel_rfl) (.natLit rfl) (by kernel_rfl) (by decide) (by decide)) ?_
        exact .nil fun s x => ⟨rfl, n / 2, _, by omega, ⟨_, _, lk (by kernel_rfl) lk0, lk0, lk (by kernel_rfl) (lk (by kernel_rfl) (lk (by kernel_rfl) lk0)), dbl_lt h4, h5⟩, x⟩
    · have hn0 : n = 0 := by
        by_cases q : n = 0
        · exact q
        · exfalso; revert hn; simp; omega
      subst hn0
      rw [timesG_0] at h5
      subst h5
      exact .ret_fn (.var h3 (by kernel_rfl))
end Mine

-- S1
namespace Mine
noncomputable abbrev sz (s : Shared) : Nat := s.heap.objs.size
theorem runs_sz {M : Model} {Γ : Ctx} {p : Pos} {t : Sem Fin} {fs : List Frame} {s s' : Shared} {e : End} (h : Runs M Γ p t fs s e s') : sz s ≤ sz s' := by
  induction h <;> (try simp only [sz, Shared.setGen, Heap.size_push, Heap.size_after_update] at *) <;> omega
theorem wakes_sz {M : Model} {Γ : Ctx} {p : Pos} {g : Nat} {r : Resume} {s s' : Shared} {res : GenResult} (h : Wakes M Γ p g r s res s') : sz s ≤ sz s' := by
  unfold Wakes at h
  repeat' split at h
  all_goals first
    | exact h.elim
    | (rw [h.2]; exact Nat.le_refl _)
    | (obtain ⟨e₁, s₁, hr, _, _, rfl⟩ := h
       have := runs_sz hr
       exact this)
theorem wp_sz {α : Type} (M : Model) (Γ : Ctx) (n : Nat) (t : Sem α) : ∀ (Q : α → Pos → Shared → Prop) (E : Value → Pos → Shared → Prop) (p : Pos) (s : Shared), n ≤ sz s → Sem.wp M Γ t Q E p s →
    Sem.wp M Γ t (fun a p' s' => n ≤ sz s' ∧ Q a p' s') E p s := by
  induction t with
  | pure a => intro Q E p s hn h; exact ⟨hn, h⟩
  | rule _ k ih => intro Q E p s hn h; exact ih () Q E p s hn h
  | «at» p' k ih => intro Q E p s hn h; exact ih () Q E p' s hn h
  | load a _ k ih => intro Q E p s hn h; obtain ⟨o, ho, h⟩ := h; exact ⟨o, ho, ih o Q E p s hn h⟩
  | update a _ f k ih => intro Q E p s hn h; exact ⟨h.1, ih () Q E p _ (by show n ≤ (s.heap.update a f).objs.size; rw [Heap.size_after_update]; exact hn) h.2⟩
  | alloc o k ih => intro Q E p s hn h; exact ih _ Q E p _ (by show n ≤ (s.heap.push o).objs.size; rw [Heap.size_push]; exact Nat.le_succ_of_le hn) h
  | point _ k ih | ask k ih | handled own k ih | stack k ih | thread k ih | loadIfAlive a k ih => intro Q E p s hn h; exact ih _ Q E p s hn h
  | fresh k ih | newGen c k ih | os q _ k ih => intro Q E p s hn h; exact ih _ Q E p _ hn h
  | choose src m k ih => intro Q E p s hn h; exact ⟨h.1, ih _ Q E p _ hn h.2⟩
  | call c hd _ _ k ih => intro Q E p s hn h; obtain ⟨r, s', hr, h⟩ := h; exact ⟨r, s', hr, ih r Q E p s' (Nat.le_trans hn (runs_sz hr)) h⟩
  | genState g k ih => intro Q E p s hn h; obtain ⟨st, hs, h⟩ := h; exact ⟨st, hs, ih _ Q E p s hn h⟩
  | resume g r _ k ih => intro Q E p s hn h; obtain ⟨res, s', hw, h⟩ := h; exact ⟨res, s', hw, ih res Q E p s' (Nat.le_trans hn (wakes_sz hw)) h⟩
  | raise | unsupported | finish | register | yield | fork | await => intro Q E p s _ h; exact h
theorem wpAny_sz {α : Type} {M : Model} {A : Around} {t : Sem α} {Q : α → Shared → Prop} {E : Value → Shared → Prop} {s : Shared} (h : wpAny M A t Q E s) : wpAny M A t (fun a s' => sz s ≤ sz s' ∧ Q a s') E s :=
  fun Γ p hΓ => wp_sz M Γ _ t _ _ p s (Nat.le_refl _) (h Γ p hΓ)
end Mine

-- L9
namespace Mine
noncomputable abbrev Own := List (Addr × (Obj → Prop))
section
variable {w : Wo} {env : Env} {X : List Addr} {F : List (D × Value)} {O : Own} {s0 s s' : Shared} {ρ : List (Str × D)} {prog : Program} {A : Around} {E : Value → Shared → Prop}

theorem hide_push {h : Heap} {o : Obj} {X : List Addr} : Le (hideAll h X) (hideAll (h.push o) (h.objs.size :: X)) := fun b x e => by
  have hb : b ∉ X := fun hm => by rw [hideAll_none X hm] at e; cases e
  have e' := of_hideAll X e
  refine hideAll_get _ (Heap.get?_push_of_some o e') fun hm => ?_
  rcases List.mem_cons.mp hm with q | hm
  · exact Nat.lt_irrefl _ (q ▸ Heap.lt_size e')
  · exact hb hm
theorem hide_drop {h : Heap} {a : Addr} {X : List Addr} : Le (hideAll h (a :: X)) (hideAll h X) := fun b x e => by
  have hb : b ∉ a :: X := fun hm => by rw [hideAll_none _ hm] at e; cases e
  exact hideAll_get X (of_hideAll _ e) fun hm => hb (.tail _ hm)

/-- a new object that the frame keeps to itself -/
theorem In.own (i : In w env X F O s0 ρ s) (o : Obj) {P : Obj → Prop} (hP : P o) (hf : o.isFreed = false) : In w env (s.heap.objs.size :: X) F ((s.heap.objs.size, P) :: O) s0 ρ { s with heap := s.heap.push o } :=
  have j := i.push o
  { j with
    ns := let ⟨m, a, b⟩ := i.ns; ⟨m, a.push o, fun n d e k => let ⟨v, x, y⟩ := b n d e k; ⟨v, x, sat_mono hide_push y⟩⟩
    cl := fun n d e k => let ⟨c, v, x, y, z⟩ := i.cl n d e k; ⟨c, v, x, y.keeps (Le.push _ o), sat_mono hide_push z⟩
    locX := .tail _ i.locX
    celX := fun n c e => .tail _ (i.celX n c e)
    t1 := .tail _ i.t1
    t2 := .tail _ i.t2
    lt := fun a ha => by
      rcases List.mem_cons.mp ha with q | ha
      · rw [q]; show s.heap.objs.size < (s.heap.push o).objs.size; rw [Heap.size_push]; exact Nat.lt_succ_self _
      · exact j.lt a ha
    fz := fun p hp => sat_mono hide_push (i.fz p hp)
    ow := fun p hp => by
      rcases List.mem_cons.mp hp with rfl | hp
      · exact ⟨⟨o, Heap.get?_push_size _ hf, hP⟩, Nat.ne_of_gt (i.lt _ i.locX), i.mv.kp.size, .head _, fun n c e => Nat.ne_of_lt (i.lt _ (i.celX n c e))⟩
      · obtain ⟨a, b, c, d, e⟩ := j.ow p hp
        exact ⟨a, b, c, .tail _ d, e⟩
    owD := List.pairwise_cons.mpr ⟨fun p hp (q : s.heap.objs.size = p.1) => Nat.lt_irrefl s.heap.objs.size (by have := i.lt _ (i.ow p hp).2.2.2.1; rw [← q] at this; exact this), i.owD⟩ }
/-- it turns -/
theorem In.turn {O1 O2 : Own} {a : Addr} {P P' : Obj → Prop} {h' : Heap} {t : Nat} {o' : Obj} (i : In w env X F (O1 ++ (a, P) :: O2) s0 ρ s) (hs : Heap.SameBut a s.heap h') (ho : h'.get? a = some o') (hP : P' o') :
    In w env X F (O1 ++ (a, P') :: O2) s0 ρ { s with heap := h', toks := t } := by
  have me : (a, P) ∈ O1 ++ (a, P) :: O2 := List.mem_append_right _ (.head _)
  obtain ⟨_, hL, hN, hX, hC⟩ := i.ow _ me
  have ne : ∀ p ∈ O1 ++ O2, p.1 ≠ a := by
    intro p hp
    have := i.owD
    rw [List.pairwise_append] at this
    rcases List.mem_append.mp hp with hp | hp
    · exact this.2.2 p hp _ (.head _)
    · exact fun q => (List.pairwise_cons.mp this.2.1).1 p hp q.symm
  exact { i with
    tb := i.tb.same i.low hN hs
    mv := i.mv.same hN hs
    ns := let ⟨m, x, y⟩ := i.ns; ⟨m, x.sameBut hs (Ne.symm hL), fun n d e k => let ⟨v, x, y⟩ := y n d e k; ⟨v, x, sat_mono (hide_same hX hs) y⟩⟩
    isc := fun n c e => let ⟨v, x⟩ := i.isc n c e; ⟨v, x.sameBut hs (hC n c e)⟩
    cl := fun n d e k => let ⟨c, v, x, y, z⟩ := i.cl n d e k; ⟨c, v, x, y.sameBut hs (hC n c x), sat_mono (hide_same hX hs) z⟩
    lt := fun b hb => by show b < h'.objs.size; rw [hs.1]; exact i.lt b hb
    fz := fun p hp => sat_mono (hide_same hX hs) (i.fz p hp)
    ow := fun p hp => by
      rcases List.mem_append.mp hp with hp | hp
      · obtain ⟨⟨o, x, y⟩, r⟩ := i.ow p (List.mem_append_left _ hp)
        exact ⟨⟨o, (hs.2 _ (ne p (List.mem_append_left _ hp))).trans x, y⟩, r⟩
      · rcases List.mem_cons.mp hp with rfl | hp
        · exact ⟨⟨o', ho, hP⟩, hL, hN, hX, hC⟩
        · obtain ⟨⟨o, x, y⟩, r⟩ := i.ow p (List.mem_append_right _ (.tail _ hp))
          exact ⟨⟨o, (hs.2 _ (ne p (List.mem_append_right _ hp))).trans x, y⟩, r⟩
    owD := by
      have := i.owD
      rw [List.pairwise_append, List.pairwise_cons] at this ⊢
      exact ⟨this.1, ⟨this.2.1.1, this.2.1.2⟩, fun p hp q hq => by
        rcases List.mem_cons.mp hq with e | hq
        · rw [e]; exact this.2.2 p hp (a, P) (.head _)
        · exact this.2.2 p hp q (.tail _ hq)⟩ }
theorem In.turn0 {a : Addr} {P P' : Obj → Prop} {h' : Heap} {t : Nat} {o' : Obj} (i : In w env X F ((a, P) :: O) s0 ρ s) (hs : Heap.SameBut a s.heap h') (ho : h'.get? a = some o') (hP : P' o') :
    In w env X F ((a, P') :: O) s0 ρ { s with heap := h', toks := t } := In.turn (O1 := []) i hs ho hP
/-- less is known -/
theorem In.lose {OW : Own} {h' : Heap} {t : Nat} (i : In w env X F (OW ++ O) s0 ρ s) (he : ∀ b o, (∀ p ∈ OW, b ≠ p.1) → s.heap.get? b = some o → h'.get? b = some o) (hz : s.heap.objs.size ≤ h'.objs.size) :
    In w env X F O s0 ρ { s with heap := h', toks := t } := by
  have own : ∀ p ∈ OW, _ := fun p hp => i.ow p (List.mem_append_left _ hp)
  have old : ∀ b, b < s0.heap.objs.size → ∀ p ∈ OW, b ≠ p.1 := fun b hb p hp q => by have := (own p hp).2.2.1; rw [← q] at this; exact Nat.lt_irrefl _ (Nat.lt_of_lt_of_le hb this)
  have hid : Le (hideAll s.heap X) (hideAll h' X) := fun b o e => by
    have hb : b ∉ X := fun hm => by rw [hideAll_none X hm] at e; cases e
    exact hideAll_get X (he b o (fun p hp q => hb (q ▸ (own p hp).2.2.2.1)) (of_hideAll X e)) hb
  have tab : ∀ b : Nat, b < 233 → ∀ p ∈ OW, b ≠ p.1 := fun b hb => old b (Nat.lt_of_lt_of_le hb i.low)
  have tk : ∀ {c P : Nat}, c < 233 → P < 233 → TabOk s.heap c P → TabOk h' c P := fun hc hP ⟨ps, ⟨⟨o, vs, a, r⟩, b⟩, x⟩ =>
    ⟨ps, ⟨⟨o, vs, he _ _ (tab _ hc) a, r⟩, he _ _ (tab _ hP) b⟩, by
      obtain ⟨o, vs, file, tf, flags, tg, inF, text, tt, op, a, r1, r2, r3, r4, r5, r6, b, r⟩ := x
      exact ⟨o, vs, file, tf, flags, tg, inF, text, tt, op, he _ _ (tab _ hc) a, r1, r2, r3, r4, r5, r6, he _ _ (tab _ hP) b, r⟩⟩
  exact { i with
    tb := ⟨tk (by decide) (by decide) i.tb.t1, tk (by decide) (by decide) i.tb.t2⟩
    mv := ⟨⟨fun b o n e => he b o (old b (Heap.lt_size e)) (i.mv.kp.all b o n e), Nat.le_trans i.mv.kp.size hz⟩, i.mv.os, i.mv.gens, i.mv.gen0⟩
    ns := let ⟨m, ⟨o, es, ep, x, r⟩, y⟩ := i.ns; ⟨m, ⟨o, es, ep, he _ _ (fun p hp => Ne.symm (own p hp).2.1) x, r⟩, fun n d e k => let ⟨v, x, y⟩ := y n d e k; ⟨v, x, sat_mono hid y⟩⟩
    isc := fun n c e => let ⟨v, o, x, y⟩ := i.isc n c e; ⟨v, o, he _ _ (fun p hp => (own p hp).2.2.2.2 n c e) x, y⟩
    cl := fun n d e k => let ⟨c, v, x, ⟨o, y, y'⟩, z⟩ := i.cl n d e k; ⟨c, v, x, ⟨o, he _ _ (fun p hp => (own p hp).2.2.2.2 n c x) y, y'⟩, sat_mono hid z⟩
    lt := fun b hb => Nat.lt_of_lt_of_le (i.lt b hb) hz
    fz := fun p hp => sat_mono hid (i.fz p hp)
    ow := fun p hp => by
      obtain ⟨⟨o, x, y⟩, r⟩ := i.ow p (List.mem_append_right _ hp)
      have := i.owD
      rw [List.pairwise_append] at this
      exact ⟨⟨o, he _ _ (fun q hq => Ne.symm (this.2.2 q hq p hp)) x, y⟩, r⟩
    owD := by have := i.owD; rw [List.pairwise_append] at this; exact this.2.1 }
theorem In.weak {O' : Own} {F' : List (D × Value)} (i : In w env X F O s0 ρ s) (hO : O'.Sublist O) (hF : ∀ p ∈ F', p ∈ F) : In w env X F' O' s0 ρ s :=
  { i with fz := fun p hp => i.fz p (hF p hp), ow := fun p hp => i.ow p (hO.subset hp), owD := i.owD.sublist hO }
/-- a fact more -/
theorem In.fact {d : D} {v : Value} (i : In w env X F O s0 ρ s) (h : sat d v (hideAll s.heap X)) : In w env X ((d, v) :: F) O s0 ρ s :=
  { i with fz := (fun p hp => by
      rcases List.mem_cons.mp hp with rfl | hp
      · exact h
      · exact i.fz p hp) }
/-- the head of X is no more apart -/
theorem In.unhide {a : Addr} (i : In w env (a :: X) F O s0 ρ s) (ht1 : 156 ∈ X) (ht2 : 224 ∈ X) (hl : env.locals ∈ X) (hc : ∀ n c, env.cells.lookup n = some c → c ∈ X) (hO : ∀ p ∈ O, p.1 ∈ X) : In w env X F O s0 ρ s :=
  { i with
    ns := let ⟨m, x, y⟩ := i.ns; ⟨m, x, fun n d e k => let ⟨v, x, y⟩ := y n d e k; ⟨v, x, sat_mono hide_drop y⟩⟩
    cl := fun n d e k => let ⟨c, v, x, y, z⟩ := i.cl n d e k; ⟨c, v, x, y, sat_mono hide_drop z⟩
    locX := hl, celX := hc, t1 := ht1, t2 := ht2
    lt := fun b hb => i.lt b (.tail _ hb)
    fz := fun p hp => sat_mono hide_drop (i.fz p hp)
    ow := fun p hp => let ⟨a, b, c, d, e⟩ := i.ow p hp; ⟨a, b, c, hO p hp, e⟩ }

/-- what stands behind an iterator: its own objects turn by turn, the facts that it leans on, what it gives -/
structure Iter (w : Wo) (prog : Program) (A : Around) (it : Value) (Fs : List (D × Value)) (Os : Nat → Own) (ds : List D) : Prop where
  next : ∀ env X F O s0 ρ s i d, ds[i]? = some d → In w env X (Fs ++ F) (Os i ++ O) s0 ρ s →
    wpAny (model prog w.w) A (pyNext it) (fun r s' => ∃ v, r = some v ∧ sat d v (hideAll s'.heap X) ∧ In w env X (Fs ++ F) (Os (i + 1) ++ O) s0 ρ s') NoE s
  self : ∀ env X F O s0 ρ s i, In w env X (Fs ++ F) (Os i ++ O) s0 ρ s → ∀ (Q : Value → Shared → Prop) (E : Value → Shared → Prop), Q it s → wpAny (model prog w.w) A (pyIter it) Q E s
  done : ∀ env X F O s0 ρ s, In w env X (Fs ++ F) (Os ds.length ++ O) s0 ρ s → wpAny (model prog w.w) A (pyNext it) (fun r s' => r = none ∧ In w env X F O s0 ρ s') NoE s

theorem sat_list_of {a : Addr} {ds : List D} {h : Heap} (x : sat (.list ds) (.ref a) h) : ∃ vs, h.IsList a vs.toArray ∧ sats ds vs h := by
  obtain ⟨a', vs, e, r⟩ := Lst.list ds _ _ x
  cases e
  exact ⟨vs, r⟩
theorem isList_hid {h : Heap} {X : List Addr} {a : Addr} {items : Array Value} (x : (hideAll h X).IsList a items) : h.IsList a items := let ⟨o, e, r⟩ := x; ⟨o, of_hideAll X e, r⟩
noncomputable abbrev listIterP (l : Addr) (i : Nat) (o : Obj) : Prop := o.cls = .type "list_iterator" ∧ o.data = .fields #[.ref l, .int i 0]
theorem Iter.list (hh : A.handled = none) {it l : Addr} {ds : List D} : Iter w prog A (.ref it) [(.list ds, .ref l)] (fun i => [(it, listIterP l i)]) ds where
  next := fun env X F O s0 ρ s i d hd x => by
    obtain ⟨vs, hl, hs⟩ := sat_list_of (x.fz _ (.head _))
    obtain ⟨v, hv, hsv⟩ := sats_get hs hd
    obtain ⟨⟨o, ho, hP⟩, _⟩ := x.ow _ (.head _)
    refine wpAny_pyNext_list_item (i := i) ⟨o, ho, hP⟩ (isList_hid hl) (by simpa using hv) fun h' hit hsb => ?_
    obtain ⟨o', ho', hP'⟩ := hit
    have hX := (x.ow _ (.head _)).2.2.2.1
    exact ⟨v, rfl, sat_mono (hide_same hX hsb) hsv, x.turn0 (t := s.toks) hsb ho' hP'⟩
  self := fun env X F O s0 ρ s i x Q E h => let ⟨⟨o, ho, hP⟩, _⟩ := x.ow _ (.head _); wpAny_pyIter_listiter (l := l) (i := i) ⟨o, ho, hP⟩ h
  done := fun env X F O s0 ρ s x => by
    obtain ⟨vs, hl, hs⟩ := sat_list_of (x.fz _ (.head _))
    obtain ⟨⟨o, ho, hP⟩, _⟩ := x.ow _ (.head _)
    refine wp_mono (wpAny_sz (wpAny_pyNext_list_end (Q := fun r s' => r = none ∧ ∃ h', Heap.ExtBut it s.heap h' ∧ s' = { s with heap := h' }) (i := ds.length) hh ⟨o, ho, hP⟩ (isList_hid hl) (by simp [sats_length hs]) fun h' hx => ⟨rfl, h', hx, rfl⟩)) fun r s' q => ?_
    obtain ⟨hz, rfl, h', hx, rfl⟩ := q
    have x' : In w env X F ([(it, listIterP l ds.length)] ++ O) s0 ρ s := x.weak (List.Sublist.refl _) fun p hp => .tail _ hp
    exact ⟨rfl, x'.lose (t := s.toks) (fun b o hb e => hx b o (hb _ (.head _)) e) hz⟩
end
end Mine

-- L10
namespace Mine
section
variable {w : Wo} {env : Env} {X : List Addr} {F : List (D × Value)} {O : Own} {s0 s s' : Shared} {ρ : List (Str × D)} {prog : Program} {A : Around} {E : Value → Shared → Prop}

theorem hide_new (i : ∀ a ∈ X, a < s.heap.objs.size) {o : Obj} (hf : o.isFreed = false) : (hideAll (s.heap.push o) X).get? s.heap.objs.size = some o :=
  hideAll_get X (Heap.get?_push_size _ hf) fun hm => Nat.lt_irrefl _ (i _ hm)
theorem hide_sub {h : Heap} {X X' : List Addr} (hX : ∀ a ∈ X, a ∈ X') : Le (hideAll h X') (hideAll h X) := fun b x e => by
  have hb : b ∉ X' := fun hm => by rw [hideAll_none _ hm] at e; cases e
  exact hideAll_get X (of_hideAll _ e) fun hm => hb (hX _ hm)
/-- back to what was apart at s1 -/
theorem In.shrink {X' : List Addr} {F0 : List (D × Value)} {ρ0 : List (Str × D)} {s1 : Shared} {O0 : Own} (i : In w env X' F O s0 ρ s) (j : In w env X F0 O0 s0 ρ0 s1) (hX : ∀ a ∈ X, a ∈ X') (hO : ∀ p ∈ O, p.1 ∈ X) : In w env X F O s0 ρ s :=
  { i with
    ns := let ⟨m, x, y⟩ := i.ns; ⟨m, x, fun n d e k => let ⟨v, x, y⟩ := y n d e k; ⟨v, x, sat_mono (hide_sub hX) y⟩⟩
    cl := fun n d e k => let ⟨c, v, x, y, z⟩ := i.cl n d e k; ⟨c, v, x, y, sat_mono (hide_sub hX) z⟩
    locX := j.locX, celX := j.celX, t1 := j.t1, t2 := j.t2
    lt := fun b hb => i.lt b (hX b hb)
    fz := fun p hp => sat_mono (hide_sub hX) (i.fz p hp)
    ow := fun p hp => let ⟨a, b, c, d, e⟩ := i.ow p hp; ⟨a, b, c, hO p hp, e⟩ }

def Src (w : Wo) (prog : Program) (A : Around) (d0 : D) (ds : List D) : Prop :=
  ∀ env X F O s0 ρ s v, In w env X F O s0 ρ s → sat d0 v (hideAll s.heap X) →
    wpAny (model prog w.w) A (pyIter v) (fun it s' => ∃ X' Fs Os, (∀ a ∈ X, a ∈ X') ∧ (∀ a ∈ X', a ∈ X ∨ s.heap.objs.size ≤ a) ∧ Iter w prog A it Fs Os ds ∧ In w env X' (Fs ++ F) (Os 0 ++ O) s0 ρ s' ∧ Mv w s s') NoE s

theorem own_new {n : Addr} {X : List Addr} : ∀ a ∈ n :: X, a ∈ X ∨ n ≤ a := fun a h => by
  rcases List.mem_cons.mp h with q | h
  · exact .inr (Nat.le_of_eq q.symm)
  · exact .inl h
theorem Src.list (hh : A.handled = none) {ds : List D} : Src w prog A (.list ds) ds := fun env X F O s0 ρ s v i hv => by
  have hv' := hv
  obtain ⟨l, vs, rfl, hl, hs⟩ := Lst.list ds _ _ hv
  refine wpAny_pyIter_list (isList_hid hl) ⟨s.heap.objs.size :: X, _, _, fun a h => .tail _ h, own_new, Iter.list hh (it := s.heap.objs.size) (l := l), ?_, .push _ _⟩
  exact (i.own _ (P := listIterP l 0) ⟨rfl, rfl⟩ rfl).fact (sat_mono hide_push hv')

noncomputable abbrev isRng (a b : Nat) (o : Obj) : Prop := ∃ t u v, o = { cls := .type "range", dict := none, data := .fields #[.int (a : Int) t, .int (b : Int) u, .int 1 v], slots := #[] }
noncomputable abbrev D.range (a b : Nat) : D := .obj (isRng a b)
noncomputable abbrev rngIterP (x : Int) (k : Int) (o : Obj) : Prop := o = { cls := .type "range_iterator", dict := none, data := .fields #[rawInt x, rawInt k, rawInt 1], slots := #[] }
noncomputable def rngD (a n : Nat) : List D := (List.range n).map fun i => .nat (a + i)
theorem rngD_get {a n i : Nat} {d : D} (h : (rngD a n)[i]? = some d) : i < n ∧ d = .nat (a + i) := by
  unfold rngD at h
  rw [List.getElem?_map] at h
  by_cases q : i < n
  · rw [List.getElem?_range q] at h
    cases h
    exact ⟨q, rfl⟩
  · rw [List.getElem?_eq_none (by simpa using q)] at h
    cases h
theorem rngD_len (a n : Nat) : (rngD a n).length = n := by simp [rngD]
theorem Iter.range (hh : A.handled = none) {it : Addr} {a n : Nat} : Iter w prog A (.ref it) [] (fun i => [(it, rngIterP ((a + i : Nat) : Int) ((n : Int) - (i : Nat)))]) (rngD a n) where
  next := fun env X F O s0 ρ s i d hd x => by
    obtain ⟨hi, rfl⟩ := rngD_get hd
    obtain ⟨⟨o, ho, hP⟩, _, _, hX, _⟩ := x.ow _ (.head _)
    subst hP
    refine wpAny_pyNext_range_item ho (by omega) fun h' hit hsb => ?_
    exact ⟨_, rfl, sat_int, x.turn0 (t := s.toks + 1) hsb hit (by show ({ cls := _, dict := none, data := .fields #[rawInt _, rawInt _, _], slots := #[] } : Obj) = _; congr 5; congr 1; omega)⟩
  self := fun env X F O s0 ρ s i x Q E h => by
    obtain ⟨⟨o, ho, hP⟩, _⟩ := x.ow _ (.head _)
    subst hP
    exact wpAny_pyIter_rangeiter ho h
  done := fun env X F O s0 ρ s x => by
    rw [rngD_len] at x
    obtain ⟨⟨o, ho, hP⟩, _, _, hX, _⟩ := x.ow _ (.head _)
    subst hP
    refine wp_mono (wpAny_sz (wpAny_pyNext_range_end (Q := fun r s' => r = none ∧ ∃ h', Heap.ExtBut it s.heap h' ∧ s' = { s with heap := h' }) hh ho (by omega) fun h' hx => ⟨rfl, h', hx, rfl⟩)) fun r s' q => ?_
    obtain ⟨hz, rfl, h', hx, rfl⟩ := q
    exact ⟨rfl, In.lose (t := s.toks) x (fun b o hb e => hx b o (hb _ (.head _)) e) hz⟩
theorem Src.range (hh : A.handled = none) {a b : Nat} (hb : b < 2 ^ 40) (hab : a ≤ b) : Src w prog A (.range a b) (rngD a (b - a)) := fun env X F O s0 ρ s v i hv => by
  unfold sat at hv
  obtain ⟨l, o, rfl, hl, t, u, z, rfl⟩ := hv
  have e40 : (2 : Nat) ^ 40 = 1099511627776 := by decide
  have e62 : (2 : Int) ^ 62 = 4611686018427387904 := by decide
  have hsz : Builtin.Range.rangeSize (a : Int) (b : Int) 1 = ((b - a : Nat) : Int) := by rw [rangeSize_one]; split <;> omega
  refine wpAny_pyIter_range (of_hideAll X hl) (small_one (by omega) (by omega) (by omega) (by omega)) ⟨s.heap.objs.size :: X, _, _, fun a h => .tail _ h, own_new, Iter.range hh (it := s.heap.objs.size), ?_, .push _ _⟩
  refine i.own _ (P := rngIterP ((a + 0 : Nat) : Int) (((b - a : Nat) : Int) - (0 : Nat))) ?_ rfl
  rw [hsz]
  rfl

theorem step_lt {n i l : Nat} (hn : n = l - i) (h : i < l) : n - 1 < n ∧ n - 1 = l - (i + 1) := by omega
/-- the turns of a for -/
theorem for_turns {C : Cx} {ds : List D} {it : Value} {Fs : List (D × Value)} {Os : Nat → Own} {target : Expr} {body : List Stmt} {R : Result → Shared → Prop} (T : Iter C.w C.prog C.A it Fs Os ds)
    (F : List (D × Value)) (I : Nat → List (Str × D) → Own → Prop)
    (turn : ∀ i d ρ O, ds[i]? = some d → I i ρ O → ∀ s v, In C.w C.env C.X (Fs ++ F) (Os (i + 1) ++ O) C.s0 ρ s → sat d v (C.hid s) →
      wpAny C.M C.A (assign target C.env v) (fun _ s2 => wpAny C.M C.A (execs body C.env) (fun f s3 => match f with
        | .next | .cont => ∃ ρ' O', I (i + 1) ρ' O' ∧ In C.w C.env C.X (Fs ++ F) (Os (i + 1) ++ O') C.s0 ρ' s3
        | .brk => False
        | .ret v => R (.ok (.ret v)) s3) NoE s2) NoE s)
    (fin : ∀ ρ O, I ds.length ρ O → ∀ s, In C.w C.env C.X F O C.s0 ρ s → R (.ok .next) s)
    (ht : ∀ v, letOwnedTupleGo target it v = pure ()) {ρ : List (Str × D)} {O : Own} {s : Shared} (h0 : I 0 ρ O) (x : In C.w C.env C.X (Fs ++ F) (Os 0 ++ O) C.s0 ρ s) :
    codeAny C.M C.A (.forLoop target it body [] C.env) R s := by
  refine codeAny_forLoop (fun n s => ∃ i ρ O, i ≤ ds.length ∧ n = ds.length - i ∧ I i ρ O ∧ In C.w C.env C.X (Fs ++ F) (Os i ++ O) C.s0 ρ s) (fun n s hI => ?_) ds.length ⟨0, ρ, O, Nat.zero_le _, rfl, h0, x⟩ ht
  obtain ⟨i, ρ, O, hi, hn, hI, x⟩ := hI
  cases hd : ds[i]? with
  | some d =>
    have hlt : i < ds.length := (List.getElem?_eq_some_iff.mp hd).1
    refine wp_any (T.next _ _ _ _ _ _ _ i d hd x) fun r s1 q => ?_
    obtain ⟨v, rfl, hv, x1⟩ := q
    refine wp_any (turn i d ρ O hd hI s1 v x1 hv) fun _ s2 q => wp_any q fun f s3 q => ?_
    cases f with
    | next => obtain ⟨ρ', O', a, b⟩ := q; exact ⟨n - 1, (step_lt hn hlt).1, i + 1, ρ', O', hlt, (step_lt hn hlt).2, a, b⟩
    | cont => obtain ⟨ρ', O', a, b⟩ := q; exact ⟨n - 1, (step_lt hn hlt).1, i + 1, ρ', O', hlt, (step_lt hn hlt).2, a, b⟩
    | brk => exact q.elim
    | ret v => exact q
  | none =>
    have hge : ds.length ≤ i := List.getElem?_eq_none_iff.mp hd
    have : i = ds.length := Nat.le_antisymm hi hge
    subst this
    refine wp_any (T.done _ _ _ _ _ _ _ x) fun r s1 q => ?_
    obtain ⟨rfl, x1⟩ := q
    exact wpAny_execs_nil (fin ρ O hI s1 x1)

noncomputable abbrev Cx.like (C : Cx) (X : List Addr) (F : List (D × Value)) (O : Own) : Cx := { C with X, F, O }
theorem Bk.for_ {C : Cx} {ρ : List (Str × D)} {n : Str} {np p : Pos} {iter : Expr} {body rest : List Stmt} {d0 : D} {ds : List D} {Q : Flow → Shared → Prop} (hi : Ev C ρ iter d0) (hsrc : Src C.w C.prog C.A d0 ds) (hc : canStore C.w.t C.env n = true)
    (I : Nat → List (Str × D) → Prop) (h0 : I 0 ρ)
    (turn : ∀ i d ρ X F O, ds[i]? = some d → I i ρ → Bk (C.like X F O) ((n, d) :: ρ) body (fun f s => f = .next ∧ ∃ ρ', I (i + 1) ρ' ∧ (C.like X F O).I ρ' s))
    (hr : ∀ ρ, I ds.length ρ → Bk C ρ rest Q) (hs : ∀ x, foldedSetIterable iter C.env x = pure x := by intro _; rfl) : Bk C ρ (.For (.Name n np) iter body [] p :: rest) Q := fun s x => by
  refine wpAny_execs_cons (wpAny_For (wp_mono (hi s x) fun v s1 q => wp_mono (hsrc _ _ _ _ _ _ s1 v q.i q.v) fun it s2 y => ?_) hs)
  obtain ⟨X', Fs, Os, hX, _, T, i2, m⟩ := y
  refine for_turns (C := C.like X' (Fs ++ C.F) C.O) T C.F (fun i ρ O => I i ρ ∧ O = C.O) (fun i d ρ O hd hI s v z hv => ?_) (fun ρ O hI s z => ?_) (by intro _; rfl) ⟨h0, rfl⟩ i2
  · obtain ⟨hI, rfl⟩ := hI
    refine wpAny_assign_Name (store_var z hc hv fun s' z' => ?_)
    refine wp_mono (turn i d ρ X' (Fs ++ C.F) (Os (i + 1) ++ C.O) hd hI s' z') fun f s3 q => ?_
    obtain ⟨rfl, ρ', a, b⟩ := q
    exact ⟨ρ', C.O, ⟨a, rfl⟩, b⟩
  · obtain ⟨hI, rfl⟩ := hI
    exact hr ρ hI s (In.shrink z x hX fun p hp => (x.ow p hp).2.2.2.1)
end
end Mine

-- L11
namespace Mine
noncomputable abbrev listP (vs : List Value) (o : Obj) : Prop := ∃ n, o = { cls := .type "list", data := .seq vs.toArray n }
section
variable {w : Wo} {env : Env} {X : List Addr} {F : List (D × Value)} {O : Own} {s0 s s' : Shared} {ρ : List (Str × D)} {prog : Program} {A : Around} {E : Value → Shared → Prop}
theorem hide_up {h h' : Heap} {X X' : List Addr} (t1 : 156 ∈ X) (t2 : 224 ∈ X) (k : Kp w h h') (hX : ∀ a ∈ X', a ∈ X ∨ h.objs.size ≤ a) : Le (hideAll h X) (hideAll h' X') := by
  intro b o e
  have hb : b ∉ X := fun hm => by rw [hideAll_none X hm] at e; cases e
  have e' := of_hideAll X e
  refine hideAll_get X' (k.keep _ _ ?_ e') fun hm => ?_
  · unfold isTab
    simp only [beq_eq_false_iff_ne]
    exact fun q => hb (q ▸ t1)
  · rcases hX b hm with q | q
    · exact hb q
    · exact Nat.lt_irrefl _ (Nat.lt_of_lt_of_le (Heap.lt_size e') q)
/-- the frame looked at from outside: it stores nothing -/
theorem In.rebase (i : In w env X F O s0 ρ s) : In w { env with frame := none, func := none } X [] [] s [] s where
  wd0 := i.base
  tb := i.tb
  mv := .refl s
  kind := i.kind
  glob := i.glob
  bi := i.bi
  ns := let ⟨m, a, _⟩ := i.ns; ⟨m, a, fun _ _ e => (nomatch e)⟩
  isc := i.isc
  cl := fun _ _ e => (nomatch e)
  locX := i.locX
  celX := i.celX
  celT := i.celT
  locN := fun e => (nomatch e)
  locT := i.locT
  celN := fun e => (nomatch e)
  locC := i.locC
  celC := i.celC
  t1 := i.t1
  t2 := i.t2
  lt := i.lt
  low := Nat.le_trans i.low i.mv.kp.size
  fz := fun _ h => (nomatch h)
  ow := fun _ h => (nomatch h)
  owD := .nil

noncomputable def clo (scope : Scope) (env : Env) : List (Str × Addr) := (scope.names.filterMap fun x => if x.2 == .free then (env.cells.lookup x.1).map fun c => (x.1, c) else none).reverse
theorem clo_in {scope : Scope} {env : Env} {n : Str} {c : Addr} (h : (clo scope env).lookup n = some c) : env.cells.lookup n = some c := by
  have := lookup_mem h
  unfold clo at this
  rw [List.mem_reverse, List.mem_filterMap] at this
  obtain ⟨x, _, hx⟩ := this
  split at hx
  · obtain ⟨c', hc', e⟩ := Option.map_eq_some_iff.mp hx
    cases e
    exact hc'
  · cases hx
/-- the name n is taken over into a frame of scope sc with the cells of clo -/
noncomputable def capt (scope sc : Scope) (env : Env) (n : Str) : Bool :=
  (match env.kindOf n with | some .cell | some .free => true | _ => false) && (scope.names.any fun x => x.1 == n && x.2 == .free) && (sc.names.lookup n != some .local)
theorem lookup_some {n : Str} {c : Addr} : ∀ {l : List (Str × Addr)}, (n, c) ∈ l → ∃ c', l.lookup n = some c'
  | (y, d) :: l, h => by
    rw [List.lookup_cons]
    by_cases q : n = y
    · subst q; simp
    · have : (n == y) = false := by simpa using q
      rw [this]
      rcases List.mem_cons.mp h with e | h
      · exact absurd (congrArg Prod.fst e) q
      · exact lookup_some h
theorem capt_clo {scope sc : Scope} {env : Env} {n : Str} {c : Addr} (h : capt scope sc env n = true) (a : env.cells.lookup n = some c) : (clo scope env).lookup n = some c := by
  unfold capt at h
  obtain ⟨h, _⟩ := Bool.and_eq_true_iff.mp h
  obtain ⟨_, h⟩ := Bool.and_eq_true_iff.mp h
  obtain ⟨x, hx, e⟩ := List.any_eq_true.mp h
  obtain ⟨e1, e2⟩ := Bool.and_eq_true_iff.mp e
  have e1 : x.1 = n := beq_iff_eq.mp e1
  obtain ⟨c', hc'⟩ := lookup_some (l := clo scope env) (n := n) (c := c) (by
    unfold clo
    rw [List.mem_reverse, List.mem_filterMap]
    exact ⟨x, hx, by rw [if_pos e2, e1, a]; rfl⟩)
  have := clo_in hc'
  rw [a] at this
  rw [hc', ← this]

/-- a frame within the frame: its own names in L, the names taken over in cells -/
theorem In.inner {env' cenv : Env} {s1 : Shared} {scope : Scope} {ρ' : List (Str × D)} {h' : Heap} {t : Nat} {X0 : List Addr} {F0 : List (D × Value)} {O0 : Own} (i : In w env' X F O s1 [] s) (out : In w env X0 F0 O0 s0 ρ s1)
    (hX : ∀ a ∈ X, a ∈ X0 ∨ s1.heap.objs.size ≤ a) (hX' : ∀ a ∈ X0, a ∈ X)
    (hcells : cenv.cells = clo scope env) (hL : cenv.locals = s.heap.objs.size) (hg : cenv.globals = 3) (hb : cenv.builtins = 0) (hk : cenv.scope.kind = .function) (hf : cenv.func = none) {m : Str → Option Value}
    (hn : h'.Ns s.heap.objs.size m) {cls : Value} (hs : Heap.SameBut s.heap.objs.size (s.heap.push { cls, data := .dict #[] }) h')
    (hρ : ∀ p ∈ ρ', Has ρ p.1 p.2 ∧ capt scope cenv.scope env p.1 = true) :
    In w cenv (s.heap.objs.size :: X) F O s1 ρ' { s with heap := h', toks := t } := by
  have keep : Le s.heap h' := fun b o e => hs.extBut b o (Nat.ne_of_lt (Heap.lt_size e)) (Heap.get?_push_of_some _ e)
  have hz : h'.objs.size = s.heap.objs.size + 1 := by rw [hs.1, Heap.size_push]
  have mv : Mv w s1 { s with heap := h', toks := t } := i.mv.trans (.heap s h' t keep (by omega))
  have c0 : ∀ n c, cenv.cells.lookup n = some c → env.cells.lookup n = some c := fun n c e => clo_in (by rw [← hcells]; exact e)
  have up : Le (hideAll s1.heap X0) (hideAll h' (s.heap.objs.size :: X)) := by
    refine hide_up (h' := h') out.t1 out.t2 mv.kp fun a ha => ?_
    rcases List.mem_cons.mp ha with q | ha
    · exact .inr (q ▸ i.mv.kp.size)
    · exact hX a ha
  have up2 : Le (hideAll s.heap X) (hideAll h' (s.heap.objs.size :: X)) := hide_up (w := w) i.t1 i.t2 (.of_le keep (by omega)) fun a ha => by
    rcases List.mem_cons.mp ha with q | ha
    · exact .inr (Nat.le_of_eq q.symm)
    · exact .inl ha
  have key : ∀ n d, ρ'.lookup n = some d → Has ρ n d ∧ capt scope cenv.scope env n = true := fun n d e => hρ (n, d) (lookup_mem e)
  exact {
    wd0 := i.wd0, tb := i.tb.le keep, mv := mv, kind := hk, glob := hg, bi := hb
    ns := ⟨m, hL ▸ hn, fun n d e k => by
      obtain ⟨_, hc⟩ := key n d e
      unfold capt at hc
      rw [show cenv.scope.names.lookup n = some .local from k] at hc
      simp at hc⟩
    isc := fun n c e => by
      obtain ⟨v, hv⟩ := out.isc n c (c0 n c e)
      exact ⟨v, Heap.IsCell.kp mv.kp (out.celT n c (c0 n c e)) hv⟩
    cl := fun n d e k => by
      obtain ⟨hr, hc⟩ := key n d e
      have hcc := hc
      unfold capt at hc
      simp only [Bool.and_eq_true] at hc
      have hk' : env.kindOf n = some .cell ∨ env.kindOf n = some .free := by
        have := hc.1.1
        split at this <;> first | (rename_i q; exact .inl q) | (rename_i q; exact .inr q) | cases this
      obtain ⟨c, v, a, b, x⟩ := out.cl n d hr hk'
      exact ⟨c, v, by rw [hcells]; exact capt_clo hcc a, Heap.IsCell.kp mv.kp (out.celT n c a) b, sat_mono up x⟩
    locX := hL ▸ .head _
    celX := fun n c e => .tail _ (hX' _ (out.celX n c (c0 n c e)))
    celT := fun n c e => out.celT n c (c0 n c e)
    locN := fun _ _ => hL ▸ i.mv.kp.size
    locT := hL ▸ notTab_of_ge i.low i.mv.kp.size
    celN := fun e => by rw [hf] at e; cases e
    locC := fun n c e => by
      rw [hL]
      exact Nat.ne_of_lt (Nat.lt_of_lt_of_le (out.lt _ (out.celX n c (c0 n c e))) i.mv.kp.size)
    celC := fun n n' c e e' => out.celC n n' c (c0 _ _ e) (c0 _ _ e')
    t1 := .tail _ i.t1, t2 := .tail _ i.t2
    lt := fun a ha => by
      show a < h'.objs.size
      rw [hz]
      rcases List.mem_cons.mp ha with q | ha
      · rw [q]; exact Nat.lt_succ_self _
      · exact Nat.lt_succ_of_lt (i.lt a ha)
    low := i.low
    fz := fun p hp => sat_mono up2 (i.fz p hp)
    ow := fun p hp => by
      obtain ⟨⟨o, x, y⟩, b, c, d, e⟩ := i.ow p hp
      have hlt := i.lt _ d
      exact ⟨⟨o, keep _ _ x, y⟩, hL ▸ Nat.ne_of_lt hlt, c, .tail _ d, fun n c' e' q => by
        have h1 := out.lt _ (out.celX n c' (c0 n c' e'))
        rw [q] at h1
        exact Nat.lt_irrefl _ (Nat.lt_of_lt_of_le h1 c)⟩
    owD := i.owD }
end
end Mine

-- L12
namespace Mine
theorem sats_zip {h : Heap} : ∀ {es : List D} {vs : List Value}, vs.length = es.length → (∀ p ∈ es.zip vs, sat p.1 p.2 h) → sats es vs h
  | [], [], _, _ => sats_nil
  | e :: es, v :: vs, hl, H => sats_cons (H (e, v) (.head _)) (sats_zip (by simpa using hl) fun p hp => H p (.tail _ hp))
  | [], _ :: _, hl, _ => by cases hl
  | _ :: _, [], hl, _ => by cases hl
theorem zip_snoc {es : List D} {vs : List Value} {d : D} {v : Value} {i : Nat} (hl : vs.length = i) (hd : es[i]? = some d) : (es.take (i + 1)).zip (vs ++ [v]) = (es.take i).zip vs ++ [(d, v)] := by
  have h1 : es.take (i + 1) = es.take i ++ [d] := by rw [List.take_add_one, hd]; rfl
  have hlt : i < es.length := (List.getElem?_eq_some_iff.mp hd).1
  rw [h1, List.zip_append (by rw [List.length_take, hl]; omega)]
  rfl
section
variable {C : Cx} {ρ ρ' : List (Str × D)}

/-- the frame of a comprehension -/
noncomputable abbrev compE (C : Cx) (scope : Scope) (L : Addr) : Env := compEnvC scope (clo scope C.env) L C.env
noncomputable abbrev compC (C : Cx) (scope : Scope) (L : Addr) (X : List Addr) (F : List (D × Value)) (O : Own) (s : Shared) : Cx := ⟨C.w, C.prog, C.A, compE C scope L, X, s, F, O⟩

structure CompOk (C : Cx) (scope : Scope) : Prop where
  clos : closureFor scope C.env = pure (clo scope C.env)
  kind : scope.kind = .function
  noCell : ∀ x ∈ scope.names, x.2 ≠ .cell
  names : ∀ x ∈ scope.names, x.2 = .local → scope.names.lookup x.1 = some .local
noncomputable def compOkB (env : Env) (scope : Scope) : Bool := scope.kind == .function && scope.names.all fun x => x.2 != .cell && (x.2 != .local || scope.names.lookup x.1 == some .local)
theorem CompOk.of {scope : Scope} (h1 : closureFor scope C.env = pure (clo scope C.env)) (h2 : compOkB C.env scope = true) : CompOk C scope := by
  unfold compOkB at h2
  obtain ⟨a, b⟩ := Bool.and_eq_true_iff.mp h2
  have key := fun x hx => Bool.and_eq_true_iff.mp (List.all_eq_true.mp b x hx)
  exact ⟨h1, beq_iff_eq.mp a, fun x hx => by have := (key x hx).1; simpa using this, fun x hx e => by have := (key x hx).2; rw [e] at this; simpa using this⟩

/-- an iterator together with its target -/
structure IterG (w : Wo) (prog : Program) (A : Around) (target : Expr) (it : Value) (Fs : List (D × Value)) (Os : Nat → Own) (ds : List D) : Prop where
  next : ∀ env X F O s0 ρ s i d, ds[i]? = some d → In w env X (Fs ++ F) (Os i ++ O) s0 ρ s →
    wpAny (model prog w.w) A (pyNext it) (fun r s' => ∃ v, r = some v ∧ wpAny (model prog w.w) A (letOwnedTupleGo target it v) (fun _ s'' => sat d v (hideAll s''.heap X) ∧ In w env X (Fs ++ F) (Os (i + 1) ++ O) s0 ρ s'') NoE s') NoE s
  self : ∀ env X F O s0 ρ s i, In w env X (Fs ++ F) (Os i ++ O) s0 ρ s → ∀ (Q : Value → Shared → Prop) (E : Value → Shared → Prop), Q it s → wpAny (model prog w.w) A (pyIter it) Q E s
  done : ∀ env X F O s0 ρ s, In w env X (Fs ++ F) (Os ds.length ++ O) s0 ρ s → wpAny (model prog w.w) A (pyNext it) (fun r s' => r = none ∧ In w env X F O s0 ρ s') NoE s
def SrcG (w : Wo) (prog : Program) (A : Around) (target : Expr) (d0 : D) (ds : List D) : Prop :=
  ∀ env X F O s0 ρ s v, In w env X F O s0 ρ s → sat d0 v (hideAll s.heap X) →
    wpAny (model prog w.w) A (pyIter v) (fun it s' => ∃ X' Fs Os, (∀ a ∈ X, a ∈ X') ∧ (∀ a ∈ X', a ∈ X ∨ s.heap.objs.size ≤ a) ∧ IterG w prog A target it Fs Os ds ∧ In w env X' (Fs ++ F) (Os 0 ++ O) s0 ρ s' ∧ Mv w s s') NoE s
theorem Src.g {w : Wo} {prog : Program} {A : Around} {d0 : D} {ds : List D} {n : Str} {p : Pos} (h : Src w prog A d0 ds) : SrcG w prog A (.Name n p) d0 ds := fun env X F O s0 ρ s v i hv =>
  wp_mono (h env X F O s0 ρ s v i hv) fun it s' q => by
    obtain ⟨X', Fs, Os, a, b, T, r⟩ := q
    exact ⟨X', Fs, Os, a, b, ⟨fun env X F O s0 ρ s i d hd x => wp_mono (T.next env X F O s0 ρ s i d hd x) fun r s' ⟨v, e, y⟩ => ⟨v, e, wpAny_pure y⟩, T.self, T.done⟩, r⟩
theorem SrcG.list {w : Wo} {prog : Program} {A : Around} (hh : A.handled = none) {ds : List D} {es : List Expr} {c p} : SrcG w prog A (.Tuple es c p) (.list ds) ds := fun env X F O s0 ρ s v i hv => by
  have hv' := hv
  obtain ⟨l, vs, rfl, hl, hs⟩ := Lst.list ds _ _ hv
  have T := Iter.list (w := w) (prog := prog) hh (it := s.heap.objs.size) (l := l) (ds := ds)
  refine wpAny_pyIter_list (isList_hid hl) ⟨s.heap.objs.size :: X, _, _, fun a h => .tail _ h, own_new, ⟨fun env X F O s0 ρ s i d hd x => wp_mono (T.next env X F O s0 ρ s i d hd x) fun r s' ⟨v, e, y, z⟩ => ⟨v, e, ?_⟩, T.self, T.done⟩, ?_, .push _ _⟩
  · obtain ⟨⟨o, ho, hc, hd⟩, _⟩ := z.ow _ (.head _)
    unfold letOwnedTupleGo
    cases v with
    | ref a =>
      refine wpAny_bind (wpAny_load ho ?_)
      rw [hc, hd]
      show wpAny _ A (if (["enumerate", "zip", "dict_itemiterator", "dict_reverseitemiterator", "odict_iterator", "itertools.zip_longest", "itertools.pairwise"].contains "list_iterator" && _) = true then _ else _) _ _ _
      rw [if_neg (by rw [show (["enumerate", "zip", "dict_itemiterator", "dict_reverseitemiterator", "odict_iterator", "itertools.zip_longest", "itertools.pairwise"].contains "list_iterator") = false from by decide, Bool.false_and]; simp)]
      exact wpAny_pure ⟨y, z⟩
    | _ => exact wpAny_pure ⟨y, z⟩
  · exact (i.own _ (P := listIterP l 0) ⟨rfl, rfl⟩ rfl).fact (sat_mono hide_push hv')
/-- a turn of a comprehension -/
theorem comp_loop {w : Wo} {prog : Program} {A : Around} {R : Result → Shared → Prop} {elt target iter : Expr} {scope : Scope} {pos : Pos} {it acc : Value} {env : Env} (I : Nat → Shared → Prop)
    (turn : ∀ n s, I n s → wpAny (model prog w.w) A (pyNext it) (fun r s1 => match r with
      | none => R (.ok .next) s1
      | some v => wpAny (model prog w.w) A (letOwnedTupleGo target it v) (fun _ s2 => wpAny (model prog w.w) A (assign target env v) (fun _ s2 => wpAny (model prog w.w) A (eval elt env) (fun x s3 =>
          wpAny (model prog w.w) A (call (.builtin "list.append") [acc, x]) (fun _ s4 => ∃ m, m < n ∧ I m s4) NoE s3) NoE s2) NoE s2) NoE s1) NoE s) (n : Nat) (s : Shared) (h : I n s) :
    codeAny (model prog w.w) A (.compLoop (.ListComp elt [⟨target, iter, [], 0⟩] scope pos) 0 it acc env) R s := by
  refine codeAny_loop rfl I (fun n s hI => ?_) n h
  refine wpAny_noted ?_
  rw [compTurn_list1]
  refine wpAny_bind (wpAny_standAt (wpAny_bind (wpAny_mono (turn n s hI) (fun r s1 h1 => ?_) fun _ _ h => h.elim)))
  cases r with
  | none => exact wpAny_pure h1
  | some v =>
    refine wpAny_bind (wpAny_mono h1 (fun _ s2 h2 => wpAny_bind (wpAny_mono h2 (fun _ s2 h2 => ?_) fun _ _ h => h.elim)) fun _ _ h => h.elim)
    exact wpAny_bind (wpAny_bind (wpAny_mono h2 (fun x s3 h3 => wpAny_bind (wpAny_mono h3 (fun _ s4 h4 => wpAny_pure (wpAny_pure ⟨rfl, h4⟩)) fun _ _ h => h.elim)) fun _ _ h => h.elim))

/-- an iterator stands ready -/
def Begun (C : Cx) (ρ : List (Str × D)) (target : Expr) (ds : List D) (s : Shared) (it : Value) (s2 : Shared) : Prop :=
  ∃ s1 X2 Fs Os, C.I ρ s1 ∧ Mv C.w s s1 ∧ (∀ a ∈ C.X, a ∈ X2) ∧ (∀ a ∈ X2, a ∈ C.X ∨ s1.heap.objs.size ≤ a) ∧ IterG C.w C.prog C.A target it Fs Os ds ∧ In C.w { C.env with frame := none, func := none } X2 (Fs ++ []) (Os 0 ++ []) s1 [] s2
def IterEx (C : Cx) (ρ : List (Str × D)) (iter target : Expr) (ds : List D) : Prop := ∀ s, C.I ρ s → wpAny C.M C.A (eval iter C.env) (fun v s1 => wpAny C.M C.A (pyIter v) (fun it s2 => Begun C ρ target ds s it s2) NoE s1) NoE s
theorem IterEx.of {iter target : Expr} {d0 : D} {ds : List D} (hi : Ev C ρ iter d0) (hsrc : SrcG C.w C.prog C.A target d0 ds) : IterEx C ρ iter target ds := fun s x =>
  wp_mono (hi s x) fun v s1 q => wp_mono (hsrc _ _ _ _ _ _ s1 v q.i.rebase q.v) fun it s2 ⟨X2, Fs, Os, hX0, hXn, T, i2, _⟩ => ⟨s1, X2, Fs, Os, q.i, q.m, hX0, hXn, T, i2⟩
theorem comp_code {elt target iter : Expr} {scope : Scope} {pos : Pos} {ds es : List D} {s1 s2 : Shared} {it : Value} {X2 : List Addr} {Fs : List (D × Value)} {Os : Nat → Own} {use : Option (Value → Sem Unit)} {Q : Value → Shared → Prop}
    (out : C.I ρ s1) (hX0 : ∀ a ∈ C.X, a ∈ X2) (hXn : ∀ a ∈ X2, a ∈ C.X ∨ s1.heap.objs.size ≤ a) (T : IterG C.w C.prog C.A target it Fs Os ds) (i2 : In C.w { C.env with frame := none, func := none } X2 (Fs ++ []) (Os 0 ++ []) s1 [] s2) (K : CompOk C scope) (hρ : ∀ p ∈ ρ', Has ρ p.1 p.2 ∧ capt scope (relabel scope C.env) C.env p.1 = true)
    (hlen : es.length = ds.length) (hz : es.length ≤ sizeLine)
    (turn : ∀ (L : Addr) (X : List Addr) (F : List (D × Value)) (O : Own) (s0 : Shared) (i : Nat) (d e : D), ds[i]? = some d → es[i]? = some e → ∀ s v, (compC C scope L X F O s0).I ρ' s → sat d v (hideAll s.heap X) →
      wpAny C.M C.A (assign target (compE C scope L) v) (fun _ s2 => wpAny C.M C.A (eval elt (compE C scope L)) (fun x s3 => sat e x (hideAll s3.heap X) ∧ (compC C scope L X F O s0).I ρ' s3) NoE s2) NoE s)
    (fin : ∀ a L s m vs, Mv C.w s1 s → Tb s.heap → s1.heap.objs.size ≤ a → a ≠ L → s.heap.PlainList a vs.toArray → sats es vs (hideAll s.heap (L :: a :: C.X)) → s1.heap.objs.size ≤ L → s.heap.Ns L m → compPost C.M C.A NoE use Q (.ref a) L (.ok .next) s) :
    wpAny C.M C.A (newList []) (fun acc s₃ =>
      wpAny C.M C.A (newFunctionEnv scope C.env.globals (clo scope C.env) [] C.env.qual none .none (some C.env)) (fun cenv s₄ =>
        codeAny C.M C.A (.compStart (.ListComp elt [⟨target, iter, [], 0⟩] scope pos) 0 it acc { cenv with scope := relabel scope C.env }) (compPost C.M C.A NoE use Q acc cenv.locals) s₄) NoE s₃) NoE s2 := by
  refine wpAny_newList ?_
  have i3 := i2.own { cls := .type "list", data := .seq ([] : List Value).toArray } (P := listP []) ⟨0, rfl⟩ rfl
  refine wpAny_newFunctionEnv K.noCell (fun _ h => (nomatch h)) (fun h' hn hs => ?_) K.kind
  have hL3 : ({ s2 with heap := s2.heap.push { cls := .type "list", data := .seq ([] : List Value).toArray } } : Shared).heap.objs.size = s2.heap.objs.size + 1 := Heap.size_push ..
  rw [hL3] at hn hs ⊢
  have i4 : In C.w (compE C scope (s2.heap.objs.size + 1)) ((s2.heap.objs.size + 1) :: s2.heap.objs.size :: X2) (Fs ++ ((es.take 0).zip [] ++ [])) (Os 0 ++ [(s2.heap.objs.size, listP [])]) s1 ρ' { s2 with heap := h', toks := s2.toks + ([] : List (Str × Value)).length } := by
    have j3 : In C.w { C.env with frame := none, func := none } (s2.heap.objs.size :: X2) (Fs ++ ((es.take 0).zip [] ++ [])) (Os 0 ++ [(s2.heap.objs.size, listP [])]) s1 [] { s2 with heap := s2.heap.push { cls := .type "list", data := .seq ([] : List Value).toArray } } := by
      refine { i3 with fz := fun p hp => i3.fz p (by simpa using hp), ow := fun p hp => i3.ow p ?_, owD := ?_ }
      · rcases List.mem_append.mp hp with q | q
        · exact .tail _ (List.mem_append_left _ q)
        · rcases List.mem_cons.mp q with q | q
          · rw [q]; exact .head _
          · cases q
      · have h := i3.owD
        rw [List.pairwise_cons, List.append_nil] at h
        rw [List.pairwise_append]
        exact ⟨h.2, List.pairwise_cons.mpr ⟨fun _ h => (nomatch h), .nil⟩, fun p hp q hq => by
          rcases List.mem_cons.mp hq with q' | q'
          · rw [q']; exact Ne.symm (h.1 p hp)
          · cases q'⟩
    rw [← hL3]
    rw [← hL3] at hn hs
    refine In.inner (t := _) j3 out (fun a ha => ?_) (fun a ha => .tail _ (hX0 a ha)) rfl rfl out.glob out.bi ?_ rfl hn hs hρ
    · rcases List.mem_cons.mp ha with q | ha
      · exact .inr (q ▸ i2.mv.kp.size)
      · exact hXn a ha
    · show (relabel scope C.env).kind = .function
      exact K.kind
  have ha : s1.heap.objs.size ≤ s2.heap.objs.size := i2.mv.kp.size
  have hLn : s2.heap.objs.size ≠ s2.heap.objs.size + 1 := Nat.ne_of_lt (Nat.lt_succ_self _)
  have hLs : s1.heap.objs.size ≤ s2.heap.objs.size + 1 := Nat.le_succ_of_le ha
  generalize hL : s2.heap.objs.size + 1 = L at *
  generalize s2.heap.objs.size = a at *
  show codeAny C.M C.A (.compStart (.ListComp elt [⟨target, iter, [], 0⟩] scope pos) 0 it (.ref a) (compE C scope L)) (compPost C.M C.A NoE use Q (.ref a) L) _
  have loop : ∀ s3, In C.w (compE C scope L) (L :: a :: X2) (Fs ++ ((es.take 0).zip [] ++ [])) (Os 0 ++ [(a, listP [])]) s1 ρ' s3 →
      codeAny C.M C.A (.compLoop (.ListComp elt [⟨target, iter, [], 0⟩] scope pos) 0 it (.ref a) (compE C scope L)) (compPost C.M C.A NoE use Q (.ref a) L) s3 := fun s3 i5 => by
    refine comp_loop (fun n s => ∃ i vs, i ≤ ds.length ∧ n = ds.length - i ∧ vs.length = i ∧ In C.w (compE C scope L) (L :: a :: X2) (Fs ++ ((es.take i).zip vs ++ [])) (Os i ++ [(a, listP vs)]) s1 ρ' s) (fun n s hI => ?_) ds.length s3 ⟨0, [], Nat.zero_le _, rfl, rfl, i5⟩
    obtain ⟨i, vs, hi, hn, hvs, x⟩ := hI
    cases hd : ds[i]? with
    | some d =>
      have hlt : i < ds.length := (List.getElem?_eq_some_iff.mp hd).1
      obtain ⟨e, he⟩ : ∃ e, es[i]? = some e := ⟨es[i]'(hlen ▸ hlt), List.getElem?_eq_getElem _⟩
      refine wp_mono (T.next _ _ _ _ _ _ _ i d hd x) fun r t1 q => ?_
      obtain ⟨v, rfl, q⟩ := q
      refine wp_mono q fun _ s2 q => ?_
      obtain ⟨hv, y⟩ := q
      refine wp_mono (turn L _ _ _ s1 i d e hd he s2 v y hv) fun _ s3 q => wp_mono q fun u s4 q => ?_
      obtain ⟨hu, z⟩ := q
      have hO : (a, listP vs) ∈ Os (i + 1) ++ [(a, listP vs)] := List.mem_append_right _ (.head _)
      obtain ⟨⟨o, ho, m, rfl⟩, _⟩ := z.ow _ hO
      refine wpAny_list_append_plain (items := vs.toArray) ⟨m, ho⟩ (fun h' hl' hs' => ?_) (by rw [List.size_toArray, hvs]; exact Nat.le_trans (Nat.le_of_lt hlt) (hlen ▸ hz))
      obtain ⟨m', ho'⟩ := hl'
      have z' : In C.w (compE C scope L) (L :: a :: X2) (Fs ++ ((es.take i).zip vs ++ [])) (Os (i + 1) ++ [(a, listP (vs ++ [u]))]) s1 ρ' { s4 with heap := h' } :=
        z.turn (t := s4.toks) hs' ho' ⟨m', by simp⟩
      refine ⟨n - 1, (step_lt hn hlt).1, i + 1, vs ++ [u], hlt, (step_lt hn hlt).2, by rw [List.length_append, hvs]; rfl, ?_⟩
      rw [zip_snoc hvs he]
      refine (z'.fact (sat_mono (hide_same ?_ hs') hu)).weak (List.Sublist.refl _) fun p hp => ?_
      · exact (z.ow _ hO).2.2.2.1
      · simp only [List.mem_append, List.mem_cons, List.append_nil, List.not_mem_nil, or_false] at hp ⊢
        rcases hp with q | q | q
        · exact .inr (.inl q)
        · exact .inr (.inr q)
        · exact .inl q
    | none =>
      have hge : ds.length ≤ i := List.getElem?_eq_none_iff.mp hd
      have : i = ds.length := Nat.le_antisymm hi hge
      subst this
      refine wp_mono (T.done _ _ _ _ _ _ _ x) fun r s9 q => ?_
      obtain ⟨rfl, y⟩ := q
      obtain ⟨m, hm, _⟩ := y.ns
      obtain ⟨⟨o, ho, k, rfl⟩, _⟩ := y.ow _ (.head _)
      refine fin a L s9 m vs y.mv y.tb ha hLn ⟨k, ho⟩ (sats_zip (hvs.trans hlen.symm) fun p hp => sat_mono (hide_sub fun b hb => ?_) (y.fz p (List.mem_append_left _ ?_))) hLs hm
      · rcases List.mem_cons.mp hb with q | q
        · exact q ▸ .head _
        · rcases List.mem_cons.mp q with q | q
          · exact q ▸ .tail _ (.head _)
          · exact .tail _ (.tail _ (hX0 b q))
      · rw [List.take_of_length_le (Nat.le_of_eq hlen)]
        exact hp
  exact codeAny_compStart_list (loop _ i4) (T.self _ _ _ _ _ _ _ 0 i4 _ _ (loop _ i4))
end
end Mine

-- L13
namespace Mine
section
variable {w : Wo} {env : Env} {X X' : List Addr} {F : List (D × Value)} {O : Own} {s0 s1 s s' : Shared} {ρ ρ' : List (Str × D)} {prog : Program} {A : Around} {E : Value → Shared → Prop}
/-- a step, and more set apart -/
theorem In.stepX (i : In w env X F O s0 ρ s) (m : Mv w s s') (t : Tb s'.heap) (hX : ∀ a ∈ X, a ∈ X') (hX' : ∀ a ∈ X', a ∈ X ∨ s.heap.objs.size ≤ a) (hlt : ∀ a ∈ X', a < s'.heap.objs.size) : In w env X' F O s0 ρ s' :=
  have up := hide_up i.t1 i.t2 m.kp hX'
  have j := i.step m t
  { j with
    ns := let ⟨mm, n, x⟩ := i.ns; ⟨mm, Heap.Ns.kp m.kp i.locT n, fun y d e k => let ⟨v, a, b⟩ := x y d e k; ⟨v, a, sat_mono up b⟩⟩
    cl := fun n d e k => let ⟨c, v, a, b, x⟩ := i.cl n d e k; ⟨c, v, a, Heap.IsCell.kp m.kp (i.celT n c a) b, sat_mono up x⟩
    locX := hX _ i.locX, celX := fun n c e => hX _ (i.celX n c e), t1 := hX _ i.t1, t2 := hX _ i.t2, lt := hlt
    fz := fun p hp => sat_mono up (i.fz p hp)
    ow := fun p hp => let ⟨a, b, c, d, e⟩ := j.ow p hp; ⟨a, b, c, hX _ d, e⟩ }
/-- a new object is the frame's own -/
theorem In.mine {a : Addr} {o : Obj} {P : Obj → Prop} (out : In w env X F O s0 ρ s1) (mv : Mv w s1 s) (tb : Tb s.heap) (ha : s1.heap.objs.size ≤ a) (ho : s.heap.get? a = some o) (hP : P o) : In w env (a :: X) F ((a, P) :: O) s0 ρ s := by
  have lt : ∀ b ∈ X, b ≠ a := fun b hb q => Nat.lt_irrefl _ (Nat.lt_of_lt_of_le (q ▸ out.lt b hb) ha)
  have j := out.stepX mv tb (X' := a :: X) (fun b h => .tail _ h) (fun b hb => by
    rcases List.mem_cons.mp hb with q | q
    · exact .inr (q ▸ ha)
    · exact .inl q) (fun b hb => by
    rcases List.mem_cons.mp hb with q | q
    · exact q ▸ Heap.lt_size ho
    · exact Nat.lt_of_lt_of_le (out.lt b q) mv.kp.size)
  exact { j with
    ow := fun p hp => by
      rcases List.mem_cons.mp hp with rfl | hp
      · exact ⟨⟨o, ho, hP⟩, Ne.symm (lt _ out.locX), Nat.le_trans out.mv.kp.size ha, .head _, fun n c e => lt _ (out.celX n c e)⟩
      · exact j.ow p hp
    owD := List.pairwise_cons.mpr ⟨fun p hp => Ne.symm (lt _ (out.ow p hp).2.2.2.1), out.owD⟩ }
/-- a frame of a comprehension, and its going -/
theorem In.letFrame {L : Addr} {m : Str → Option Value} (out : In w env X F O s0 ρ s1) (mv : Mv w s1 s) (tb : Tb s.heap) (hL : s1.heap.objs.size ≤ L) (hn : s.heap.Ns L m) :
    In w env (L :: X) F ((L, fun o => ∃ (m : Str → Option Value) (es : Array DictEntry) (ep : Nat), o.data = .dict es ep ∧ StrKeys es ∧ ∀ name, nsFind es name = m name) :: O) s0 ρ s :=
  let ⟨o, es, ep, a, b⟩ := hn; out.mine mv tb hL a ⟨m, es, ep, b⟩
theorem In.frameGone {L : Addr} {P : Obj → Prop} {h' : Heap} (i : In w env (L :: X) F ((L, P) :: O) s0 ρ s) (out : In w env X F O s0 ρ' s1) (hs : Heap.SameBut L s.heap h') : In w env X F O s0 ρ { s with heap := h' } :=
  In.shrink (In.lose (OW := [(L, P)]) (t := s.toks) i (fun b o hb e => hs.extBut b o (hb _ (.head _)) e) (Nat.le_of_eq hs.1.symm)) out (fun a h => .tail _ h) fun p hp => (out.ow p hp).2.2.2.1
end
section
variable {C : Cx} {ρ ρ' : List (Str × D)}
theorem compList {a L : Addr} {s1 s9 : Shared} {es : List D} {vs : List Value} (hX : ∀ b ∈ C.X, b < s1.heap.objs.size) (ha : s1.heap.objs.size ≤ a) (hne : a ≠ L) (hl : s9.heap.PlainList a vs.toArray) (hs : sats es vs (hideAll s9.heap (L :: a :: C.X))) : sat (.list es) (.ref a) (hideAll s9.heap (L :: C.X)) := by
  obtain ⟨n, e⟩ := hl
  unfold sat
  refine ⟨a, vs, rfl, ⟨n, hideAll_get _ e fun hm => ?_⟩, sats_mono (hide_sub fun b hb => ?_) hs⟩
  · rcases List.mem_cons.mp hm with q | q
    · exact hne q
    · exact Nat.lt_irrefl _ (Nat.lt_of_lt_of_le (hX a q) ha)
  · rcases List.mem_cons.mp hb with q | q
    · exact q ▸ .head _
    · exact .tail _ (.tail _ q)
theorem Ev.comp {elt target iter : Expr} {scope : Scope} {pos : Pos} {ds es : List D} (hi : IterEx C ρ iter target ds) (K : CompOk C scope)
    (hρ : ∀ p ∈ ρ', Has ρ p.1 p.2 ∧ capt scope (relabel scope C.env) C.env p.1 = true) (hlen : es.length = ds.length) (hz : es.length ≤ sizeLine)
    (turn : ∀ (L : Addr) (X : List Addr) (F : List (D × Value)) (O : Own) (s0 : Shared) (i : Nat) (d e : D), ds[i]? = some d → es[i]? = some e → ∀ s v, (compC C scope L X F O s0).I ρ' s → sat d v (hideAll s.heap X) →
      wpAny C.M C.A (assign target (compE C scope L) v) (fun _ s2 => wpAny C.M C.A (eval elt (compE C scope L)) (fun x s3 => sat e x (hideAll s3.heap X) ∧ (compC C scope L X F O s0).I ρ' s3) NoE s2) NoE s)
    (hs : ∀ x, foldedSetIterable iter C.env x = pure x := by intro _; rfl) : Ev C ρ (.ListComp elt [⟨target, iter, [], 0⟩] scope pos) (.list es) := fun s x => by
  rw [eval_ListComp]
  refine wpAny_comprehension_free (use := none) rfl hs K.clos K.kind K.names (wp_mono (hi s x) fun v _ q => wp_mono q fun it s2 q => ?_)
  obtain ⟨s1, X2, Fs, Os, i1, m1, hX0, hXn, T, i2⟩ := q
  refine comp_code i1 hX0 hXn T i2 K hρ hlen hz turn fun a L s9 m vs mv tb ha hne hl hvs hL hn => ⟨m, hn, fun h' hs' => ?_⟩
  have j := i1.letFrame mv tb hL hn
  refine ⟨sat_mono hide_drop (sat_mono (hide_same (.head _) hs') (compList i1.lt ha hne hl hvs)), j.frameGone i1 hs', m1.trans (mv.same (t := s9.toks) hL hs')⟩
theorem Ex.comp {elt target iter : Expr} {scope : Scope} {pos spos : Pos} {y : Str} {py : Pos} {ds es : List D} (hi : IterEx C ρ iter target ds) (K : CompOk C scope)
    (hρ : ∀ p ∈ ρ', Has ρ p.1 p.2 ∧ capt scope (relabel scope C.env) C.env p.1 = true) (hlen : es.length = ds.length) (hz : es.length ≤ sizeLine)
    (turn : ∀ (L : Addr) (X : List Addr) (F : List (D × Value)) (O : Own) (s0 : Shared) (i : Nat) (d e : D), ds[i]? = some d → es[i]? = some e → ∀ s v, (compC C scope L X F O s0).I ρ' s → sat d v (hideAll s.heap X) →
      wpAny C.M C.A (PySem.assign target (compE C scope L) v) (fun _ s2 => wpAny C.M C.A (eval elt (compE C scope L)) (fun x s3 => sat e x (hideAll s3.heap X) ∧ (compC C scope L X F O s0).I ρ' s3) NoE s2) NoE s)
    (hsw : swapsWith (.ListComp elt [⟨target, iter, [], 0⟩] scope pos) (some (.Name y py)) spos.line C.env = pure true) (hc : canStore C.w.t C.env y = true)
    (hs : ∀ x, foldedSetIterable iter C.env x = pure x := by intro _; rfl) : Ex C ρ (.Assign [.Name y py] (.ListComp elt [⟨target, iter, [], 0⟩] scope pos) spos) ((y, .list es) :: ρ) := fun s x => by
  rw [exec_Assign_Name_used _ _ _ _ hsw]
  refine wpAny_bind (wpAny_standAt (wpAny_bind ?_))
  show wpAny _ _ (do let _ ← comprehension (.ListComp elt [⟨target, iter, [], 0⟩] scope pos) scope C.env _ (newList []) false (eval iter C.env) (some (PySem.assign (.Name y py) C.env))) _ _ s
  refine wpAny_bind (wpAny_mono (wpAny_comprehension_free (use := some (PySem.assign (.Name y py) C.env)) (Q := fun _ s' => C.I ((y, .list es) :: ρ) s') (E := NoE) rfl hs K.clos K.kind K.names (wp_mono (hi s x) fun v _ q => wp_mono q fun it s2 q => ?_)) (fun _ s' hq => wpAny_pure (wpAny_pure ⟨rfl, hq⟩)) fun _ _ e => e)
  obtain ⟨s1, X2, Fs, Os, i1, m1, hX0, hXn, T, i2⟩ := q
  refine comp_code i1 hX0 hXn T i2 K hρ hlen hz turn fun a L s9 m vs mv tb ha hne hl hvs hL hn => ?_
  have j := i1.letFrame mv tb hL hn
  refine wpAny_assign_Name (store_var j hc (compList i1.lt ha hne hl hvs) fun s' j' => ?_)
  obtain ⟨⟨o, ho, m', es', ep', r⟩, _⟩ := j'.ow _ (.head _)
  exact ⟨m', ⟨o, es', ep', ho, r⟩, fun h' hs' => j'.frameGone i1 hs'⟩

theorem turn_name {elt : Expr} {scope : Scope} {n : Str} {np : Pos} {d e : D} {L : Addr} {X : List Addr} {F : List (D × Value)} {O : Own} {s0 : Shared} (hc : canStore C.w.t (compE C scope L) n = true) (hn : ρ'.lookup n = none)
    (h : Ev (compC C scope L X F O s0) ((n, d) :: ρ') elt e) (s : Shared) (v : Value) (i : (compC C scope L X F O s0).I ρ' s) (hv : sat d v (hideAll s.heap X)) :
    wpAny C.M C.A (assign (.Name n np) (compE C scope L) v) (fun _ s2 => wpAny C.M C.A (eval elt (compE C scope L)) (fun x s3 => sat e x (hideAll s3.heap X) ∧ (compC C scope L X F O s0).I ρ' s3) NoE s2) NoE s :=
  wpAny_assign_Name (store_var i hc hv fun s' i' => wp_mono (h s' i') fun x s3 q => ⟨q.v, q.i.sub fun n' d' e => by
    by_cases hq : n' = n
    · rw [hq, hn] at e; cases e
    · rw [List.lookup_cons, show (n' == n) = false by simpa using hq]; exact e⟩)
/-- a pair is unpacked -/
theorem assign_pair {w : Wo} {prog : Program} {A : Around} {env : Env} {X : List Addr} {F : List (D × Value)} {O : Own} {s0 s : Shared} {ρ : List (Str × D)} {n1 n2 : Str} {p1 p2 p : Pos} {c} {d1 d2 : D} {v : Value} {Q : Unit → Shared → Prop}
    (hh : A.handled = none) (i : In w env X F O s0 ρ s) (hv : sat (.tup [d1, d2]) v (hideAll s.heap X)) (h1 : canStore w.t env n1 = true) (h2 : canStore w.t env n2 = true)
    (h : ∀ s', In w env X F O s0 ((n2, d2) :: (n1, d1) :: ρ) s' → Q () s') : wpAny (model prog w.w) A (assign (.Tuple [.Name n1 p1, .Name n2 p2] c p) env v) Q NoE s := by
  unfold sat at hv
  obtain ⟨a, vs, n, rfl, ho, hs⟩ := hv
  unfold sats at hs
  obtain ⟨v1, r, rfl, x1, hs⟩ := hs
  unfold sats at hs
  obtain ⟨v2, r, rfl, x2, hs⟩ := hs
  unfold sats at hs
  subst hs
  rw [arm_assign_Tuple]
  refine wpAny_bind (wpAny_standAt ?_)
  unfold unpack
  refine wpAny_bind (wpAny_holding (wp_mono (wpAny_sz (wpAny_unpackItems_tuple (Q := fun xs s' => xs = [v1, v2] ∧ ∃ h', Heap.ExtBut s.heap.objs.size s.heap h' ∧ s' = { s with heap := h' }) hh (items := #[v1, v2]) ⟨_, of_hideAll X ho, rfl, n, rfl⟩ fun h' hx => ⟨rfl, h', hx, rfl⟩)) fun xs s' q => ?_))
  obtain ⟨hz, rfl, h', hx, rfl⟩ := q
  have le : Le s.heap h' := fun b o e => hx b o (Nat.ne_of_lt (Heap.lt_size e)) e
  have j := i.keep (t := s.toks) le hz
  have m : Mv w s { s with heap := h' } := .heap s h' s.toks le hz
  refine wpAny_assignInOrder_more (wpAny_assign_Name (store_var ((j.fact (d := d2) (v := v2) (sat_mono (hide_le i.t1 i.t2 m.kp) x2))) h1 (sat_mono (hide_le i.t1 i.t2 m.kp) x1) fun s2 j2 => ?_))
  have y2 := j2.fz _ (.head _)
  refine wpAny_assignInOrder_more (wpAny_assign_Name (store_var (j2.weak (List.Sublist.refl _) fun p hp => .tail _ hp) h2 y2 fun s3 j3 => wpAny_assignInOrder_none (h s3 j3)))
theorem turn_pair {elt : Expr} {scope : Scope} {n1 n2 : Str} {p1 p2 p : Pos} {c} {d1 d2 e : D} {L : Addr} {X : List Addr} {F : List (D × Value)} {O : Own} {s0 : Shared} (hh : C.A.handled = none) (h1 : canStore C.w.t (compE C scope L) n1 = true)
    (h2 : canStore C.w.t (compE C scope L) n2 = true) (hn1 : ρ'.lookup n1 = none) (hn2 : ρ'.lookup n2 = none)
    (h : Ev (compC C scope L X F O s0) ((n2, d2) :: (n1, d1) :: ρ') elt e) (s : Shared) (v : Value) (i : (compC C scope L X F O s0).I ρ' s) (hv : sat (.tup [d1, d2]) v (hideAll s.heap X)) :
    wpAny C.M C.A (assign (.Tuple [.Name n1 p1, .Name n2 p2] c p) (compE C scope L) v) (fun _ s2 => wpAny C.M C.A (eval elt (compE C scope L)) (fun x s3 => sat e x (hideAll s3.heap X) ∧ (compC C scope L X F O s0).I ρ' s3) NoE s2) NoE s :=
  assign_pair hh i hv h1 h2 fun s' i' => wp_mono (h s' i') fun x s3 q => ⟨q.v, q.i.sub fun n' d' e => by
    by_cases hq : n' = n2
    · rw [hq, hn2] at e; cases e
    · rw [List.lookup_cons, show (n' == n2) = false by simpa using hq]
      by_cases hq1 : n' = n1
      · rw [hq1, hn1] at e; cases e
      · show List.lookup n' _ = _
        rw [List.lookup_cons, show (n' == n1) = false by simpa using hq1]; exact e⟩
end
end Mine

-- L14
namespace Mine
section
variable {C : Cx} {ρ : List (Str × D)} {s : Shared}
theorem sats1 {d : D} {vs : List Value} {h : Heap} (x : sats [d] vs h) : ∃ v, vs = [v] ∧ sat d v h := by
  unfold sats at x
  obtain ⟨v, r, rfl, a, x⟩ := x
  unfold sats at x
  exact ⟨v, by rw [x], a⟩
theorem sats2 {d e : D} {vs : List Value} {h : Heap} (x : sats [d, e] vs h) : ∃ v u, vs = [v, u] ∧ sat d v h ∧ sat e u h := by
  unfold sats at x
  obtain ⟨v, r, rfl, a, x⟩ := x
  obtain ⟨u, rfl, b⟩ := sats1 x
  exact ⟨v, u, rfl, a, b⟩
theorem Lst.in_ {d : D} {ds : List D} (L : Lst d ds) {v : Value} (hv : sat d v (C.hid s)) : ∃ a vs, v = .ref a ∧ s.heap.IsList a vs.toArray ∧ sats ds vs (C.hid s) := by
  obtain ⟨a, vs, e, hl, hs⟩ := L _ _ hv
  exact ⟨a, vs, e, isList_hid hl, hs⟩
theorem Ev.len {n : Str} {np p : Pos} {e : Expr} {d : D} {ds : List D} {k : Nat} (hf : Ev C ρ (.Name n np) (.val (.builtin "len"))) (h : Ev C ρ e d) (hl : Lst d ds) (hk : ds.length = k) (hz : k < 2 ^ 40) (he : starEach [e] C.env = (false, eval e C.env) :: starEach [] C.env := by rfl) :
    Ev C ρ (.Call (.Name n np) [e] [] p) (.nat k) := by
  subst hk
  exact
  hf.call (.cons h .nil he) fun s vs i hv => ⟨Callable.builtin, by
    obtain ⟨v, rfl, hx⟩ := sats1 hv
    obtain ⟨a, vs, rfl, hL, hs⟩ := hl.in_ hx
    have e : (vs.toArray.size : Int) = (ds.length : Int) := by simp [sats_length hs]
    refine call_len_list hL (by rw [e]; have : (2:Nat)^40 = 1099511627776 := by decide
                                omega) ?_
    rw [e]
    exact Po.tok i _ sat_int⟩
theorem Ev.lenB {n : Str} {np p : Pos} {e : Expr} {b : List UInt8} {k : Nat} (hf : Ev C ρ (.Name n np) (.val (.builtin "len"))) (h : Ev C ρ e (.bytes b)) (hk : b.length = k) (hz : k < 2 ^ 40) (he : starEach [e] C.env = (false, eval e C.env) :: starEach [] C.env := by rfl) :
    Ev C ρ (.Call (.Name n np) [e] [] p) (.nat k) := by
  subst hk
  exact
  hf.call (.cons h .nil he) fun s vs i hv => ⟨Callable.builtin, by
    obtain ⟨v, rfl, hx⟩ := sats1 hv
    obtain ⟨t, rfl⟩ := of_bytes hx
    exact len_bytes (by simp; omega) (Po.tok i _ sat_int)⟩
/-- an item -/
theorem Ev.item {value slice : Expr} {p : Pos} {d e : D} {ds : List D} {k : Nat} (h : Ev C ρ value d) (hl : Lst d ds) (hi : Ev C ρ slice (.nat k)) (hk : ds[k]? = some e) (hz : ds.length < 2 ^ 40)
    (hs : ∀ a k u, subscripted slice false (.ref a) (.int k u) = operate [.ref a, .int k u] (getItem (.ref a) (.int k u)) := by intros; with_unfolding_all rfl) (hg : ∀ a r, letTemporaryGo value (.ref a) r = pure () := by intros; with_unfolding_all rfl) :
    Ev C ρ (.Subscript value slice p) e := fun s x =>
  Subscript_ (wp_mono (h s x) fun v s1 q1 => wp_mono (hi s1 q1.i) fun i s2 q2 => by
    obtain ⟨t, rfl⟩ := of_int q2.v
    obtain ⟨a, vs, rfl, hL, hss⟩ := hl.in_ (q2.le q1.v)
    obtain ⟨u, hu, hsu⟩ := sats_get hss hk
    have hlt : k < ds.length := (List.getElem?_eq_some_iff.mp hk).1
    have h40 : (2:Nat)^40 = 1099511627776 := by decide
    exact item_listL hL (Int.natCast_nonneg k) (by omega) (by rw [Int.toNat_natCast]; exact hu) ⟨hsu, q2.i, q1.m.trans q2.m⟩ (hs _ _ _) (hg _))
theorem sat_range {a b : Nat} {t u v : Tok} {r : Addr} {h : Heap} (e : h.get? r = some { cls := .type "range", data := .fields #[.int (a : Int) t, .int (b : Int) u, .int 1 v] }) : sat (.range a b) (.ref r) h := by
  unfold sat
  exact ⟨r, _, rfl, e, t, u, v, rfl⟩
theorem Ev.range1 {n : Str} {np p : Pos} {e : Expr} {k : Nat} (hf : Ev C ρ (.Name n np) (.val (.type "range"))) (h : Ev C ρ e (.nat k)) (he : starEach [e] C.env = (false, eval e C.env) :: starEach [] C.env := by rfl) : Ev C ρ (.Call (.Name n np) [e] [] p) (.range 0 k) :=
  hf.call (.cons h .nil he) fun s vs i hv => ⟨Callable.type, by
    obtain ⟨v, rfl, hx⟩ := sats1 hv
    obtain ⟨t, rfl⟩ := of_int hx
    exact call_range_1 ⟨sat_range (hide_new i.lt rfl), (i.push _).tok _, .heap s _ _ (Le.push _ _) (by rw [Heap.size_push]; exact Nat.le_succ _)⟩⟩
theorem Ev.range2 {n : Str} {np p : Pos} {e1 e2 : Expr} {j k : Nat} (hf : Ev C ρ (.Name n np) (.val (.type "range"))) (h1 : Ev C ρ e1 (.nat j)) (h2 : Ev C ρ e2 (.nat k)) (he1 : starEach [e1, e2] C.env = (false, eval e1 C.env) :: starEach [e2] C.env := by rfl)
    (he : starEach [e2] C.env = (false, eval e2 C.env) :: starEach [] C.env := by rfl) : Ev C ρ (.Call (.Name n np) [e1, e2] [] p) (.range j k) :=
  hf.call (.cons h1 (.cons h2 .nil he) he1) fun s vs i hv => ⟨Callable.type, by
    obtain ⟨v, u, rfl, hx, hu⟩ := sats2 hv
    obtain ⟨t, rfl⟩ := of_int hx
    obtain ⟨t', rfl⟩ := of_int hu
    exact call_range_2 ⟨sat_range (hide_new i.lt rfl), (i.push _).tok _, .heap s _ _ (Le.push _ _) (by rw [Heap.size_push]; exact Nat.le_succ _)⟩⟩
/-- displays -/
theorem Ev.tuple {es : List Expr} {k : Nat} {p : Pos} {ds : List D} (h : Evs C ρ es ds) (hz : ds.length ≤ 1000) : Ev C ρ (.Tuple es k p) (.tup ds) := fun s x =>
  wpAny_Tuple (wp_mono (h.2 p s x) fun vs s1 q => ⟨by rw [sats_length q.v]; exact Nat.le_trans hz (by decide), by
    unfold sat
    exact ⟨_, vs, 0, rfl, hide_new q.i.lt rfl, sats_mono (hide_le (w := C.w) q.i.t1 q.i.t2 (Kp.push _ _)) q.v⟩, q.i.push _, q.m.trans (.push _ _)⟩)
theorem Ev.list {es : List Expr} {p : Pos} {ds : List D} (h : Evs C ρ es ds) (hz : ds.length ≤ 1000) : Ev C ρ (.List es p) (.list ds) := fun s x =>
  wpAny_List (wp_mono (h.2 p s x) fun vs s1 q => ⟨by rw [sats_length q.v]; exact Nat.le_trans hz (by decide), by
    unfold sat
    exact ⟨_, vs, rfl, ⟨0, hide_new q.i.lt rfl⟩, sats_mono (hide_le (w := C.w) q.i.t1 q.i.t2 (Kp.push _ _)) q.v⟩, q.i.push _, q.m.trans (.push _ _)⟩)
theorem plain_of {a : Addr} {ds : List D} {v : Value} (x : sat (.list ds) v (C.hid s)) : ∃ a vs n, v = .ref a ∧ s.heap.get? a = some { cls := .type "list", data := .seq vs.toArray n } ∧ sats ds vs (C.hid s) := by
  unfold sat at x
  obtain ⟨a, vs, e, ⟨n, hl⟩, hs⟩ := x
  exact ⟨a, vs, n, e, of_hideAll _ hl, hs⟩
theorem Ev.addL {l r : Expr} {p : Pos} {ds es : List D} (hl : Ev C ρ l (.list ds)) (hr : Ev C ρ r (.list es)) (hz : ds.length + es.length ≤ 1000) : Ev C ρ (.BinOp l .Add r p) (.list (ds ++ es)) :=
  hl.bin hr fun s v u i h1 h2 => by
    obtain ⟨a, vs, n, rfl, ha, h1⟩ := plain_of (a := 0) h1
    obtain ⟨b, us, m, rfl, hb, h2⟩ := plain_of (a := 0) h2
    refine P.add_list ha hb ?_ (by rw [List.size_toArray, List.size_toArray, sats_length h1, sats_length h2]; exact Nat.le_trans hz (by decide))
    refine ⟨?_, i.push _, .push _ _⟩
    have k := hide_le (w := C.w) i.t1 i.t2 (Kp.push s.heap { cls := .type "list", data := .seq (vs.toArray ++ us.toArray) })
    unfold sat
    exact ⟨_, vs ++ us, rfl, ⟨0, by rw [hide_new i.lt rfl]; simp⟩, sats_append (sats_mono k h1) (sats_mono k h2)⟩
theorem Ev.addB {l r : Expr} {p : Pos} {a b : List UInt8} (hl : Ev C ρ l (.bytes a)) (hr : Ev C ρ r (.bytes b)) (hz : a.length + b.length ≤ 1000) : Ev C ρ (.BinOp l .Add r p) (.bytes (a ++ b)) :=
  hl.bin hr fun s v u i h1 h2 => by
    obtain ⟨t, rfl⟩ := of_bytes h1
    obtain ⟨t', rfl⟩ := of_bytes h2
    refine KBy.add_bytes (by simp only [List.size_toArray]; omega) fun t' k => Po.tok i _ ?_
    rw [List.append_toArray]
    exact sat_bytes
theorem Ev.eqB {l r : Expr} {p : Pos} {a b : List UInt8} (hl : Ev C ρ l (.bytes a)) (hr : Ev C ρ r (.bytes b)) (hm : behindInMarks .Eq r = false := by with_unfolding_all rfl) : Ev C ρ (.Compare l [.Eq] [r] p) (.bool (a == b)) :=
  hl.cmp hr (fun s v u i h1 h2 => by
    obtain ⟨t, rfl⟩ := of_bytes h1
    obtain ⟨t', rfl⟩ := of_bytes h2
    exact eq_bytes (Po.now i sat_bool)) hm
theorem Ev.eqI {l r : Expr} {p : Pos} {a b : Int} (hl : Ev C ρ l (.int a)) (hr : Ev C ρ r (.int b)) (hm : behindInMarks .Eq r = false := by with_unfolding_all rfl) : Ev C ρ (.Compare l [.Eq] [r] p) (.bool (a == b)) :=
  hl.cmp hr (fun s v u i h1 h2 => by
    obtain ⟨t, rfl⟩ := of_int h1
    obtain ⟨t', rfl⟩ := of_int h2
    exact eq_int (Po.now i sat_bool)) hm
theorem Tr.bool {e : Expr} {b : Bool} (h : Ev C ρ e (.bool b)) (he : isTrue e C.env (eval e C.env) = (do let v ← eval e C.env; standAt e.pos; holding [v] (truthy v)) := by rfl) : Tr C ρ e b :=
  .value h (fun s v x hv => by rw [of_bool hv]; exact wpAny_truthy_bool ⟨rfl, x, .refl s⟩) he
theorem Tr.inL {l r : Expr} {p : Pos} {k : Int} {d : D} {ns : List Int} (hl : Ev C ρ l (.int k)) (hr : Ev C ρ r d) (hd : Lst d (ns.map .int)) (hm : behindInMarks .In r = false := by with_unfolding_all rfl) : Tr C ρ (.Compare l [.In] [r] p) (ns.any (· == k)) :=
  .cmp hl hr (fun s v u i h1 h2 => by
    obtain ⟨t, rfl⟩ := of_int h1
    obtain ⟨a, vs, rfl, hL, hs⟩ := hd.in_ h2
    exact in_list_ints hL (ints_of_sats hs) (Po.now i sat_bool)) hm
theorem cut_tail {value slice : Expr} {b c : List UInt8} {t : Tok} {l u : Value} {lo hi : Option Int} {s0 : Shared} (i : C.I ρ s) (m : Mv C.w s0 s) (hl : IsPart l lo) (hu : IsPart u hi) (hz : b.length ≤ 1000)
    (hc : (b.drop (lo.elim 0 (clipAt b.length))).take (hi.elim b.length (clipAt b.length) - lo.elim 0 (clipAt b.length)) = c)
    (hs : ∀ b t r, subscripted slice false (.bytes b t) (.ref r) = operate [.ref r, .bytes b t] (getItem (.bytes b t) (.ref r))) (hg : ∀ b t r, letTemporaryGo value (.bytes b t) r = pure ()) :
    wpAny C.M C.A (subscriptTail value slice (.bytes b.toArray t) (.ref s.heap.objs.size)) (Po C ρ (.bytes c) s0) NoE { s with heap := s.heap.push { cls := .type "slice", data := .fields #[l, u, .none] } } := by
  have e : KBy.picked b.toArray lo hi = c.toArray := by rw [KBc.picked_eq]; simp only [List.size_toArray]; rw [hc]
  refine tail_of_ItemOn ⟨"bytes", _, FB.slot_bytes_getitem.lookup, typeIs_bytes _ _ _, getItem_meets (typeIs_bytes _ _ _) (by decide) FB.slot_bytes_getitem FB.entry_bytes_getitem (FB.args_bytes_getitem_2 _ _) (KBc.meets_slice2 b.toArray t _ hl hu)
    ⟨Heap.IsSliceOf.new _ _ _ _, Nat.le_trans (KBc.size_picked_le _ lo hi) (by rw [List.size_toArray]; exact Nat.le_trans hz (by decide)), fun t' k => ?_⟩⟩ (hs _ _ _) (hg _ _)
  rw [e]
  exact ⟨sat_bytes, (i.push _).tok _, m.trans (.heap s _ _ (Le.push _ _) (by rw [Heap.size_push]; exact Nat.le_succ _))⟩
theorem Ev.dropB {value lower : Expr} {sp p : Pos} {b c : List UInt8} {k : Nat} (h : Ev C ρ value (.bytes b)) (hk : Ev C ρ lower (.nat k)) (hz : b.length ≤ 1000) (hc : b.drop k = c)
    (hs : ∀ b t r, subscripted (.Slice (some lower) none none sp) false (.bytes b t) (.ref r) = operate [.ref r, .bytes b t] (getItem (.bytes b t) (.ref r)) := by intros; with_unfolding_all rfl) (hg : ∀ b t r, letTemporaryGo value (.bytes b t) r = pure () := by intros; with_unfolding_all rfl) :
    Ev C ρ (.Subscript value (.Slice (some lower) none none sp) p) (.bytes c) := fun s x =>
  Subscript_ (wp_mono (h s x) fun v s1 q1 => by
    obtain ⟨t, rfl⟩ := of_bytes q1.v
    refine wpAny_Slice (wp_mono (hk s1 q1.i) fun i s2 q2 => wpAny_pure (wpAny_pure ?_))
    obtain ⟨t', rfl⟩ := of_int q2.v
    refine cut_tail q2.i (q1.m.trans q2.m) (.int _ _) .none hz ?_ hs hg
    show (b.drop (clipAt b.length k)).take (b.length - clipAt b.length k) = c
    rw [clipAt_nat, ← hc]
    by_cases q : k ≤ b.length
    · rw [Nat.min_eq_left q]; exact List.take_of_length_le (by simp)
    · rw [Nat.min_eq_right (by omega), List.drop_of_length_le (Nat.le_refl _), List.drop_of_length_le (by omega)]; simp)
theorem Ev.takeB {value upper : Expr} {sp p : Pos} {b c : List UInt8} {k : Nat} (h : Ev C ρ value (.bytes b)) (hk : Ev C ρ upper (.nat k)) (hz : b.length ≤ 1000) (hc : b.take k = c)
    (hs : ∀ b t r, subscripted (.Slice none (some upper) none sp) false (.bytes b t) (.ref r) = operate [.ref r, .bytes b t] (getItem (.bytes b t) (.ref r)) := by intros; with_unfolding_all rfl) (hg : ∀ b t r, letTemporaryGo value (.bytes b t) r = pure () := by intros; with_unfolding_all rfl) :
    Ev C ρ (.Subscript value (.Slice none (some upper) none sp) p) (.bytes c) := fun s x =>
  Subscript_ (wp_mono (h s x) fun v s1 q1 => by
    obtain ⟨t, rfl⟩ := of_bytes q1.v
    refine wpAny_Slice (wpAny_pure (wp_mono (hk s1 q1.i) fun i s2 q2 => wpAny_pure ?_))
    obtain ⟨t', rfl⟩ := of_int q2.v
    refine cut_tail q2.i (q1.m.trans q2.m) .none (.int _ _) hz ?_ hs hg
    show (b.drop 0).take (clipAt b.length k - 0) = c
    rw [clipAt_nat, ← hc, List.drop_zero, Nat.sub_zero]
    by_cases q : k ≤ b.length
    · rw [Nat.min_eq_left q]
    · rw [Nat.min_eq_right (by omega), List.take_of_length_le (Nat.le_refl _), List.take_of_length_le (by omega)])
/-- a method of a builtin value, that changes nothing of what stood -/
theorem Ev.method {o : Expr} {name : Str} {apos p : Pos} {args : List Expr} {T id : String} {d0 d : D} {ds : List D} (ho : Ev C ρ o d0) (hs : Evs C ρ args ds) (pa : PlainAttrs T) (slot : Slot T name id) (hty : typeOf (.builtin id) = pure (.type "method_descriptor"))
    (hT : ∀ s v, sat d0 v (C.hid s) → s.TypeIs v T ∧ ∀ a, v = .ref a → ∃ ob, s.heap.get? a = some ob ∧ ob.dict = none)
    (hc : ∀ s v vs, C.I ρ s → sat d0 v (C.hid s) → sats ds vs (C.hid s) → wpAny C.M C.A (PySem.call (.builtin id) (v :: vs)) (Po C ρ d s) NoE s)
    (hbase : attributeBase o name C.env (eval o C.env) = eval o C.env := by rfl)
    (hfew : ((backTo p (starEach args C.env)).all (fun x => !x.1) && (backToKw p (keywordEach [] C.env)).all (fun x => x.1.isSome) && decide (args.length + ([] : List Keyword).length + (if ([] : List Keyword).isEmpty then 0 else 1) < 30)) = true := by rfl)
    (hline : (apos.endLine == p.line) = true := by rfl) : Ev C ρ (.Call (.Attribute o name apos) args [] p) d := fun s x =>
  wpAny_Call_method hbase hfew hline pa slot hty (wp_mono (ho s x) fun v s1 q1 => ⟨(hT s1 v q1.v).1, (hT s1 v q1.v).2, call_args (first := [v]) hs q1.i fun vs s2 q2 => ⟨Callable.builtin, by
    have hv := sat_mono (hide_le q2.i.t1 q2.i.t2 q2.m.kp) q1.v
    exact wp_mono (hc s2 v vs q2.i hv q2.v) fun r s3 q3 => ⟨q3.v, q3.i, (q1.m.trans q2.m).trans q3.m⟩⟩⟩)
end
end Mine

-- L15
namespace Mine
/-- the last k octets of x, the highest first -/
noncomputable def oct (k x : Nat) : List UInt8 := ((List.range k).map fun i => UInt8.ofNat (x / 256 ^ i % 256)).reverse
theorem oct_length (k x : Nat) : (oct k x).length = k := by simp [oct]
theorem oct_of {b : Array UInt8} {k x : Nat} (h : KBw.bInts b = (KTBy.little k (x : Int)).reverse) : b = (oct k x).toArray := by
  have e : b.toList = (KBw.bInts b).map fun n => UInt8.ofNat n.toNat := by
    unfold KBw.bInts
    rw [List.map_map]
    have : ((fun n : Int => UInt8.ofNat n.toNat) ∘ fun c : UInt8 => ((c.toNat : Nat) : Int)) = id := by
      funext c
      simp
    rw [this, List.map_id]
  apply Array.toList_inj.mp
  rw [e, h, KTBy.little_eq]
  unfold oct
  rw [List.map_reverse, List.map_map]
  refine congrArg List.reverse (List.map_congr_left fun i _ => ?_)
  show UInt8.ofNat (((x : Int) / 256 ^ i % 256).toNat) = _
  rw [show ((x : Int) / 256 ^ i % 256) = ((x / 256 ^ i % 256 : Nat) : Int) by simp, Int.toNat_natCast]

noncomputable abbrev intsP (ns : List Int) (o : Obj) : Prop := ∃ vs n, IntsAre vs ns ∧ o = { cls := .type "list", data := .seq vs.toArray n }
section
variable {C : Cx} {ρ : List (Str × D)} {s : Shared}
theorem Ev.max {n : Str} {np p : Pos} {e1 e2 : Expr} {j k : Nat} (hh : C.A.handled = none) (hf : Ev C ρ (.Name n np) (.val (.builtin "max"))) (h1 : Ev C ρ e1 (.nat j)) (h2 : Ev C ρ e2 (.nat k)) (he1 : starEach [e1, e2] C.env = (false, eval e1 C.env) :: starEach [e2] C.env := by rfl)
    (he : starEach [e2] C.env = (false, eval e2 C.env) :: starEach [] C.env := by rfl) : Ev C ρ (.Call (.Name n np) [e1, e2] [] p) (.nat (max j k)) :=
  hf.call (.cons h1 (.cons h2 .nil he) he1) fun s vs i hv => ⟨Callable.builtin, by
    obtain ⟨v, u, rfl, hx, hu⟩ := sats2 hv
    obtain ⟨t, rfl⟩ := of_int hx
    obtain ⟨t', rfl⟩ := of_int hu
    refine wp_mono (wpAny_sz (max_two_ints (Q := fun r s' => (r = if (k : Int) > (j : Int) then .int (k : Int) t' else .int (j : Int) t) ∧ ∃ h' tk, (∀ c o, s.heap.get? c = some o → h'.get? c = some o) ∧ s' = { s with heap := h', toks := tk }) hh fun h' tk hk => ⟨rfl, h', tk, hk, rfl⟩)) fun r s' q => ?_
    obtain ⟨hz, rfl, h', tk, hk, rfl⟩ := q
    refine ⟨?_, i.keep hk hz, .heap s _ _ hk hz⟩
    by_cases q : k > j
    · rw [if_pos (by omega), Nat.max_eq_right (Nat.le_of_lt q)]; exact sat_int
    · rw [if_neg (by omega), Nat.max_eq_left (by omega)]; exact sat_int⟩
theorem Ev.toBytes {o a : Expr} {nm big : Str} {kd : Nat} {bp apos p : Pos} {x k : Nat} (ho : Ev C ρ o (.nat x)) (ha : Ev C ρ a (.nat k)) (hk : k ≤ 8) (hx : x < 256 ^ k) (hn : nm = "to_bytes" := by rfl) (hb : big = Str.ofString "big" := by rfl)
    (he1 : starEach [a, .Constant (.str big) kd bp] C.env = (false, eval a C.env) :: starEach [.Constant (.str big) kd bp] C.env := by rfl)
    (hbase : attributeBase o nm C.env (eval o C.env) = eval o C.env := by rfl) (hline : (apos.endLine == p.line) = true := by rfl)
    (hfew : ((backTo p (starEach [a, .Constant (.str big) kd bp] C.env)).all (fun x => !x.1) && (backToKw p (keywordEach [] C.env)).all (fun x => x.1.isSome) && decide ([a, .Constant (.str big) kd bp].length + ([] : List Keyword).length + (if ([] : List Keyword).isEmpty then 0 else 1) < 30)) = true := by rfl) :
    Ev C ρ (.Call (.Attribute o nm apos) [a, .Constant (.str big) kd bp] [] p) (.bytes (oct k x)) := by
  subst hn hb
  have hstr : Ev C ρ (.Constant (.str (Str.ofString "big")) kd bp) (.str (Str.ofString "big")) := fun s i => wpAny_Constant_str (Po.tok i _ (by unfold sat; exact ⟨_, rfl⟩))
  refine ho.method (.cons ha (.cons hstr .nil) he1) F.plainAttrs_int KTBy.slot KTBy.type_eq (fun s v hv => ?_) (fun s v vs i hv hvs => ?_) hbase hfew hline
  · obtain ⟨t, rfl⟩ := of_int hv
    exact ⟨typeIs_int s _ t, fun a e => (nomatch e)⟩
  · obtain ⟨t, rfl⟩ := of_int hv
    obtain ⟨u, z, rfl, hu, hz⟩ := sats2 hvs
    obtain ⟨t', rfl⟩ := of_int hu
    unfold sat at hz
    obtain ⟨t'', rfl⟩ := hz
    refine KTBy.to_big (B := ((256 ^ k : Nat) : Int)) hk (KTBy.p256 k) (Int.natCast_nonneg x) (by omega) fun b t' k' hb _ => ?_
    rw [oct_of hb]
    exact Po.tok i _ sat_bytes
end
end Mine

-- L16
namespace Mine
section
variable {C : Cx} {ρ : List (Str × D)} {s : Shared}
structure PoI (C : Cx) (ρ : List (Str × D)) (P : Obj → Prop) (s : Shared) (v : Value) (s' : Shared) : Prop where
  n : ∃ a o, v = .ref a ∧ s.heap.objs.size ≤ a ∧ s'.heap.get? a = some o ∧ P o
  i : C.I ρ s'
  m : Mv C.w s s'
/-- an expression that makes a new object -/
noncomputable def EvN (C : Cx) (ρ : List (Str × D)) (e : Expr) (P : Obj → Prop) : Prop := ∀ s, C.I ρ s → wpAny C.M C.A (eval e C.env) (PoI C ρ P s) NoE s
theorem EvN.ev {e : Expr} {ns : List Int} (h : EvN C ρ e (intsP ns)) : Ev C ρ e (.list (ns.map .int)) := fun s x => wp_mono (h s x) fun v s' q => by
  obtain ⟨a, o, rfl, ha, ho, vs, n, hi, rfl⟩ := q.n
  refine ⟨?_, q.i, q.m⟩
  unfold sat
  exact ⟨a, vs, rfl, ⟨n, hideAll_get _ ho fun hm => Nat.lt_irrefl _ (Nat.lt_of_lt_of_le (x.lt a hm) ha)⟩, sats_of_ints hi⟩
theorem EvN.nil {p : Pos} : EvN C ρ (.List [] p) (intsP []) := fun s x =>
  wpAny_List ((Evs.nil (C := C) (ρ := ρ)).2 p s x |> fun h => wp_mono h fun vs s1 q => ⟨by rw [sats_length q.v]; exact Nat.zero_le _, by
    have hv := q.v
    unfold sats at hv
    subst hv
    exact ⟨⟨_, _, rfl, q.m.kp.size, Heap.get?_push_size _ rfl, [], 0, .nil, rfl⟩, q.i.push _, q.m.trans (.push _ _)⟩⟩)
theorem ints_get (vs : List Value) (ns : List Int) (hl : vs.length = ns.length) (H : ∀ (j : Nat) v k, vs[j]? = some v → ns[j]? = some k → ∃ t, v = Value.int k t) : IntsAre vs ns := by
  induction vs generalizing ns with
  | nil => cases ns with
    | nil => exact .nil
    | cons => cases hl
  | cons v vs ih => cases ns with
    | nil => cases hl
    | cons k ns =>
      obtain ⟨t, rfl⟩ := H 0 v k rfl rfl
      exact .cons k t (ih ns (by simpa using hl) fun j v k a b => H (j + 1) v k (by simpa using a) (by simpa using b))
noncomputable def rngI (a n : Nat) : List Int := (List.range n).map fun i => ((a + i : Nat) : Int)
theorem rngI_D (a n : Nat) : (rngI a n).map D.int = rngD a n := by simp [rngI, rngD]
theorem EvN.range {n : Str} {np p : Pos} {e : Expr} {a b : Nat} (hh : C.A.handled = none) (hf : Ev C ρ (.Name n np) (.val (.type "list"))) (h : Ev C ρ e (.range a b)) (hab : a ≤ b) (hb : b ≤ 1000) (he : starEach [e] C.env = (false, eval e C.env) :: starEach [] C.env := by rfl) :
    EvN C ρ (.Call (.Name n np) [e] [] p) (intsP (rngI a (b - a))) := fun s x =>
  wpAny_Call_ofName (wp_mono (hf s x) fun v s1 p1 => by
    have := of_val p1.v
    subst this
    refine call_args (first := []) (.cons h .nil he) p1.i fun vs s2 p2 => ⟨Callable.type, ?_⟩
    obtain ⟨r, rfl, hr⟩ := sats1 p2.v
    unfold sat at hr
    obtain ⟨r, o, rfl, ho, t, u, w, rfl⟩ := hr
    have e62 : (2 : Int) ^ 62 = 4611686018427387904 := by decide
    refine wp_mono (wpAny_sz (call_list_range (Q := fun v s' => ∃ h' tk acc' c', (∀ b o, s2.heap.get? b = some o → h'.get? b = some o) ∧ h'.get? s2.heap.objs.size = some { cls := .type "list", dict := none, data := .seq acc' c', slots := #[] } ∧
        ItemsOf (fun i v => ∃ t, v = .int ((a : Int) + i * 1) t) acc' (b - a) ∧ v = .ref s2.heap.objs.size ∧ s' = { s2 with heap := h', toks := tk }) hh (of_hideAll _ ho) (small_one (by omega) (by omega) (by omega) (by omega))
      (by rw [rangeSize_one]; split <;> omega) (by have : (2:Nat)^24 = 16777216 := by decide
                                                   omega) fun h' tk acc' c' k g it => ⟨h', tk, acc', c', k, g, it, rfl, rfl⟩)) fun v s3 q => ?_
    obtain ⟨hz, h', tk, acc', c', k, g, it, rfl, rfl⟩ := q
    have m : Mv C.w s2 { s2 with heap := h', toks := tk } := .heap s2 h' tk k hz
    refine ⟨⟨_, _, rfl, Nat.le_trans p1.m.kp.size p2.m.kp.size, g, acc'.toList, c', ints_get _ _ ?_ fun j v k hv hk => ?_, by simp⟩, p2.i.keep k hz, (p1.m.trans p2.m).trans m⟩
    · simp [rngI, it.1]
    · obtain ⟨t, e⟩ := it.2 j v (by simpa using hv)
      refine ⟨t, ?_⟩
      rw [e]
      unfold rngI at hk
      rw [List.getElem?_map] at hk
      obtain ⟨i, hi, rfl⟩ := Option.map_eq_some_iff.mp hk
      have hj : j < b - a := by have := (List.getElem?_eq_some_iff.mp hi).1; simpa using this
      rw [List.getElem?_range hj] at hi
      cases hi
      rw [Int.mul_one, Int.natCast_add])
theorem Bk.own {n : Str} {np p : Pos} {e : Expr} {P : Obj → Prop} {rest : List Stmt} {Q : Flow → Shared → Prop} (h : EvN C ρ e P) (hc : canStore C.w.t C.env n = true)
    (hr : ∀ a, Bk (C.like (a :: C.X) C.F ((a, P) :: C.O)) ((n, .val (.ref a)) :: ρ) rest Q) (hs : swapsWith e (some (.Name n np)) p.line C.env = pure false := by rfl) : Bk C ρ (.Assign [.Name n np] e p :: rest) Q := fun s x =>
  wpAny_execs_cons (wpAny_Assign_Name (wp_mono (h s x) fun v s1 q => by
    obtain ⟨a, o, rfl, ha, ho, hP⟩ := q.n
    exact store_var (x.mine q.m q.i.tb ha ho hP) hc sat_val fun s' i => hr a s' i) hs)

theorem callWith1 {M : Model} {A : Around} {f self : Value} {y : Sem Value} {p : Pos} {Q : Value → Shared → Prop} (h : wpAny M A y (fun v s' => Callable M f s'.heap ∧ wpAny M A (call f [self, v]) Q NoE s') NoE s) : wpAny M A (callWith p f [self] [(false, y)] []) Q NoE s :=
  callWith_of (P := fun h => Callable M f h) rfl (fun _ x => x) (evalArgs_plain (spliced_cons (wp_mono h fun _ _ h1 => spliced_nil h1)))
theorem intsAre_append {vs us : List Value} {ns ms : List Int} (h : IntsAre vs ns) (k : IntsAre us ms) : IntsAre (vs ++ us) (ns ++ ms) := by
  induction h with
  | nil => exact k
  | cons n t _ ih => exact .cons n t ih
theorem intsAre_erase {vs : List Value} {ns : List Int} (h : IntsAre vs ns) : ∀ k, IntsAre (vs.eraseIdx k) (ns.eraseIdx k) := by
  induction h with
  | nil => exact fun _ => .nil
  | cons n t r ih => intro k; cases k with
    | zero => exact r
    | succ k => exact .cons n t (ih k)
theorem intsAre_at {vs : List Value} {ns : List Int} (h : IntsAre vs ns) {k : Nat} {y : Int} (e : ns[k]? = some y) : ∃ t, vs[k]? = some (.int y t) := by
  induction h generalizing k with
  | nil => cases e
  | cons n t r ih => cases k with
    | zero => cases e; exact ⟨t, rfl⟩
    | succ k => exact ih (by simpa using e)
/-- .append on an own list of ints -/
theorem own_append {n : Str} {np ap p : Pos} {nm : Str} {e : Expr} {a : Addr} {ns : List Int} {y : Int} {O1 O2 O1' O2' : Own} {Q : Value → Shared → Prop} (hn : nm = "append" := by rfl)
    (hr : Has ρ n (.val (.ref a))) (hv : isVar C.env n = true) (hO : C.O = O1 ++ (a, intsP ns) :: O2) (hz : ns.length ≤ 1000)
    (he : ∀ s, C.I ρ s → wpAny C.M C.A (eval e C.env) (fun v s' => (∃ t, v = .int y t) ∧ (C.like C.X C.F (O1' ++ (a, intsP ns) :: O2')).I ρ s') NoE s)
    (hQ : ∀ s', (C.like C.X C.F (O1' ++ (a, intsP (ns ++ [y])) :: O2')).I ρ s' → Q .none s')
    (hs : backTo p (starEach [e] C.env) = [(false, eval e C.env)] := by rfl) (hbase : attributeBase (.Name n np) nm C.env (eval (.Name n np) C.env) = eval (.Name n np) C.env := by rfl) (hline : (ap.endLine == p.line) = true := by rfl)
    (hfew : ((backTo p (starEach [e] C.env)).all (fun x => !x.1) && (backToKw p (keywordEach [] C.env)).all (fun x => x.1.isSome) && decide ([e].length + ([] : List Keyword).length + (if ([] : List Keyword).isEmpty then 0 else 1) < 30)) = true := by rfl) (x : C.I ρ s) :
    wpAny C.M C.A (eval (.Call (.Attribute (.Name n np) nm ap) [e] [] p) C.env) Q NoE s := by
  subst hn
  refine wpAny_Call_method hbase hfew hline F.plainAttrs_list F.slot_list_append F.type_list_append (wp_mono ((Ev.var hr hv) s x) fun v s1 q => ?_)
  have := of_val q.v
  subst this
  obtain ⟨⟨o, ho, vs, m, hi, rfl⟩, _⟩ := q.i.ow (a, intsP ns) (by rw [hO]; exact List.mem_append_right _ (.head _))
  refine ⟨⟨_, ho, rfl⟩, fun b e => by cases e; exact ⟨_, ho, rfl⟩, ?_⟩
  rw [hs]
  refine callWith1 (wp_mono (he s1 q.i) fun v s2 y2 => ⟨Callable.builtin, ?_⟩)
  obtain ⟨⟨t, rfl⟩, j⟩ := y2
  obtain ⟨⟨o, ho, vs, m, hi, rfl⟩, _⟩ := j.ow (a, intsP ns) (List.mem_append_right _ (.head _))
  refine wpAny_list_append_plain ⟨m, ho⟩ (fun h' hl' hs' => hQ _ ?_) (by rw [List.size_toArray, hi.length]; exact Nat.le_trans hz (by decide))
  obtain ⟨m', ho'⟩ := hl'
  exact In.turn (t := s2.toks) j hs' ho' ⟨vs ++ [.int y t], m', intsAre_append hi (.cons y t .nil), by simp⟩
/-- .pop(i) on an own list of ints -/
theorem own_pop {n : Str} {np ap p : Pos} {nm : Str} {e : Expr} {a : Addr} {ns : List Int} {y : Int} {k : Nat} {O1 O2 : Own} (hn : nm = "pop" := by rfl)
    (hr : Has ρ n (.val (.ref a))) (hv : isVar C.env n = true) (hO : C.O = O1 ++ (a, intsP ns) :: O2) (hz : ns.length ≤ 1000) (he : Ev C ρ e (.nat k)) (hk : ns[k]? = some y)
    (hs : backTo p (starEach [e] C.env) = [(false, eval e C.env)] := by rfl) (hbase : attributeBase (.Name n np) nm C.env (eval (.Name n np) C.env) = eval (.Name n np) C.env := by rfl) (hline : (ap.endLine == p.line) = true := by rfl)
    (hfew : ((backTo p (starEach [e] C.env)).all (fun x => !x.1) && (backToKw p (keywordEach [] C.env)).all (fun x => x.1.isSome) && decide ([e].length + ([] : List Keyword).length + (if ([] : List Keyword).isEmpty then 0 else 1) < 30)) = true := by rfl) (x : C.I ρ s) :
    wpAny C.M C.A (eval (.Call (.Attribute (.Name n np) nm ap) [e] [] p) C.env) (fun v s' => (∃ t, v = .int y t) ∧ (C.like C.X C.F (O1 ++ (a, intsP (ns.eraseIdx k)) :: O2)).I ρ s') NoE s := by
  subst hn
  refine wpAny_Call_method hbase hfew hline F.plainAttrs_list F.slot_list_pop F.type_list_pop (wp_mono ((Ev.var hr hv) s x) fun v s1 q => ?_)
  have := of_val q.v
  subst this
  have hm : (a, intsP ns) ∈ C.O := by rw [hO]; exact List.mem_append_right _ (.head _)
  obtain ⟨⟨o, ho, vs, m, hi, rfl⟩, _⟩ := q.i.ow _ hm
  refine ⟨⟨_, ho, rfl⟩, fun b e => by cases e; exact ⟨_, ho, rfl⟩, ?_⟩
  rw [hs]
  refine seqMethod1_meets F.slot_list_pop F.entry_list_pop (wp_mono (he s1 q.i) fun i s2 q2 => ?_)
  obtain ⟨t, rfl⟩ := of_int q2.v
  obtain ⟨⟨o, ho, vs, m, hi, rfl⟩, _⟩ := q2.i.ow _ hm
  obtain ⟨u, hu⟩ := intsAre_at hi hk
  have hlt : k < ns.length := (List.getElem?_eq_some_iff.mp hk).1
  have hlen : vs.length = ns.length := hi.length
  have hfit : Builtin.List.listFitsIndex (k : Int) = true := by
    unfold Builtin.List.listFitsIndex
    simp only [Bool.and_eq_true, decide_eq_true_eq]
    omega
  have hidx : seqIndex? (k : Int) vs.toArray.size = some k := by
    unfold seqIndex?
    have h1 : ¬ ((k : Int) < 0) := by omega
    simp [h1, hlen, hlt]
  have hu' : vs.toArray[k]? = some (.int y u) := by rw [List.getElem?_toArray]; exact hu
  have hz' : vs.toArray.size ≤ sizeLine := by rw [List.size_toArray, hlen]; exact Nat.le_trans hz (by decide)
  have g := @MeetsSeq.list_pop_at a vs.toArray m (k : Int) t k (.int y u) hfit hidx hu' hz'
  refine ⟨⟨_, ho, rfl⟩, F.args_list_pop_2 _ _, _, @g, ho, ?_⟩
  show (∃ t, Value.int y u = .int y t) ∧ _
  refine ⟨⟨u, rfl⟩, ?_⟩
  have i2 := q2.i
  show In C.w C.env C.X C.F _ C.s0 ρ _
  have i3 : In C.w C.env C.X C.F (O1 ++ (a, intsP ns) :: O2) C.s0 ρ s2 := hO ▸ i2
  have e : vs.toArray.eraseIdxIfInBounds k = (vs.eraseIdx k).toArray := by simp
  have u' := IsL.update ho (fun xs => xs.eraseIdxIfInBounds k)
  unfold IsL at u'
  dsimp only at u'
  rw [e] at u'
  exact In.turn (t := s2.toks) i3 (Heap.SameBut.update ..) u' ⟨vs.eraseIdx k, _, intsAre_erase hi k, rfl⟩
end
end Mine

-- M1
namespace Mine
theorem inverse_fn (w : Wo) : FnObj w 208 (fnAt w 208) (bodyOf (fnAt w 208)) := ⟨by kernel_rfl, by kernel_rfl, by kernel_rfl, by kernel_rfl, by kernel_rfl, by kernel_rfl, by kernel_rfl, by kernel_rfl, ⟨207, codeVs w 207, 983, by kernel_rfl, by kernel_rfl, by kernel_rfl⟩⟩
theorem reach_fn (w : Wo) : FnObj w 215 (fnAt w 215) (bodyOf (fnAt w 215)) := ⟨by kernel_rfl, by kernel_rfl, by kernel_rfl, by kernel_rfl, by kernel_rfl, by kernel_rfl, by kernel_rfl, by kernel_rfl, ⟨214, codeVs w 214, 992, by kernel_rfl, by kernel_rfl, by kernel_rfl⟩⟩
theorem curve_fn (w : Wo) : FnObj w 222 (fnAt w 222) (bodyOf (fnAt w 222)) := ⟨by kernel_rfl, by kernel_rfl, by kernel_rfl, by kernel_rfl, by kernel_rfl, by kernel_rfl, by kernel_rfl, by kernel_rfl, ⟨221, codeVs w 221, 1002, by kernel_rfl, by kernel_rfl, by kernel_rfl⟩⟩

theorem timesG_lt : ∀ (f l t : Nat), l < 2 ^ 64 → t < 2 ^ 64 → timesG f l t < 2 ^ 64 := by
  intro f
  induction f using Nat.strongRecOn with
  | ind f ih =>
    intro l t hl ht
    by_cases h : f = 0
    · subst h; rw [timesG_0]; exact ht
    · rw [timesG_s h]
      refine ih _ (by omega) _ _ (dbl_lt hl) ?_
      split
      · exact ht
      · exact Nat.xor_lt_two_pow ht hl
theorem times_lt {l f : Nat} (h : l < 2 ^ 64) : times l f < 2 ^ 64 := timesG_lt _ _ _ h (by decide)

noncomputable def numI (ns : List Int) (p : Nat) : Int := ns.getD (p % ns.length) 0 + 7 * (p : Int)
theorem number_Fn (w : Wo) (prog : Program) (ns : List Int) (p : Nat) (hz : ns.length < 2 ^ 40) : Fn w prog 1 (.ref 187) [.scr ns, .nat p] (.int (numI ns p)) :=
  .of (names := ["script", "place"]) (number_fn w) rfl (bind2 (by intros; kernel_rfl)) (by kernel_rfl) (by kernel_rfl) fun A X s L R => by
    have hlen : (ns.map D.int).length = ns.length := List.length_map ..
    refine .ret_fn (.add (.ite (d := .int (ns.getD (p % ns.length) 0)) (.list (.var (d := .scr ns) (by kernel_rfl) (by kernel_rfl)) (.scr ns) (by rw [hlen]; exact Nat.lt_trans hz (by decide))) (fun hc => ?_) fun hc => ?_) (.mul .int (.var (d := .nat p) (by kernel_rfl) (by kernel_rfl)) (.of_left (by decide))))
    · have hpos : 0 < ns.length := by cases ns with
        | nil => cases hc
        | cons => exact Nat.succ_pos _
      have hlt := Nat.mod_lt p hpos
      refine .item (k := p % ns.length) (.var (d := .scr ns) (by kernel_rfl) (by kernel_rfl)) (.scr ns) (.modN (.var (d := .nat p) (by kernel_rfl) (by kernel_rfl)) ?_ hpos) ?_ (by rw [hlen]; exact hz)
      · exact .len (.blt (by kernel_rfl) (by kernel_rfl) boot_len (by decide)) (.var (d := .scr ns) (by kernel_rfl) (by kernel_rfl)) (.scr ns) hlen hz
      · rw [List.getElem?_map, List.getElem?_eq_getElem hlt, List.getD_eq_getElem?_getD, List.getElem?_eq_getElem hlt]; rfl
    · have : ns = [] := by cases ns with
        | nil => rfl
        | cons => cases hc
      subst this
      exact .int
theorem bits256 : Builtin.Int.intBits ((256 : Nat) : Int) = 9 := by decide
/-- 256 ** size -/
theorem Ev.p256 {C : Cx} {ρ : List (Str × D)} {e b : Expr} {p : Pos} {k : Nat} (hb : Ev C ρ b (.nat 256)) (h : Ev C ρ e (.nat k)) (hk : k ≤ 8) : Ev C ρ (.BinOp b .Pow e p) (.nat (256 ^ k)) :=
  hb.powN h (by rw [bits256]; have : (2:Int)^27 = 134217728 := by decide
                omega)
theorem octets_Fn (w : Wo) (prog : Program) (x k : Nat) (hk : k ≤ 8) : Fn w prog 1 (.ref 194) [.nat x, .nat k] (.bytes (oct k (x % 256 ^ k))) :=
  .of (names := ["number", "size"]) (octets_fn w) rfl (bind2 (by intros; kernel_rfl)) (by kernel_rfl) (by kernel_rfl) fun A X s L R => by
    have hp : 0 < 256 ^ k := Nat.pow_pos (by decide)
    exact .ret_fn (.toBytes (.modN (.var (d := .nat x) (by kernel_rfl) (by kernel_rfl)) (.p256 (.natLit rfl) (.var (d := .nat k) (by kernel_rfl) (by kernel_rfl)) hk) hp) (.var (d := .nat k) (by kernel_rfl) (by kernel_rfl)) hk (Nat.mod_lt _ hp))
noncomputable def invS : Nat → Nat → Nat → Nat
  | 0, _, t => t
  | n + 1, o, t => invS n (times o o) (times t (times o o))
noncomputable def inverse (o : Nat) : Nat := invS 7 o 1
theorem inverse_Fn (w : Wo) (prog : Program) (o : Nat) (ho : o < 2 ^ 64) : Fn w prog 3 (.ref 208) [.nat o] (.nat (inverse o)) :=
  .of (names := ["octet"]) (inverse_fn w) rfl (bind1 (by intros; kernel_rfl)) (by kernel_rfl) (by kernel_rfl) fun A X s L R => by
    refine .cons (.assign (.natLit (n := 1) rfl) (by kernel_rfl)) ?_
    refine .for_ (.range1 (k := 7) (.blt (by kernel_rfl) (by kernel_rfl) PyProof.Rows.boot_range (by decide)) (.natLit rfl)) (.range (a := 0) (b := 7) R.fn.hd (by decide) (by decide)) (by kernel_rfl)
      (fun i ρ => ∃ a b, Has ρ "octet" (.nat a) ∧ Has ρ "total" (.nat b) ∧ a < 2 ^ 64 ∧ b < 2 ^ 64 ∧ invS (7 - i) a b = inverse o) ⟨o, 1, by kernel_rfl, by kernel_rfl, ho, by decide, rfl⟩ (fun i d ρ X F O hd hI => ?_) fun ρ hI => ?_
    · obtain ⟨a, b, h1, h2, ha, hb, he⟩ := hI
      obtain ⟨hi, rfl⟩ := rngD_get hd
      have e7 : 7 - i = (7 - (i + 1)) + 1 := by omega
      rw [e7] at he
      refine .cons (.assign (.call_fn (.globV (by kernel_rfl) (by kernel_rfl)) (.cons (.var (lk (by kernel_rfl) h1) (by kernel_rfl)) (.cons (.var (lk (by kernel_rfl) h1) (by kernel_rfl)) .nil)) (times_Fn w prog a a ha) (R.deeper _) fun s x => fnCallable (times_fn w) x.base) (by kernel_rfl)) ?_
      refine .cons (.assign (.call_fn (.globV (by kernel_rfl) (by kernel_rfl)) (.cons (.var (lk (by kernel_rfl) (lk (by kernel_rfl) h2)) (by kernel_rfl)) (.cons (.var lk0 (by kernel_rfl)) .nil)) (times_Fn w prog b (times a a) hb) (R.deeper _) fun s x => fnCallable (times_fn w) x.base) (by kernel_rfl)) ?_
      exact .nil fun s x => ⟨rfl, _, ⟨times a a, times b (times a a), lk (by kernel_rfl) lk0, lk0, times_lt ha, times_lt hb, he⟩, x⟩
    · obtain ⟨a, b, h1, h2, ha, hb, he⟩ := hI
      have e0 : b = inverse o := by rw [rngD_len] at he; exact he
      rw [← e0]
      exact .ret_fn (.var h2 (by kernel_rfl))
noncomputable def nats (ks : List Nat) : List D := ks.map .nat
noncomputable def reach (x : Nat) (ks : List Nat) : Nat := ks.foldl (fun t p => times t (x ^^^ p)) 1
theorem nats_get {ks : List Nat} {i : Nat} {d : D} (h : (nats ks)[i]? = some d) : ∃ k, ks[i]? = some k ∧ d = .nat k := by
  unfold nats at h
  rw [List.getElem?_map] at h
  obtain ⟨k, a, b⟩ := Option.map_eq_some_iff.mp h
  exact ⟨k, a, b.symm⟩
theorem drop_of {α : Type} {l : List α} {i : Nat} {k : α} (h : l[i]? = some k) : l.drop i = k :: l.drop (i + 1) := by
  obtain ⟨hi, e⟩ := List.getElem?_eq_some_iff.mp h
  rw [List.drop_eq_getElem_cons hi, e]
theorem reach_Fn (w : Wo) (prog : Program) (x : Nat) (ks : List Nat) : Fn w prog 3 (.ref 215) [.nat x, .list (nats ks)] (.nat (reach x ks)) :=
  .of (names := ["x", "known"]) (reach_fn w) rfl (bind2 (by intros; kernel_rfl)) (by kernel_rfl) (by kernel_rfl) fun A X s L R => by
    refine .cons (.assign (.natLit (n := 1) rfl) (by kernel_rfl)) ?_
    refine .for_ (.var (d := .list (nats ks)) (by kernel_rfl) (by kernel_rfl)) (.list R.fn.hd) (by kernel_rfl)
      (fun i ρ => ∃ b, Has ρ "x" (.nat x) ∧ Has ρ "total" (.nat b) ∧ b < 2 ^ 64 ∧ (ks.drop i).foldl (fun t p => times t (x ^^^ p)) b = reach x ks) ⟨1, by kernel_rfl, by kernel_rfl, by decide, rfl⟩ (fun i d ρ X F O hd hI => ?_) fun ρ hI => ?_
    · obtain ⟨b, h1, h2, hb, he⟩ := hI
      obtain ⟨k, hk, rfl⟩ := nats_get hd
      rw [drop_of hk] at he
      refine .cons (.assign (.call_fn (.globV (by kernel_rfl) (by kernel_rfl)) (.cons (.var (lk (by kernel_rfl) h2) (by kernel_rfl)) (.cons (.xorN (.var (lk (by kernel_rfl) h1) (by kernel_rfl)) (.var lk0 (by kernel_rfl))) .nil)) (times_Fn w prog b (x ^^^ k) hb) (R.deeper _) fun s x => fnCallable (times_fn w) x.base) (by kernel_rfl)) ?_
      exact .nil fun s y => ⟨rfl, _, ⟨times b (x ^^^ k), lk (by kernel_rfl) (lk (by kernel_rfl) h1), lk0, times_lt hb, he⟩, y⟩
    · obtain ⟨b, h1, h2, hb, he⟩ := hI
      have e0 : b = reach x ks := by rw [show (nats ks).length = ks.length by simp [nats], List.drop_length] at he; exact he
      rw [← e0]
      exact .ret_fn (.var h2 (by kernel_rfl))
noncomputable def hornS (x : Nat) (t : List Nat) : Nat := t.foldl (fun a l => times a x ^^^ l) 0
noncomputable def curve (s d : Nat) (t : List Nat) (x : Nat) : Nat := s ^^^ times (d ^^^ s ^^^ times (hornS x t) (x ^^^ 254)) (x ^^^ 255)
theorem curve_Fn (w : Wo) (prog : Program) (s d x : Nat) (t : List Nat) (hs : s < 2 ^ 64) (hd : d < 2 ^ 64) (ht : ∀ l ∈ t, l < 2 ^ 64) : Fn w prog 3 (.ref 222) [.nat s, .nat d, .list (nats t), .nat x] (.nat (curve s d t x)) :=
  .of (names := ["secret", "digest", "tail", "x"]) (curve_fn w) rfl (bind4 (by intros; kernel_rfl)) (by kernel_rfl) (by kernel_rfl) fun A X s0 L R => by
    refine .cons (.assign (.natLit (n := 0) rfl) (by kernel_rfl)) ?_
    refine .for_ (.var (d := .list (nats t)) (by kernel_rfl) (by kernel_rfl)) (.list R.fn.hd) (by kernel_rfl)
      (fun i ρ => ∃ b, Has ρ "x" (.nat x) ∧ Has ρ "secret" (.nat s) ∧ Has ρ "digest" (.nat d) ∧ Has ρ "total" (.nat b) ∧ b < 2 ^ 64 ∧ (t.drop i).foldl (fun a l => times a x ^^^ l) b = hornS x t) ⟨0, by kernel_rfl, by kernel_rfl, by kernel_rfl, by kernel_rfl, by decide, rfl⟩ (fun i e ρ X F O hd hI => ?_) fun ρ hI => ?_
    · obtain ⟨b, h1, h2, h3, h4, hb, he⟩ := hI
      obtain ⟨k, hk, rfl⟩ := nats_get hd
      rw [drop_of hk] at he
      refine .cons (.assign (.xorN (.call_fn (.globV (by kernel_rfl) (by kernel_rfl)) (.cons (.var (lk (by kernel_rfl) h4) (by kernel_rfl)) (.cons (.var (lk (by kernel_rfl) h1) (by kernel_rfl)) .nil)) (times_Fn w prog b x hb) (R.deeper _) fun s x => fnCallable (times_fn w) x.base) (.var lk0 (by kernel_rfl))) (by kernel_rfl)) ?_
      exact .nil fun s y => ⟨rfl, _, ⟨_, lk (by kernel_rfl) (lk (by kernel_rfl) h1), lk (by kernel_rfl) (lk (by kernel_rfl) h2), lk (by kernel_rfl) (lk (by kernel_rfl) h3), lk0, Nat.xor_lt_two_pow (times_lt hb) (ht k (List.mem_of_getElem? hk)), he⟩, y⟩
    · obtain ⟨b, h1, h2, h3, h4, hb, he⟩ := hI
      have e0 : b = hornS x t := by rw [show (nats t).length = t.length by simp [nats], List.drop_length] at he; exact he
      subst e0
      refine .ret_fn (.xorN (.var h2 (by kernel_rfl)) (.call_fn (.globV (by kernel_rfl) (by kernel_rfl)) (.cons (.xorN (.xorN (.var h3 (by kernel_rfl)) (.var h2 (by kernel_rfl))) (.call_fn (.globV (by kernel_rfl) (by kernel_rfl)) (.cons (.var h4 (by kernel_rfl)) (.cons (.xorN (.var h1 (by kernel_rfl)) (.natLit rfl)) .nil)) (times_Fn w prog _ _ hb) (R.deeper _) fun s x => fnCallable (times_fn w) x.base)) (.cons (.xorN (.var h1 (by kernel_rfl)) (.natLit rfl)) .nil)) (times_Fn w prog _ _ ?_) (R.deeper _) fun s x => fnCallable (times_fn w) x.base))
      exact Nat.xor_lt_two_pow (Nat.xor_lt_two_pow hd hs) (times_lt hb)
end Mine

-- A1
namespace Mine
section
variable {prog : Program} {w : World} {A : Around} {s : Shared}
theorem type_ref {M : Model} {h : Heap} {x C : Addr} {o : Obj} (ho : h.get? x = some o) (hc : o.cls = .ref C) : Looks M h (typeOf (.ref x)) (.ref C) := hc ▸ (Looks.ld ho).andThen .now
theorem mro_share (w : World) : mroIn (K0 w) 145 (.type "tuple") = some true := by kernel_rfl
theorem call_type1 {x C : Addr} {o : Obj} {Q : Value → Shared → Prop} (ho : s.heap.get? x = some o) (hc : o.cls = .ref C) (h : Q (.ref C) s) : wpAny (model prog w) A (call (.type "type") [.ref x]) Q NoE s := by
  refine wpAny_call (codeAny_of_tree ?_)
  show wpAny _ _ (callAny (.type "type") _) _ _ _
  refine wpAny_pure ⟨Code.quiet_builtin _ (by decide +kernel), codeAny_builtin F.entry_type_call ?_⟩
  rw [Around.under_plain (weight_type_call_type "type" [.ref x] []) rfl]
  have L := type_ref (M := model prog w) ho hc
  show wpAny _ _ (shownTypeOf (.ref x) >>= fun t => ret t) _ _ _
  refine wpAny_bind ?_
  show wpAny _ _ (typeOf (.ref x) >>= fun t => _) _ _ _
  exact wpAny_bind (L.here (wpAny_pure (wpAny_pure h)))
theorem call_issub {Q : Value → Shared → Prop} (X : (K0 w).In s.heap) (h : Q (.bool true) s) : wpAny (model prog w) A (call (.builtin "issubclass") [.ref 145, .type "tuple"]) Q NoE s := by
  refine call_function_tree F.kind_issubclass F.plain_issubclass F.entry_issubclass (F.args_issubclass_2 _ _) ?_
  exact issubclass_outer (R := fun r s' => match r with | .ok (.ret v) => Q v s' | .ok _ => False | .error e => NoE e s')
    (Looks.here (Looks.of_peek (K := K0 w) (r := .done (.ret (.bool true))) X (by kernel_rfl)) h)
theorem method_tuple {n : Str} {id : String} {pl : Sem Bool} {Q : Value × List Value → Shared → Prop} (X : (K0 w).In s.heap) (e : findCls (K0 w) (.type "tuple") (.type "type") n = some (.val (.builtin id)))
    (hh : handedIn (.builtin id) = true) (h : Q (.builtin id, []) { s with toks := s.toks + 1 }) : wpAny (model prog w) A (getMethod (.type "tuple") n pl) Q NoE s := by
  have L0 : Looks (model prog w) s.heap (typeOf (.type "tuple")) (.type "type") := Looks.of_pure rfl
  have LO : Looks (model prog w) s.heap (opaqueClassAbove (.type "tuple")) none := Looks.of_pure (by unfold opaqueClassAbove; dsimp only; rw [show Manifest.isStub "tuple" = false by decide +kernel]; rfl)
  have hg : findIn (K0 w) (.type "type") "__getattribute__" = some (some (.builtin "type.__getattribute__")) := type_tga
  unfold getMethod specialOf
  refine wpAny_bind (wpAny_bind (L0.here ((looks_findIn X hg).here ?_)))
  dsimp only
  rw [if_pos canon_tga]
  refine wpAny_bind (wpAny_mono (cls_open (Q := fun v => Q (v, [])) X LO L0 hg (looks_hook X (r := none) (by rfl)) (by show subIn _ _ _ = _; rfl) e (wpAny_pure ?_)) (fun _ _ z => wpAny_pure z) fun _ _ z => z)
  show wpAny _ _ (handedOut (.builtin id)) _ _ _
  rw [handedOut_of hh]
  exact wpAny_pure h
theorem find_tg (w : World) : findCls (K0 w) (.type "tuple") (.type "type") "__getitem__" = some (.val (.builtin "tuple.__getitem__")) := by kernel_rfl
theorem find_tn (w : World) : findCls (K0 w) (.type "tuple") (.type "type") "__new__" = some (.val (.builtin "tuple.__new__")) := by kernel_rfl
theorem hand_tg : handedIn (.builtin "tuple.__getitem__") = true := by kernel_rfl
theorem hand_tn : handedIn (.builtin "tuple.__new__") = true := by kernel_rfl
theorem share_is {x : Addr} {o : Obj} (X : (K0 w).In s.heap) (ho : s.heap.get? x = some o) (hc : o.cls = .ref 145) : Looks (model prog w) s.heap (isInstance (.ref x) (.type "tuple")) true := by
  unfold isInstance
  exact (type_ref ho hc).andThen (looks_mroIn X (mro_share w))
/-- tuple.__getitem__ of a share -/
theorem call_tg {x : Addr} {vs : Array Value} {n k : Nat} {t : Tok} {v : Value} {Q : Value → Shared → Prop} (X : (K0 w).In s.heap) {dd : Option Addr} (ho : s.heap.get? x = some { cls := .ref 145, dict := dd, data := .seq vs n }) (hk : k < 2 ^ 40) (hv : vs[k]? = some v) (h : Q v s) :
    wpAny (model prog w) A (call (.builtin "tuple.__getitem__") [.ref x, .int (k : Int) t]) Q NoE s := by
  have h40 : (2:Nat)^40 = 1099511627776 := by decide
  have hlt : k < vs.size := (Array.getElem?_eq_some_iff.mp hv).1
  refine wpAny_call (codeAny_call_builtin F.slot_tuple_getitem.plain F.entry_tuple_getitem ?_)

  refine @check_slot (model prog w) _ _ s "tuple.__getitem__" "tuple" "__getitem__" (.ref x) [.int (k : Int) t] [] _ (by decide +kernel) (by decide +kernel) (share_is X ho rfl) (F.args_tuple_getitem_2 _ _) ?_
  have hi : seqIndex? (k : Int) vs.size = some k := by
    unfold seqIndex?
    have h1 : ¬ ((k : Int) < 0) := by omega
    simp [h1, hlt]
  show wpAny _ _ (Builtin.Tuple.tupleItemsOf (.ref x) >>= _) _ _ _
  refine wpAny_bind ?_
  unfold Builtin.Tuple.tupleItemsOf
  refine wpAny_bind (wpAny_seqItems ho rfl (wpAny_pure ?_))
  refine wpAny_bind (wpAny_of_eq (a := .type "int") rfl ?_)
  refine bm_if_false (by decide) ?_
  refine wpAny_bind (wpAny_specialOf (typeIs_int s _ t) F.slot_int_index.lookup ?_)
  refine bm_if_false rfl ?_
  refine wpAny_bind (wpAny_of_eq (a := (k : Int)) rfl ?_)
  refine bm_if_false (by simp only [Bool.or_eq_false_iff, decide_eq_false_iff_not]; omega) ?_
  rw [hi]
  show wpAny _ _ (match vs[k]? with | some x => ret x | none => _) _ _ _
  rw [hv]
  exact wpAny_pure h
end
end Mine

-- A2
namespace Mine
theorem getter_fn (w : Wo) : FnObj w 56 (fnAt w 56) (bodyOf (fnAt w 56)) := ⟨by kernel_rfl, by kernel_rfl, by kernel_rfl, by kernel_rfl, by kernel_rfl, by kernel_rfl, by kernel_rfl, by kernel_rfl, ⟨55, codeVs w 55, 248, by kernel_rfl, by kernel_rfl, by kernel_rfl⟩⟩
section
variable {C : Cx} {ρ : List (Str × D)} {s : Shared}
theorem Ev.none_ {k p} : Ev C ρ (.Constant .none k p) .none := fun s x => fun _ _ _ => Po.now x sat_none
theorem Tr.not {e : Expr} {p : Pos} {b : Bool} (h : Tr C ρ e b) : Tr C ρ (.UnaryOp .Not e p) (!b) := fun s x =>
  wpAny_isTrue_Not (wp_mono (h s x) fun r s' q => by obtain ⟨rfl, i⟩ := q; exact ⟨rfl, i⟩)
/-- a look-up behind a dot -/
theorem Ev.attr {value : Expr} {n : Str} {p : Pos} {d e : D} (h : Ev C ρ value d) (hg : ∀ s v, C.I ρ s → sat d v (C.hid s) → wpAny C.M C.A (getAttr v n true) (Po C ρ e s) NoE s)
    (he : eval (.Attribute value n p) C.env = (do
      let o ← eval value C.env
      standAt p.atName
      let r ← holding [o] (getAttr o n true)
      letTemporaryGo value o r
      pure r) := by with_unfolding_all rfl) : Ev C ρ (.Attribute value n p) e := fun s x =>
  Attribute_any_ (wp_mono (h s x) fun v s1 q => wp_mono (hg s1 v q.i q.v) fun r s2 y => ⟨y.v, y.i, q.m.trans y.m⟩) he
/-- an item of a share, by its place -/
def ShareAt (d0 : D) (k : Nat) (d : D) : Prop := ∀ v h, sat d0 v h → ∃ a dd vs n u, v = .ref a ∧ h.get? a = some (shareObj dd vs n) ∧ vs[k]? = some u ∧ sat d u h
theorem ShareAt.x (x : Int) (b : List UInt8) : ShareAt (.share x b) 0 (.int x) := fun v h hv => by
  unfold sat at hv
  obtain ⟨a, dd, n, t, u, e, g, _⟩ := hv
  exact ⟨a, dd, _, n, _, e, g, rfl, sat_int⟩
theorem ShareAt.data (x : Int) (b : List UInt8) : ShareAt (.share x b) 1 (.bytes b) := fun v h hv => by
  unfold sat at hv
  obtain ⟨a, dd, n, t, u, e, g, _⟩ := hv
  exact ⟨a, dd, _, n, _, e, g, rfl, sat_bytes⟩
theorem desc_inst {w : World} {h : Heap} {a c : Addr} {o od : Obj} (X : (K0 w).In h) (h1 : (K0 w).lookup a = some o) (hc : o.cls = .ref 73) (hn : notCls o = true) (hd : o.dict = some c) (h2 : (K0 w).lookup c = some od) : InstAt h a o 73 (some od) :=
  ⟨X _ _ h1, hc, hn, by rw [hd]; exact X _ _ h2⟩
end
theorem boot_issubclass : bootBuiltins "issubclass" = some (.builtin "issubclass") := by decide +kernel
theorem boot_type : bootBuiltins "type" = some (.type "type") := by decide +kernel
theorem boot_tuple : bootBuiltins "tuple" = some (.type "tuple") := by decide +kernel
/-- the descriptors of RawShare: __get__ -/
theorem getter_Fn (w : Wo) (prog : Program) (dk : Addr) (k : Nat) (d0 d : D) (hs : ShareAt d0 k d) (hk : k < 2) (hi : ∀ (A : Around) (s : Shared) (Q : Value → Shared → Prop), (K0 w.w).In s.heap → (∀ t j, Q (.int (k : Int) t) { s with toks := j }) → wpAny (model prog w.w) A (getAttr (.ref dk) "index" true) Q NoE s) :
    Fn w prog 1 (.ref 56) [.val (.ref dk), d0, .val (.ref 145)] d :=
  .of (names := ["self", "obj", "objtype"]) (getter_fn w) rfl (bind3L fun hp X x y z => .of_peek X (by kernel_rfl)) (by kernel_rfl) (by kernel_rfl) fun A X s L R => by
    refine .cons (.if_false (.cmp (c := false) (.var (d := d0) (by kernel_rfl) (by kernel_rfl)) .none_ fun s v u x h1 h2 => ?_)) ?_
    · obtain ⟨a, dd, vs, n, u', rfl, g, _⟩ := hs _ _ h1
      have hu : u = .none := by unfold sat at h2; exact h2
      subst hu
      exact is_none (Po.now x sat_bool)
    refine .cons (.if_false (.not (b := true) (.bool ?_))) ?_
    · refine .call (.blt (by kernel_rfl) (by kernel_rfl) boot_issubclass (by decide)) (.cons (d := .val (.ref 145)) (.call (.blt (by kernel_rfl) (by kernel_rfl) boot_type (by decide)) (.cons (d := d0) (.var (by kernel_rfl) (by kernel_rfl)) .nil) fun s vs x hv => ⟨Callable.type, ?_⟩) (.cons (.blt (by kernel_rfl) (by kernel_rfl) boot_tuple (by decide)) .nil)) fun s vs x hv => ⟨Callable.builtin, ?_⟩
      · obtain ⟨v, rfl, hx⟩ := sats1 hv
        obtain ⟨a, dd, vs, n, u', rfl, g, _⟩ := hs _ _ hx
        exact call_type1 (of_hideAll _ g) rfl (Po.now x sat_val)
      · obtain ⟨v, u, rfl, hx, hu⟩ := sats2 hv
        have := of_val hx
        subst this
        have := of_val hu
        subst this
        exact call_issub x.base.inK (Po.now x sat_bool)
    refine .ret_fn fun s x => methodCall_KW (wp_mono ((Ev.blt (by kernel_rfl) (by kernel_rfl) boot_tuple (by decide) : Ev _ _ _ (.val (.type "tuple"))) s x) fun v s1 q => ?_)
    have := of_val q.v
    subst this
    refine method_tuple q.i.base.inK (find_tg w.w) hand_tg ?_
    refine call_args (first := []) (.cons (d := d0) (.var (by kernel_rfl) (by kernel_rfl)) (.cons (d := .nat k) (.attr (.var (d := .val (.ref dk)) (by kernel_rfl) (by kernel_rfl)) fun s v y hv => ?_) .nil)) (q.i.tok _) fun vs s2 p2 => ⟨Callable.builtin, ?_⟩
    · have := of_val hv
      subst this
      exact hi _ s _ y.base.inK fun t j => Po.tok y j sat_int
    · obtain ⟨v, u, rfl, hx, hu⟩ := sats2 p2.v
      obtain ⟨a, dd, vs, n, z, rfl, g, hz, hsat⟩ := hs _ _ hx
      obtain ⟨t, rfl⟩ := of_int hu
      exact call_tg p2.i.base.inK (of_hideAll _ g) (Nat.lt_trans hk (by decide)) (by simpa using hz) ⟨hsat, p2.i, (q.m.trans (.tok _ _)).trans p2.m⟩
noncomputable def objAt (w : World) (a : Addr) : Obj := match (K0 w).lookup a with | some o => o | none => default
theorem find_idx (w : World) (dk dd : Addr) (k : Nat) (t : Tok) {o od : Obj} (h1 : (K0 w).lookup dk = some o) (hc : o.cls = .ref 73) (hn : notCls o = true) (hd : o.dict = some dd) (h2 : (K0 w).lookup dd = some od) (hg : findIn (K0 w) (.ref 73) "__getattribute__" = some (some (.builtin "object.__getattribute__")))
    (hf : findObj (K0 w) 73 (some od) "index" = some (.value (.int (k : Int) t))) {prog : Program} (A : Around) (s : Shared) (Q : Value → Shared → Prop) (X : (K0 w).In s.heap) (h : ∀ t j, Q (.int (k : Int) t) { s with toks := j }) : wpAny (model prog w) A (getAttr (.ref dk) "index" true) Q NoE s :=
  get_value X (desc_inst X h1 hc hn hd h2) hg hf rfl (h _ _)
theorem getX_Fn (w : Wo) (prog : Program) (x : Int) (b : List UInt8) : Fn w prog 1 (.ref 56) [.val (.ref 137), .share x b, .val (.ref 145)] (.int x) :=
  getter_Fn w prog 137 0 _ _ (.x x b) (by decide) fun A s Q X h => find_idx w.w 137 136 0 373 (o := objAt w.w 137) (od := objAt w.w 136) (by kernel_rfl) (by kernel_rfl) (by kernel_rfl) (by kernel_rfl) (by kernel_rfl) (by kernel_rfl) (by kernel_rfl) A s Q X h
theorem getData_Fn (w : Wo) (prog : Program) (x : Int) (b : List UInt8) : Fn w prog 1 (.ref 56) [.val (.ref 140), .share x b, .val (.ref 145)] (.bytes b) :=
  getter_Fn w prog 140 1 _ _ (.data x b) (by decide) fun A s Q X h => find_idx w.w 140 139 1 383 (o := objAt w.w 140) (od := objAt w.w 139) (by kernel_rfl) (by kernel_rfl) (by kernel_rfl) (by kernel_rfl) (by kernel_rfl) (by kernel_rfl) (by kernel_rfl) A s Q X h
end Mine

-- A3
namespace Mine
section
variable {C : Cx} {ρ : List (Str × D)} {s : Shared}
theorem share_inst {h : Heap} {a dd : Addr} {vs : List Value} {n : Nat} (e : h.get? a = some (shareObj dd vs n)) (e' : h.get? dd = some emptyDict) : InstAt h a (shareObj dd vs n) 145 (some emptyDict) := ⟨e, rfl, rfl, e'⟩
theorem share_obj {x : Int} {b : List UInt8} {v : Value} (hv : sat (.share x b) v (C.hid s)) : ∃ a dd vs n, v = .ref a ∧ s.heap.get? a = some (shareObj dd vs n) ∧ s.heap.get? dd = some emptyDict := by
  unfold sat at hv
  obtain ⟨a, dd, n, t, u, e, g, g'⟩ := hv
  exact ⟨a, dd, _, n, e, of_hideAll _ g, of_hideAll _ g'⟩
theorem ga_share (w : World) : findIn (K0 w) (.ref 145) "__getattribute__" = some (some (.builtin "tuple.__getattribute__")) := by kernel_rfl
theorem gn_share (w : World) : findIn (K0 w) (.ref 145) "__getattr__" = some none := by kernel_rfl
theorem gx_share (w : World) : findObj (K0 w) 145 (some emptyDict) "x" = some (.bind (.ref 56) (.ref 137)) := by kernel_rfl
theorem gd_share (w : World) : findObj (K0 w) 145 (some emptyDict) "data" = some (.bind (.ref 56) (.ref 140)) := by kernel_rfl
theorem share_by {n : Str} {tk : Tok} {dk : Addr} {x : Int} {b : List UInt8} {d : D} {v : Value} (R : Room C.A 3) (hF : Fn C.w C.prog 1 (.ref 56) [.val (.ref dk), .share x b, .val (.ref 145)] d) (hf : findObj (K0 C.w.w) 145 (some emptyDict) n = some (.bind (.ref 56) (.ref dk)))
    (hd : ∀ v h, sat d v h → handedIn v = true) (i : C.I ρ s) (hv : sat (.share x b) v (C.hid s)) : wpAny C.M C.A (getAttrBy v (.str n tk) true true) (Po C ρ d s) NoE s := by
  obtain ⟨a, dd, vs, m, rfl, g, g'⟩ := share_obj hv
  have X := i.base.inK
  have LT : Looks C.M s.heap (typeOf (.ref a)) (.ref 145) := type_ref g rfl
  unfold getAttrBy
  refine wpAny_holding (wpAny_bind (LT.here (wpAny_bind ((looks_findIn X (ga_share C.w.w)).here ?_))))
  refine bm_if_false (by decide +kernel) ?_
  unfold getAttrByItsOwn
  refine wpAny_bind ((looks_hook X (mc := .ref 145) (r := none) (gn_share C.w.w)).here ?_)
  refine wpAny_bind (wpAny_attempt (wpAny_holding ?_))
  show wpAny _ _ (boundAndCalled (.builtin "tuple.__getattribute__") (.ref a) (.str n tk)) _ _ _
  unfold boundAndCalled
  rw [F.slot_tuple_getattribute.bind]
  refine wpAny_bind (wpAny_pure ?_)
  refine wpAny_call (codeAny_call_builtin F.slot_tuple_getattribute.plain F.entry_tuple_ga ?_)
  refine @check_slot C.M _ _ s "tuple.__getattribute__" "tuple" "__getattribute__" (.ref a) [.str n tk] [] _ (by decide +kernel) (by decide +kernel) (share_is X g rfl) (F.args_tuple_getattribute_2 _ _) ?_
  unfold Builtin.«object.__getattribute__»
  refine wpAny_bind (wpAny_of_eq (a := (.ref a, [.str n tk])) rfl ?_)
  refine wpAny_bind (wpAny_of_eq (a := n) rfl ?_)
  refine wpAny_bind (LT.here (wpAny_bind ((looks_find X (share_inst g g') hf).here ?_)))
  show wpAny _ _ (holding [.ref dk] (PySem.call (.ref 56) [.ref dk, .ref a, .ref 145]) >>= fun v => ret v) _ _ _
  refine wpAny_bind (wpAny_holding (wp_any (hF C.A.in1 C.X s _ (R.less (by decide)).in1 i.rdy (sats_cons sat_val (sats_cons hv (sats_cons sat_val sats_nil)))) fun r s' q => wpAny_pure ?_))
  show wpAny _ _ (handedOut r) _ _ _
  rw [handedOut_of (hd _ _ q.v)]
  exact wpAny_pure ⟨q.v, i.step q.m q.tb, q.m⟩
theorem share_get {n : Str} {dk : Addr} {x : Int} {b : List UInt8} {d : D} {v : Value} (R : Room C.A 3) (hF : Fn C.w C.prog 1 (.ref 56) [.val (.ref dk), .share x b, .val (.ref 145)] d) (hf : findObj (K0 C.w.w) 145 (some emptyDict) n = some (.bind (.ref 56) (.ref dk)))
    (hd : ∀ v h, sat d v h → handedIn v = true) (i : C.I ρ s) (hv : sat (.share x b) v (C.hid s)) : wpAny C.M C.A (getAttr v n true) (Po C ρ d s) NoE s := by
  unfold getAttr
  exact wpAny_bind (wpAny_mkText (wp_mono (share_by R hF hf hd (i.tok _) hv) fun r s' q => ⟨q.v, q.i, (Mv.tok s _).trans q.m⟩))
theorem Ev.shareX {value : Expr} {p : Pos} {x : Int} {b : List UInt8} (R : Room C.A 3) (h : Ev C ρ value (.share x b)) (he : eval (.Attribute value "x" p) C.env = (do
      let o ← eval value C.env
      standAt p.atName
      let r ← holding [o] (getAttr o "x" true)
      letTemporaryGo value o r
      pure r) := by with_unfolding_all rfl) : Ev C ρ (.Attribute value "x" p) (.int x) :=
  h.attr (fun s v i hv => share_get R (getX_Fn C.w C.prog x b) (gx_share _) (fun v h hv => by obtain ⟨t, rfl⟩ := of_int hv; rfl) i hv) he
theorem Ev.shareD {value : Expr} {p : Pos} {x : Int} {b : List UInt8} (R : Room C.A 3) (h : Ev C ρ value (.share x b)) (he : eval (.Attribute value "data" p) C.env = (do
      let o ← eval value C.env
      standAt p.atName
      let r ← holding [o] (getAttr o "data" true)
      letTemporaryGo value o r
      pure r) := by with_unfolding_all rfl) : Ev C ρ (.Attribute value "data" p) (.bytes b) :=
  h.attr (fun s v i hv => share_get R (getData_Fn C.w C.prog x b) (gd_share _) (fun v h hv => by obtain ⟨t, rfl⟩ := of_bytes hv; rfl) i hv) he
end
end Mine

-- A4
namespace Mine
theorem plain_tn : plainId "tuple.__new__" = true := by decide +kernel
section
variable {prog : Program} {w : World} {A : Around} {s : Shared}
theorem call_tn {t : Addr} {o : Obj} {vs : List Value} {n : Nat} {Q : Value → Shared → Prop} (X : (K0 w).In s.heap) (ht : s.heap.get? t = some o) (hc : o.cls = .type "tuple") (hd : o.data = .seq vs.toArray n) (hz : vs.length ≤ 1000)
    (h : ∀ h', Le s.heap h' → s.heap.objs.size ≤ h'.objs.size → Q (.ref (h'.objs.size + 1)) { s with heap := (h'.push emptyDict).push (shareObj h'.objs.size vs 0) }) : wpAny (model prog w) A (call (.builtin "tuple.__new__") [.ref 145, .ref t]) Q NoE s := by
  have hzz : vs.toArray.size ≤ sizeLine := by rw [List.size_toArray]; exact Nat.le_trans hz (by decide)
  refine wpAny_call (codeAny_of_tree ?_)
  show wpAny _ A.in1 (do checkBuiltinCall "tuple.__new__" ⟨[.ref 145, .ref t], []⟩; again (.builtin "tuple.__new__" ⟨[.ref 145, .ref t], []⟩)) _ _ s
  refine wpAny_bind (Looks.here (Looks.of_peek (K := K0 w) (r := ()) X (by kernel_rfl)) (wpAny_pure ⟨plainId_quiet plain_tn _, codeAny_builtin F.entry_tuple_new ?_⟩))
  rw [Around.under_plainId plain_tn _]
  unfold Builtin.«tuple.__new__»
  refine wpAny_bind (Looks.here (Looks.of_peek (K := K0 w) (r := true) X (by kernel_rfl)) ?_)
  refine bm_if_false rfl ?_
  refine wpAny_bind ((looks_mroIn X (mro_share w)).here ?_)
  refine bm_if_false rfl ?_
  refine wpAny_bind (Looks.here (Looks.of_peek (K := K0 w) (r := ()) X (by kernel_rfl)) ?_)
  refine wpAny_bind (Looks.here (Looks.of_peek (K := K0 w) (r := some (.builtin "object.__init__")) X (by kernel_rfl)) ?_)
  refine bm_if_true (by decide +kernel) ?_
  refine wpAny_bind (wpAny_of_eq (a := ()) rfl ?_)
  refine wpAny_bind (wpAny_of_eq (a := ()) rfl ?_)
  refine bm_if_false (by decide +kernel) ?_
  refine wpAny_bind (wp_mono (wpAny_sz (wpAny_collect_seq (Q := fun xs s' => xs = vs.toArray.toList ∧ ∃ h', Le s.heap h' ∧ s' = { s with heap := h' }) (T := "tuple") t (.inr rfl) ht hc hd (fun h' k => ⟨rfl, h', k, rfl⟩) hzz)) fun xs s' q => ?_)
  obtain ⟨hs, hx, h', k, rfl⟩ := q
  have X' : (K0 w).In h' := X.keeps k
  have hC : h'.get? 145 = some (objAt w 145) := X' _ _ (by kernel_rfl)
  show wpAny _ _ (alloc emptyDict >>= fun d => newObj (.ref 145) (.seq xs.toArray) (some d) >>= fun v => ret v) _ _ _
  rw [hx, show vs.toArray.toList.toArray = vs.toArray by simp]
  refine wpAny_bind (wpAny_alloc (wpAny_bind ?_))
  unfold newObj
  have hz' : ¬ vs.toArray.size > sizeLine := Nat.not_lt.mpr hzz
  show wpAny _ _ (if vs.toArray.size > sizeLine then _ else _) _ _ _
  rw [if_neg hz']
  unfold newObjAsIs classHasDel
  refine wpAny_bind (wpAny_alloc (wpAny_bind (wpAny_bind (wpAny_load (Heap.get?_push_of_some _ (Heap.get?_push_of_some _ hC)) ?_))))
  show wpAny _ _ (pure false) _ _ _
  refine wpAny_pure (wpAny_pure (wpAny_pure ?_))
  have := h h' k hs
  rw [← Heap.size_push h' emptyDict] at this
  exact this
end
theorem new_fn (w : Wo) : FnObj w 95 (fnAt w 95) (bodyOf (fnAt w 95)) := ⟨by kernel_rfl, by kernel_rfl, by kernel_rfl, by kernel_rfl, by kernel_rfl, by kernel_rfl, by kernel_rfl, by kernel_rfl, ⟨94, codeVs w 94, 304, by kernel_rfl, by kernel_rfl, by kernel_rfl⟩⟩
theorem Ex.doc {C : Cx} {ρ : List (Str × D)} {x : Str} {k p q} (hi : interactive C.env = false := by rfl) (hs : swapsWith (.Constant (.str x) k p) none (Pos.line q) C.env = pure false := by rfl) : Ex C ρ (.Expr (.Constant (.str x) k p) q) ρ := fun s i =>
  wpAny_Expr (wpAny_Constant_str ⟨rfl, i.tok _⟩) hi hs
theorem new_Fn (w : Wo) (prog : Program) (x : Int) (b : List UInt8) : Fn w prog 1 (.ref 95) [.val (.ref 145), .int x, .bytes b] (.share x b) :=
  .of (names := ["_cls", "x", "data"]) (new_fn w) rfl (bind3 (by intros; kernel_rfl)) (by kernel_rfl) (by kernel_rfl) fun A X s L R => by
    refine .cons .doc ?_
    refine .ret_fn fun s y0 => methodCall_KW (wp_mono ((Ev.blt (by kernel_rfl) (by kernel_rfl) boot_tuple (by decide) : Ev _ _ _ (.val (.type "tuple"))) s y0) fun v s1 q => ?_)
    have := of_val q.v
    subst this
    refine method_tuple q.i.base.inK (find_tn w.w) hand_tn ?_
    refine call_args (first := []) (.cons (d := .val (.ref 145)) (.var (by kernel_rfl) (by kernel_rfl)) (.cons (.tuple (.cons (d := .int x) (.var (by kernel_rfl) (by kernel_rfl)) (.cons (d := .bytes b) (.var (by kernel_rfl) (by kernel_rfl)) .nil)) (Nat.le_of_ble_eq_true rfl)) .nil)) (q.i.tok _) fun vs s2 p2 => ⟨Callable.builtin, ?_⟩
    obtain ⟨v, u, rfl, hx, hu⟩ := sats2 p2.v
    have := of_val hx
    subst this
    unfold sat at hu
    obtain ⟨t, us, n, rfl, g, hs⟩ := hu
    obtain ⟨y, z, rfl, hy, hz⟩ := sats2 hs
    obtain ⟨ty, rfl⟩ := of_int hy
    obtain ⟨tz, rfl⟩ := of_bytes hz
    refine call_tn p2.i.base.inK (of_hideAll _ g) rfl rfl (Nat.le_of_ble_eq_true rfl) fun h' k hsz => ?_
    have le : Le s2.heap ((h'.push emptyDict).push (shareObj h'.objs.size [.int x ty, .bytes b.toArray tz] 0)) := fun c o e => Heap.get?_push_of_some _ (Heap.get?_push_of_some _ (k c o e))
    have hz1 : s2.heap.objs.size ≤ ((h'.push emptyDict).push (shareObj h'.objs.size [.int x ty, .bytes b.toArray tz] 0)).objs.size := by rw [Heap.size_push, Heap.size_push]; exact Nat.le_trans hsz (Nat.le_add_right _ 2)
    have far : ∀ a, h'.objs.size ≤ a → a ∉ (fnC w prog A 95 L X s).X := fun a ha hm => Nat.lt_irrefl _ (Nat.lt_of_lt_of_le (p2.i.lt a hm) (Nat.le_trans hsz ha))
    refine ⟨?_, p2.i.keep le hz1, (q.m.trans (.tok _ _)).trans (p2.m.trans (.heap s2 _ _ le hz1))⟩
    unfold sat
    refine ⟨_, _, 0, ty, tz, rfl, hideAll_get _ ?_ (far _ (Nat.le_succ _)), hideAll_get _ (Heap.get?_push_of_some _ (Heap.get?_push_size _ rfl)) (far _ (Nat.le_refl _))⟩
    have := Heap.get?_push_size (h'.push emptyDict) (o := shareObj h'.objs.size [.int x ty, .bytes b.toArray tz] 0) rfl
    rwa [Heap.size_push] at this
end Mine

-- A5
namespace Mine
theorem find_new (w : World) : findCls (K0 w) (.ref 145) (.type "type") "__new__" = some (.get (.builtin "staticmethod.__get__") (.ref 146) .none (.ref 145)) := by kernel_rfl
theorem rec_sm (w : World) : recIn (K0 w) 146 "staticmethod" = some [.ref 95] := by kernel_rfl
theorem any_tp (w : World) : nsIn (K0 w) cStatics "thirdparty.any" = some none := by kernel_rfl
section
variable {prog : Program} {w : World} {A : Around} {s : Shared}
theorem get_new {b : Bool} {Q : Value → Shared → Prop} (X : (K0 w).In s.heap) (h : Q (.ref 95) { s with toks := s.toks + 1 }) : wpAny (model prog w) A (getAttr (.ref 145) "__new__" b) Q NoE s := by
  have LT : Looks (model prog w) s.heap (typeOf (.ref 145)) (.type "type") := Looks.of_peek (K := K0 w) X (by kernel_rfl)
  refine cls_open X (looks_opaque X (any_tp w)) LT type_tga (looks_hook X (mc := .type "type") (r := none) (by rfl)) (by show subIn _ _ _ = _; rfl) (find_new w) ?_
  show wpAny _ _ (holding [.ref 146] (call (.builtin "staticmethod.__get__") [.ref 146, .none, .ref 145]) >>= fun v => ret v) _ _ _
  refine wpAny_bind (wpAny_holding (wpAny_call (sm_get (s := { s with toks := s.toks + 1 }) X (rec_sm w) (wpAny_pure ?_))))
  show wpAny _ _ (handedOut (.ref 95)) _ _ _
  rw [handedOut_of (by kernel_rfl)]
  exact wpAny_pure h
theorem call_oi {x : Addr} {o : Obj} {a b : Value} {Q : Value → Shared → Prop} (X : (K0 w).In s.heap) (ho : s.heap.get? x = some o) (hc : o.cls = .ref 145) (h : Q .none s) : wpAny (model prog w) A (call (.builtin "object.__init__") [.ref x, a, b]) Q NoE s := by
  have LT := type_ref (M := model prog w) ho hc
  refine wpAny_call (codeAny_call_builtin oi_plain entry_oi ?_)
  refine @check_slot (model prog w) _ _ s "object.__init__" "object" "__init__" (.ref x) [a, b] [] _ oi_kind oi_split (LT.andThen (looks_mroIn X (by kernel_rfl))) (F.args_object_init_3 _ _ _) ?_
  unfold Builtin.«object.__init__»
  refine bm_if_true rfl ?_
  refine wpAny_bind (LT.here ?_)
  refine wpAny_bind (Looks.here (Looks.of_peek (K := K0 w) (r := some (.builtin "object.__init__")) X (by kernel_rfl)) ?_)
  refine wpAny_bind (Looks.here (Looks.of_peek (K := K0 w) (r := none) X (by kernel_rfl)) ?_)
  refine bm_if_false (by decide +kernel) ?_
  refine bm_if_false (by decide +kernel) ?_
  exact wpAny_pure h
end
theorem Room.under {A : Around} {k : Nat} {vs : List Value} (r : Room A (k + 1)) : Room (A.under (.builtin "type.__call__" ⟨.ref 145 :: vs, []⟩)) k := ⟨r.hd, by have := r.dep; show A.depth + 1 + k ≤ 900; omega, by have := r.un; first | (show A.units + 1 + 20 * k ≤ 9000; omega) | (show A.units + 3 + 20 * k ≤ 9000; omega) | (show A.units + 4 + 20 * k ≤ 9000; omega) | (show A.units + 5 + 20 * k ≤ 9000; omega)⟩
theorem iso_type (w : World) {M : Model} {h : Heap} (X : (K0 w).In h) : Looks M h (isInstance (.ref 145) (.type "type")) true := Looks.of_peek (K := K0 w) X (by kernel_rfl)
section
variable {C : Cx} {ρ : List (Str × D)} {s : Shared}
theorem call_share {x : Int} {b : List UInt8} {xv bv : Value} (R : Room C.A 4) (i : C.I ρ s) (hx : sat (.int x) xv (C.hid s)) (hb : sat (.bytes b) bv (C.hid s)) : wpAny C.M C.A (call (.ref 145) [xv, bv]) (Po C ρ (.share x b) s) NoE s := by
  have X := i.base.inK
  have hC : s.heap.get? 145 = some (objAt C.w.w 145) := X _ _ (by kernel_rfl)
  refine wpAny_call (codeAny_of_tree ?_)
  show wpAny _ _ (callAny (.ref 145) _) _ _ _
  unfold callAny
  refine wpAny_bind (wpAny_load hC ?_)
  show wpAny _ _ (callAny.viaDunder (.ref 145) _) _ _ _
  unfold callAny.viaDunder
  refine wpAny_bind (Looks.here (Looks.of_peek (K := K0 C.w.w) (r := some (.builtin "type.__call__")) X (by kernel_rfl)) ?_)
  dsimp only
  rw [tc_bind]
  refine wpAny_bind (wpAny_pure (wpAny_bind (wpAny_pure ?_)))
  refine wpAny_pure (a := Fin.again (.call (.builtin "type.__call__") ⟨[.ref 145, xv, bv], []⟩)) (And.intro rfl ?_)
  refine codeAny_call_builtin_at (Code.quiet_builtin _ (by decide +kernel)) entry_typeCall (check_slot tc_kind tc_split (iso_type _ X) (tc_args _ _ _) ?_)
  unfold Builtin.«type.__call__»
  refine bm_if_false rfl ?_
  refine wpAny_bind (Looks.here (Looks.of_peek (K := K0 C.w.w) (r := [.ref 145, .type "tuple", .type "object"]) X (by kernel_rfl)) ?_)
  refine bm_if_false rfl ?_
  refine wpAny_bind (Looks.here (Looks.of_peek (K := K0 C.w.w) (r := none) X (by kernel_rfl)) ?_)
  refine wpAny_bind (get_new X ?_)
  have j := i.tok (s.toks + 1)
  refine wpAny_bind (wpAny_holding (wp_any (new_Fn C.w C.prog x b _ C.X { s with toks := s.toks + 1 } [.ref 145, xv, bv] (R.under (vs := [xv, bv]) |>.less (by decide)) j.rdy (sats_cons sat_val (sats_cons hx (sats_cons hb sats_nil)))) fun r s' q => ?_))
  obtain ⟨a, dd, vs, m, rfl, g, g'⟩ := share_obj (C := C) q.v
  have X' := (j.step q.m q.tb).base.inK
  have LT := type_ref (M := C.M) g rfl
  refine wpAny_bind ((show Looks C.M s'.heap (isInstance (.ref a) (.ref 145)) true from LT.andThen (looks_mroIn X' (by kernel_rfl))).here ?_)
  refine bm_if_false rfl ?_
  refine wpAny_bind (wpAny_holding ?_)
  unfold callSpecial? specialOf
  refine wpAny_bind (wpAny_bind (LT.here (Looks.here (Looks.of_peek (K := K0 C.w.w) (r := some (.builtin "object.__init__")) X' (by kernel_rfl)) ?_)))
  refine wpAny_holding ?_
  rw [F.slot_tuple_init.bind]
  refine wpAny_bind (wpAny_pure (wpAny_bind (call_oi X' g rfl (wpAny_pure ?_))))
  exact wpAny_pure ⟨q.v, j.step q.m q.tb, (Mv.tok s _).trans q.m⟩
theorem share_keeper (w : World) {M : Model} {h : Heap} (X : (K0 w).In h) : Callable M (.ref 145) h := ⟨.machine, .inr (.inl rfl), Looks.of_peek (K := K0 w) X (by kernel_rfl)⟩
theorem Ev.share {n : Str} {np p : Pos} {e1 e2 : Expr} {x : Int} {b : List UInt8} (R : Room C.A 4) (hf : Ev C ρ (.Name n np) (.val (.ref 145))) (h1 : Ev C ρ e1 (.int x)) (h2 : Ev C ρ e2 (.bytes b)) (he1 : starEach [e1, e2] C.env = (false, eval e1 C.env) :: starEach [e2] C.env := by rfl)
    (he : starEach [e2] C.env = (false, eval e2 C.env) :: starEach [] C.env := by rfl) : Ev C ρ (.Call (.Name n np) [e1, e2] [] p) (.share x b) :=
  hf.call (.cons h1 (.cons h2 .nil he) he1) fun s vs i hv => ⟨share_keeper C.w.w i.base.inK, by
    obtain ⟨v, u, rfl, hx, hu⟩ := sats2 hv
    exact call_share R i hx hu⟩
end
end Mine

-- Z1
namespace Mine
section
variable {prog : Program} {w : World} {A : Around} {s : Shared} {E : Value → Shared → Prop}
/-- one item of a walk over bytes, as zip asks for it -/
theorem nextB_item {it : Addr} {b : Array UInt8} {t : Tok} {i : Nat} {c : UInt8} {Q : Value → Shared → Prop} (hit : KBw.IsBytesIter s.heap it b t i) (hx : b[i]? = some c)
    (hQ : ∀ h', KBw.IsBytesIter h' it b t (i + 1) → Heap.SameBut it s.heap h' → Q (.int (c.toNat : Int) s.toks) { s with heap := h', toks := s.toks + 1 }) : wpAny (model prog w) A (Builtin.SmallTypes.nextOf (.ref it)) Q E s := by
  obtain ⟨o, ho, hc, hd⟩ := id hit
  unfold Builtin.SmallTypes.nextOf
  refine wpAny_bind (wpAny_callSpecial?_slot (name := PySem.Str.ofString "__next__") (KBw.iter_typeIs hit) KBw.slot_next (wpAny_call_entry KBw.slot_next (KBw.iter_typeIs hit) KBw.entry_next ?_ (KBw.args_next _)))
  show wpAny _ _ (field (.ref it) 0 >>= _) _ _ s
  refine wpAny_bind (wpAny_field ho hd (x := .bytes b t) rfl ?_)
  refine bm_if_false rfl ?_
  show wpAny _ _ (field (.ref it) 1 >>= _) _ _ s
  refine wpAny_bind (wpAny_field ho hd (x := .int i 0) rfl (wpAny_bind (wpAny_of_eq (a := b) rfl ?_)))
  simp only [Int.toNat_natCast, hx]
  refine wpAny_bind (wpAny_setField ho hd (by simp) (wpAny_bind (wpAny_mkInt (wpAny_pure ⟨_, rfl, wpAny_pure (hQ _ ?_ (Heap.SameBut.update ..))⟩))))
  exact ⟨_, Heap.get?_update_self _ ho (Obj.isFreed_of_fields (Obj.data_mapFields hd _)), (Obj.cls_mapFields ..).trans hc, by rw [Obj.data_mapFields hd]; simp [rawInt]⟩
end
end Mine

-- Y2
namespace Mine
/-- objects that are turned, and all else of h0 that stands -/
structure Oo (wr : List Addr) (h0 : Heap) (O : Own) (h : Heap) : Prop where
  ow : ∀ p ∈ O, ∃ o, h.get? p.1 = some o ∧ p.2 o
  owD : O.Pairwise fun p q => p.1 ≠ q.1
  kp : ∀ b o, b ∉ wr → h0.get? b = some o → h.get? b = some o
theorem Oo.turn {wr : List Addr} {h0 h h' : Heap} {O1 O2 : Own} {a : Addr} {P P' : Obj → Prop} {o' : Obj} (x : Oo wr h0 (O1 ++ (a, P) :: O2) h) (ha : a ∈ wr) (hs : Heap.SameBut a h h') (ho : h'.get? a = some o') (hP : P' o') : Oo wr h0 (O1 ++ (a, P') :: O2) h' := by
  have ne : ∀ p ∈ O1 ++ O2, p.1 ≠ a := by
    intro p hp
    have := x.owD
    rw [List.pairwise_append] at this
    rcases List.mem_append.mp hp with hp | hp
    · exact this.2.2 p hp _ (.head _)
    · exact fun q => (List.pairwise_cons.mp this.2.1).1 p hp q.symm
  refine ⟨fun p hp => ?_, ?_, fun b o hb e => hs.extBut b o (fun q => hb (q ▸ ha)) (x.kp b o hb e)⟩
  · rcases List.mem_append.mp hp with hp | hp
    · obtain ⟨o, a, b⟩ := x.ow p (List.mem_append_left _ hp)
      exact ⟨o, (hs.2 _ (ne p (List.mem_append_left _ hp))).trans a, b⟩
    · rcases List.mem_cons.mp hp with rfl | hp
      · exact ⟨o', ho, hP⟩
      · obtain ⟨o, a, b⟩ := x.ow p (List.mem_append_right _ (.tail _ hp))
        exact ⟨o, (hs.2 _ (ne p (List.mem_append_right _ hp))).trans a, b⟩
  · have := x.owD
    rw [List.pairwise_append, List.pairwise_cons] at this ⊢
    exact ⟨this.1, ⟨this.2.1.1, this.2.1.2⟩, fun p hp q hq => by
      rcases List.mem_cons.mp hq with e | hq
      · rw [e]; exact this.2.2 p hp (a, P) (.head _)
      · exact this.2.2 p hp q (.tail _ hq)⟩
theorem Oo.turn0 {wr : List Addr} {h0 h h' : Heap} {O : Own} {a : Addr} {P P' : Obj → Prop} {o' : Obj} (x : Oo wr h0 ((a, P) :: O) h) (ha : a ∈ wr) (hs : Heap.SameBut a h h') (ho : h'.get? a = some o') (hP : P' o') : Oo wr h0 ((a, P') :: O) h' := Oo.turn (O1 := []) x ha hs ho hP
theorem Oo.push {wr : List Addr} {h0 h : Heap} {O : Own} (x : Oo wr h0 O h) (o : Obj) : Oo wr h0 O (h.push o) :=
  ⟨fun p hp => let ⟨o', a, b⟩ := x.ow p hp; ⟨o', Heap.get?_push_of_some _ a, b⟩, x.owD, fun b o' hb e => Heap.get?_push_of_some _ (x.kp b o' hb e)⟩

abbrev zipO (TI TO : Addr) (f : Value) (o : Obj) : Prop := o = { cls := .type "zip", dict := none, data := .fields #[f, .bool false, .bool false, .ref TI, .ref TO], slots := #[] }
abbrev pairE (a b : Value) (o : Obj) : Prop := o = { cls := .type "tuple", data := .seq #[a, b] }
abbrev pairO (o : Obj) : Prop := ∃ a b, o = { cls := .type "tuple", data := .seq #[a, b] }
abbrev bytesO (b : Array UInt8) (t : Tok) (i : Nat) (o : Obj) : Prop := o.cls = .type "bytes_iterator" ∧ o.data = .fields #[.bytes b t, .int i 0]
structure ZA where
  z : Addr
  TI : Addr
  TO : Addr
  i1 : Addr
  i2 : Addr
  b1 : Array UInt8
  b2 : Array UInt8
  t1 : Tok
  t2 : Tok
abbrev ZA.wr (Z : ZA) : List Addr := [Z.z, Z.TO, Z.i1, Z.i2]
abbrev zipOs (Z : ZA) (f : Value) (i j : Nat) : Own :=
  [(Z.z, zipO Z.TI Z.TO f), (Z.TO, pairO), (Z.i1, bytesO Z.b1 Z.t1 i), (Z.i2, bytesO Z.b2 Z.t2 j), (Z.TI, fun o => o = { cls := .type "tuple", data := .seq #[.ref Z.i1, .ref Z.i2] })]
section
variable {prog : Program} {w : World} {A : Around} {s : Shared} {Z : ZA} {i : Nat} {h0 : Heap} {E : Value → Shared → Prop}
theorem zipB_next {c1 c2 : UInt8} {Q : PySem.Fin → Shared → Prop} (x : Oo Z.wr h0 (zipOs Z .none i i) s.heap) (h1 : Z.b1[i]? = some c1) (h2 : Z.b2[i]? = some c2)
    (hQ : ∀ T h' tk ta tb, s.heap.objs.size = T → h'.get? T = some { cls := .type "tuple", data := .seq #[.int c1.toNat ta, .int c2.toNat tb] } → T ∉ Z.wr → Oo Z.wr h0 (zipOs Z (rawInt T) (i + 1) (i + 1)) h' → Q (.done (.ret (.ref T))) { s with heap := h', toks := tk }) :
    wpAny (model prog w) A (Builtin.«zip.__next__» ⟨[.ref Z.z], []⟩) Q E s := by
  obtain ⟨_, hz, rfl⟩ := x.ow _ (.head _)
  obtain ⟨_, hTI, rfl⟩ := x.ow (Z.TI, _) (.tail _ (.tail _ (.tail _ (.tail _ (.head _)))))
  show wpAny _ _ (field (.ref Z.z) 2 >>= _) _ _ _
  refine wpAny_bind (wpAny_field hz rfl (x := .bool false) rfl ?_)
  show wpAny _ _ (field (.ref Z.z) 3 >>= _) _ _ _
  refine wpAny_bind (wpAny_field hz rfl (x := .ref Z.TI) rfl (wpAny_bind (wpAny_seqItems hTI rfl ?_)))
  show wpAny _ _ (Builtin.SmallTypes.ownedTupleIsFree (.ref Z.z) >>= _) _ _ _
  refine wpAny_bind ?_
  unfold Builtin.SmallTypes.ownedTupleIsFree
  refine wpAny_bind (wpAny_field hz rfl (x := .none) rfl (wpAny_pure ?_))
  simp only [if_true]
  have mz : Z.z ∈ Z.wr := .head _
  have mTO : Z.TO ∈ Z.wr := .tail _ (.head _)
  have m1 : Z.i1 ∈ Z.wr := .tail _ (.tail _ (.head _))
  have m2 : Z.i2 ∈ Z.wr := .tail _ (.tail _ (.tail _ (.head _)))
  refine wpAny_bind (wpAny_rule (wpAny_bind (wpAny_field hz rfl (x := .ref Z.TO) rfl (wpAny_bind (wpAny_setField_rec hz (by simp) fun h1' hz1 hs1 => ?_)))))
  have x1 : Oo Z.wr h0 ((Z.z, zipO Z.TI Z.TO .ellipsis) :: (zipOs Z .none i i).tail) h1' := x.turn0 mz hs1 hz1 rfl
  refine wpAny_bind ?_
  simp only [List.zipIdx_cons, List.zipIdx_nil, List.forIn_cons, List.forIn_nil]
  refine wpAny_bind (wpAny_bind (wpAny_onRaise ?_))
  show wpAny _ _ (Builtin.SmallTypes.nextOf (.ref Z.i1) >>= _) _ _ _
  obtain ⟨o1, ho1, hc1, hd1⟩ := x1.ow (Z.i1, bytesO Z.b1 Z.t1 i) (.tail _ (.tail _ (.head _)))
  refine wpAny_bind (nextB_item ⟨o1, ho1, hc1, hd1⟩ h1 fun h2' hit2 hs2 => wpAny_pure ?_)
  obtain ⟨o1', ho1', hP1⟩ := hit2
  have x2 : Oo Z.wr h0 ([(Z.z, zipO Z.TI Z.TO .ellipsis), (Z.TO, pairO)] ++ (Z.i1, bytesO Z.b1 Z.t1 (i + 1)) :: [(Z.i2, bytesO Z.b2 Z.t2 i), (Z.TI, fun o => o = { cls := .type "tuple", data := .seq #[.ref Z.i1, .ref Z.i2] })]) h2' :=
    Oo.turn (O1 := [(Z.z, zipO Z.TI Z.TO .ellipsis), (Z.TO, pairO)]) x1 m1 hs2 ho1' hP1
  obtain ⟨_, hTO, a, b, rfl⟩ := x2.ow (Z.TO, pairO) (.tail _ (.head _))
  refine wpAny_bind (wpAny_seqItems hTO rfl (wpAny_bind (wpAny_updateSeq_pair hTO fun h3' hTO3 hs3 => wpAny_bind (wpAny_letGo (wpAny_pure ?_)))))
  have x3 : Oo Z.wr h0 ([(Z.z, zipO Z.TI Z.TO .ellipsis)] ++ (Z.TO, pairE (.int c1.toNat s.toks) b) :: [(Z.i1, bytesO Z.b1 Z.t1 (i + 1)), (Z.i2, bytesO Z.b2 Z.t2 i), (Z.TI, fun o => o = { cls := .type "tuple", data := .seq #[.ref Z.i1, .ref Z.i2] })]) h3' :=
    Oo.turn (O1 := [(Z.z, zipO Z.TI Z.TO .ellipsis)]) x2 mTO hs3 hTO3 rfl
  refine wpAny_bind (wpAny_bind (wpAny_onRaise ?_))
  show wpAny _ _ (Builtin.SmallTypes.nextOf (.ref Z.i2) >>= _) _ _ _
  obtain ⟨o2, ho2, hc2, hd2⟩ := x3.ow (Z.i2, bytesO Z.b2 Z.t2 i) (.tail _ (.tail _ (.tail _ (.head _))))
  refine wpAny_bind (nextB_item ⟨o2, ho2, hc2, hd2⟩ h2 fun h4' hit4 hs4 => wpAny_pure ?_)
  obtain ⟨o2', ho2', hP2⟩ := hit4
  have x4 : Oo Z.wr h0 ([(Z.z, zipO Z.TI Z.TO .ellipsis), (Z.TO, pairE (.int c1.toNat s.toks) b), (Z.i1, bytesO Z.b1 Z.t1 (i + 1))] ++ (Z.i2, bytesO Z.b2 Z.t2 (i + 1)) :: [(Z.TI, fun o => o = { cls := .type "tuple", data := .seq #[.ref Z.i1, .ref Z.i2] })]) h4' :=
    Oo.turn (O1 := [(Z.z, zipO Z.TI Z.TO .ellipsis), (Z.TO, pairE (.int c1.toNat s.toks) b), (Z.i1, bytesO Z.b1 Z.t1 (i + 1))]) x3 m2 hs4 ho2' hP2
  obtain ⟨_, hTO4, rfl⟩ := x4.ow (Z.TO, pairE (.int c1.toNat s.toks) b) (.tail _ (.head _))
  refine wpAny_bind (wpAny_seqItems hTO4 rfl (wpAny_bind (wpAny_updateSeq_pair hTO4 fun h5' hTO5 hs5 => wpAny_bind (wpAny_letGo (wpAny_pure (wpAny_pure ?_))))))
  have x5 : Oo Z.wr h0 ([(Z.z, zipO Z.TI Z.TO .ellipsis)] ++ (Z.TO, pairO) :: [(Z.i1, bytesO Z.b1 Z.t1 (i + 1)), (Z.i2, bytesO Z.b2 Z.t2 (i + 1)), (Z.TI, fun o => o = { cls := .type "tuple", data := .seq #[.ref Z.i1, .ref Z.i2] })]) h5' :=
    Oo.turn (O1 := [(Z.z, zipO Z.TI Z.TO .ellipsis)]) x4 mTO hs5 hTO5 ⟨_, _, rfl⟩
  have hTO5' : h5'.get? Z.TO = some { cls := .type "tuple", data := .seq #[.int c1.toNat s.toks, .int c2.toNat (s.toks + 1)] } := hTO5
  refine wpAny_bind (wpAny_seqItems hTO5' rfl (wpAny_bind (wpAny_newTuple ?_)))
  have x6 := x5.push { cls := .type "tuple", data := .seq #[.int c1.toNat s.toks, .int c2.toNat (s.toks + 1)] }
  have hT6 : (h5'.push { cls := .type "tuple", data := .seq #[.int c1.toNat s.toks, .int c2.toNat (s.toks + 1)] }).get? h5'.objs.size = some _ := Heap.get?_push_size _ rfl
  have hfar : h5'.objs.size ∉ Z.wr := fun hm => by
    have lt : ∀ p ∈ zipOs Z .ellipsis (i + 1) (i + 1), p.1 < h5'.objs.size := fun p hp => let ⟨o, a, _⟩ := x5.ow p hp; Heap.lt_size a
    have k : ∀ q : Addr, q < h5'.objs.size → h5'.objs.size ≠ q := fun q l e => Nat.lt_irrefl _ (e ▸ l)
    rcases List.mem_cons.mp hm with q | hm
    · exact k _ (lt (Z.z, zipO Z.TI Z.TO .ellipsis) (.head _)) q
    · rcases List.mem_cons.mp hm with q | hm
      · exact k _ (lt (Z.TO, pairO) (.tail _ (.head _))) q
      · rcases List.mem_cons.mp hm with q | hm
        · exact k _ (lt (Z.i1, bytesO Z.b1 Z.t1 (i + 1)) (.tail _ (.tail _ (.head _)))) q
        · rcases List.mem_cons.mp hm with q | hm
          · exact k _ (lt (Z.i2, bytesO Z.b2 Z.t2 (i + 1)) (.tail _ (.tail _ (.tail _ (.head _))))) q
          · cases hm
  show wpAny _ _ (Builtin.SmallTypes.ownedTupleHandOut (.ref Z.z) (.ref h5'.objs.size) >>= _) _ _ _
  refine wpAny_bind ?_
  unfold Builtin.SmallTypes.ownedTupleHandOut
  obtain ⟨_, hz6, rfl⟩ := x6.ow (Z.z, zipO Z.TI Z.TO .ellipsis) (.head _)
  refine wpAny_bind (wpAny_setField_rec hz6 (by simp) fun h7' hz7 hs7 => ?_)
  have x7 := Oo.turn0 (P' := zipO Z.TI Z.TO (rawInt h5'.objs.size)) x6 mz hs7 hz7 rfl
  refine wpAny_setField_rec hz7 (by simp) fun h8' hz8 hs8 => ?_
  have x8 := Oo.turn0 (P' := zipO Z.TI Z.TO (rawInt h5'.objs.size)) x7 mz hs8 hz8 rfl
  have nz : h5'.objs.size ≠ Z.z := fun q => hfar (q ▸ mz)
  exact wpAny_pure (hQ h5'.objs.size h8' _ _ _ (by rw [hs5.1, hs4.1, hs3.1, hs2.1, hs1.1]) (hs8.extBut _ _ nz (hs7.extBut _ _ nz hT6)) hfar x8)
end
end Mine

-- Y3
namespace Mine
section
variable {prog : Program} {w : World} {A : Around} {s : Shared} {E : Value → Shared → Prop}
theorem nextB_end {it : Addr} {b : Array UInt8} {t : Tok} {i : Nat} {Q : Value → Shared → Prop} (hh : A.handled = none) (hit : KBw.IsBytesIter s.heap it b t i) (hx : b[i]? = none)
    (hE : ∀ h' e, Heap.ExtBut it s.heap h' → (∃ o, h'.get? e = some o ∧ o.cls = .type "StopIteration") → E (.ref e) { s with heap := h' }) : wpAny (model prog w) A (Builtin.SmallTypes.nextOf (.ref it)) Q E s := by
  obtain ⟨o, ho, hc, hd⟩ := id hit
  unfold Builtin.SmallTypes.nextOf
  refine wpAny_bind (wpAny_callSpecial?_slot (name := PySem.Str.ofString "__next__") (KBw.iter_typeIs hit) KBw.slot_next (wpAny_call_entry KBw.slot_next (KBw.iter_typeIs hit) KBw.entry_next ?_ (KBw.args_next _)))
  show wpAny _ _ (field (.ref it) 0 >>= _) _ _ s
  refine wpAny_bind (wpAny_field ho hd (x := .bytes b t) rfl ?_)
  refine bm_if_false rfl ?_
  show wpAny _ _ (field (.ref it) 1 >>= _) _ _ s
  refine wpAny_bind (wpAny_field ho hd (x := .int i 0) rfl (wpAny_bind (wpAny_of_eq (a := b) rfl ?_)))
  simp only [Int.toNat_natCast, hx]
  refine wpAny_bind (wpAny_rule (wpAny_bind (wpAny_setField ho hd (by simp) ?_)))
  show wpAny _ _ (newExc (.type "StopIteration") [] >>= _) _ _ _
  refine wpAny_bind ?_
  simp only [newExc, newTuple]
  refine wpAny_bind (wpAny_newObj_type ?_ (by size_fits))
  refine wpAny_bind (m := firstArgMember _ _) (wpAny_of_eq (a := Value.none) (by rfl) ?_)
  refine wpAny_newObj_type ?_ (by size_fits)
  simp only [raiseNew]
  refine wpAny_bind (wpAny_handled ?_)
  rw [show A.in1.handled = none from hh]
  refine wpAny_bind (wpAny_pure (wpAny_throw ?_))
  exact hE _ _ (((Heap.SameBut.update ..).extBut.push _).push _) ⟨_, Heap.get?_push_size _ rfl, rfl⟩
end
end Mine

-- Y4
namespace Mine
section
variable {prog : Program} {w : World} {A : Around} {s : Shared} {Z : ZA} {i : Nat} {h0 : Heap} {E : Value → Shared → Prop}
theorem zipB_stop (hh : A.handled = none) {Q : PySem.Fin → Shared → Prop} (x : Oo Z.wr h0 (zipOs Z .none i i) s.heap) (h1 : Z.b1[i]? = none)
    (hE : ∀ h' e, (∀ b o, b ∉ Z.wr → h0.get? b = some o → h'.get? b = some o) → (∃ o, h'.get? e = some o ∧ o.cls = .type "StopIteration") → E (.ref e) { s with heap := h' }) :
    wpAny (model prog w) A (Builtin.«zip.__next__» ⟨[.ref Z.z], []⟩) Q E s := by
  obtain ⟨_, hz, rfl⟩ := x.ow _ (.head _)
  obtain ⟨_, hTI, rfl⟩ := x.ow (Z.TI, _) (.tail _ (.tail _ (.tail _ (.tail _ (.head _)))))
  show wpAny _ _ (field (.ref Z.z) 2 >>= _) _ _ _
  refine wpAny_bind (wpAny_field hz rfl (x := .bool false) rfl ?_)
  show wpAny _ _ (field (.ref Z.z) 3 >>= _) _ _ _
  refine wpAny_bind (wpAny_field hz rfl (x := .ref Z.TI) rfl (wpAny_bind (wpAny_seqItems hTI rfl ?_)))
  show wpAny _ _ (Builtin.SmallTypes.ownedTupleIsFree (.ref Z.z) >>= _) _ _ _
  refine wpAny_bind ?_
  unfold Builtin.SmallTypes.ownedTupleIsFree
  refine wpAny_bind (wpAny_field hz rfl (x := .none) rfl (wpAny_pure ?_))
  simp only [if_true]
  have mz : Z.z ∈ Z.wr := .head _
  refine wpAny_bind (wpAny_rule (wpAny_bind (wpAny_field hz rfl (x := .ref Z.TO) rfl (wpAny_bind (wpAny_setField_rec hz (by simp) fun h1' hz1 hs1 => ?_)))))
  have x1 : Oo Z.wr h0 ((Z.z, zipO Z.TI Z.TO .ellipsis) :: (zipOs Z .none i i).tail) h1' := x.turn0 mz hs1 hz1 rfl
  refine wpAny_bind ?_
  simp only [List.zipIdx_cons, List.zipIdx_nil, List.forIn_cons, List.forIn_nil]
  refine wpAny_bind (wpAny_bind (wpAny_onRaise ?_))
  show wpAny _ _ (Builtin.SmallTypes.nextOf (.ref Z.i1) >>= _) _ _ _
  obtain ⟨o1, ho1, hc1, hd1⟩ := x1.ow (Z.i1, bytesO Z.b1 Z.t1 i) (.tail _ (.tail _ (.head _)))
  have hne : Z.z ≠ Z.i1 := (List.pairwise_cons.mp x1.owD).1 (Z.i1, bytesO Z.b1 Z.t1 i) (.tail _ (.head _))
  refine wpAny_bind (nextB_end hh ⟨o1, ho1, hc1, hd1⟩ h1 fun h2' e hx he => ?_)
  have hz2 := hx _ _ hne hz1
  obtain ⟨oe, hoe, hce⟩ := he
  have hez : e ≠ Z.z := fun q => by rw [q, hz2] at hoe; cases hoe; simp at hce
  refine wpAny_setField_rec hz2 (by simp) fun h3' _ hs3 => hE h3' e (fun b o hb g => hs3.extBut _ _ (fun q => hb (q ▸ mz)) (hx _ _ (fun q => hb (q ▸ .tail _ (.tail _ (.head _)))) (x1.kp b o hb g))) ⟨oe, hs3.extBut _ _ hez hoe, hce⟩
theorem zipO_type {f : Value} (x : Oo Z.wr h0 (zipOs Z f i i) s.heap) : s.TypeIs (.ref Z.z) "zip" := by
  obtain ⟨_, hz, rfl⟩ := x.ow _ (.head _)
  exact ⟨_, hz, rfl⟩
theorem Oo.refl {wr : List Addr} {h0 : Heap} {O : Own} {h : Heap} (x : Oo wr h0 O h) : Oo wr h O h := ⟨x.ow, x.owD, fun _ _ _ e => e⟩
theorem zipB_item {c1 c2 : UInt8} {Q : Option Value → Shared → Prop} (x : Oo Z.wr h0 (zipOs Z .none i i) s.heap) (h1 : Z.b1[i]? = some c1) (h2 : Z.b2[i]? = some c2)
    (hQ : ∀ T h' tk ta tb, s.heap.objs.size = T → h'.get? T = some { cls := .type "tuple", data := .seq #[.int c1.toNat ta, .int c2.toNat tb] } → T ∉ Z.wr → Oo Z.wr h0 (zipOs Z (rawInt T) (i + 1) (i + 1)) h' → Q (some (.ref T)) { s with heap := h', toks := tk }) :
    wpAny (model prog w) A (pyNext (.ref Z.z)) Q E s := by
  unfold pyNext
  refine wpAny_bind (wpAny_attempt (wpAny_callSpecial?_slot (name := Str.ofString "__next__") (zipO_type x) PySem.F.slot_zip_next (wpAny_call_entry PySem.F.slot_zip_next (zipO_type x) PySem.F.entry_zip_next (zipB_next x h1 h2 fun T h' tk ta tb hTn hT hTw y => ?_) (PySem.F.args_zip_next_1 _))))
  exact ⟨_, rfl, wpAny_pure (hQ T h' tk ta tb hTn hT hTw y)⟩
theorem zipB_walk (hh : A.handled = none) {n : Nat} (e1 : Z.b1.size = n) (e2 : Z.b2.size = n) :
    WalksU prog w A (Z.z) (Z.TI :: Z.wr) Z.wr n (fun i vals => ∃ c1 c2 ta tb, Z.b1[i]? = some c1 ∧ Z.b2[i]? = some c2 ∧ vals = #[.int c1.toNat ta, .int c2.toNat tb])
      (fun i h => Oo Z.wr h (zipOs Z .none i i) h) (fun i T h => T ∉ Z.wr ∧ Oo Z.wr h (zipOs Z (rawInt T) (i + 1) (i + 1)) h) where
  sub := fun b hb => .tail _ hb
  frame := fun i h h' st hk => ⟨fun p hp => by
    obtain ⟨o, a, b⟩ := st.ow p hp
    refine ⟨o, hk _ ?_ o a, b⟩
    simp only [zipOs, List.mem_cons, List.not_mem_nil, or_false] at hp
    rcases hp with rfl | rfl | rfl | rfl | rfl <;> simp [ZA.wr], st.owD, fun _ _ _ e => e⟩
  item := fun i s Q E hi st hQ => by
    have g1 : Z.b1[i]? = some Z.b1[i] := Array.getElem?_eq_getElem (by omega)
    have g2 : Z.b2[i]? = some Z.b2[i] := Array.getElem?_eq_getElem (by omega)
    exact zipB_item st g1 g2 fun T h' tk ta tb _ hT hTw x => hQ T _ h' tk ⟨_, _, ta, tb, g1, g2, rfl⟩ ⟨_, hT, rfl, _, rfl⟩ ⟨hTw, x.refl⟩ x.kp
  go := fun elts k pos i T s Q E hm hQ => by
    obtain ⟨_, hz, rfl⟩ := hm.2.ow _ (.head _)
    refine wpAny_letOwnedTupleGo_zip hz fun h' hz' hs' => ?_
    have x := hm.2.turn0 (P' := zipO Z.TI Z.TO .none) (.head _) hs' hz' rfl
    exact hQ h' x.refl x.kp
  apart := fun i T h hm => hm.1
  done := fun s Q E st hQ => by
    unfold pyNext
    refine wpAny_bind (wpAny_attempt (wpAny_callSpecial?_slot (name := Str.ofString "__next__") (zipO_type st) PySem.F.slot_zip_next
      (wpAny_call_entry PySem.F.slot_zip_next (zipO_type st) PySem.F.entry_zip_next (zipB_stop (by exact hh) st (Array.getElem?_eq_none (Nat.le_of_eq e1)) fun h' e hk he => ?_) (PySem.F.args_zip_next_1 _))))
    obtain ⟨o, ho, hc⟩ := he
    refine wpAny_bind (wpAny_isInstance (T := "StopIteration") (b := true) ⟨o, ho, hc⟩ isSubtype_stop ?_)
    exact wpAny_pure (hQ h' s.toks hk)
  self := fun i s Q E st hQ => by
    obtain ⟨_, hz, rfl⟩ := st.ow _ (.head _)
    exact wpAny_pyIter_zip hz hQ
end
end Mine

-- Y5
namespace Mine
abbrev bIt (b : Array UInt8) (t : Tok) : Obj := { cls := .type "bytes_iterator", data := .fields #[.bytes b t, .int 0 0] }
abbrev zb1 (h : Heap) (b1 : Array UInt8) (t1 : Tok) : Heap := h.push (bIt b1 t1)
abbrev zb2 (h : Heap) (b1 : Array UInt8) (t1 : Tok) (b2 : Array UInt8) (t2 : Tok) : Heap := (zb1 h b1 t1).push (bIt b2 t2)
abbrev zb3 (h : Heap) (b1 : Array UInt8) (t1 : Tok) (b2 : Array UInt8) (t2 : Tok) : Heap := (zb2 h b1 t1 b2 t2).push { cls := .type "tuple", data := .seq #[.ref h.objs.size, .ref (zb1 h b1 t1).objs.size] }
abbrev zb4 (h : Heap) (b1 : Array UInt8) (t1 : Tok) (b2 : Array UInt8) (t2 : Tok) : Heap := (zb3 h b1 t1 b2 t2).push { cls := .type "tuple", data := .seq #[.none, .none] }
abbrev zb5 (h : Heap) (b1 : Array UInt8) (t1 : Tok) (b2 : Array UInt8) (t2 : Tok) : Heap := (zb4 h b1 t1 b2 t2).push { cls := .type "zip", data := .fields #[.none, .bool false, .bool false, .ref (zb2 h b1 t1 b2 t2).objs.size, .ref (zb3 h b1 t1 b2 t2).objs.size] }
set_option maxHeartbeats 4000000 in
theorem meets_zipB (b1 b2 : Array UInt8) (t1 t2 : Tok) :
    Meets (Builtin.«zip.__new__» ⟨[.type "zip", .bytes b1 t1, .bytes b2 t2], []⟩) (fun _ R s =>
      R (.ok (.ret (.ref (zb4 s.heap b1 t1 b2 t2).objs.size))) { s with heap := zb5 s.heap b1 t1 b2 t2 }) :=
  .of_wp fun prog w A R s h => by
    obtain ⟨hp, g, d, tk, os⟩ := s
    have hsub := sub_zip
    wp_walk using (KBw.pyIter_bytes (b := b1) (t := t1)), (KBw.pyIter_bytes (b := b2) (t := t2))
    exact ⟨_, rfl, h⟩
section
variable {prog : Program} {w : World} {A : Around} {E : Value → Shared → Prop} {s : Shared}
abbrev zaAt (n : Nat) (b1 b2 : Array UInt8) (t1 t2 : Tok) : ZA := ⟨n + 4, n + 2, n + 3, n, n + 1, b1, b2, t1, t2⟩
theorem call_zipB {b1 b2 : Array UInt8} {t1 t2 : Tok} {Q : Value → Shared → Prop}
    (h : ∀ h', Oo (zaAt s.heap.objs.size b1 b2 t1 t2).wr h' (zipOs (zaAt s.heap.objs.size b1 b2 t1 t2) .none 0 0) h' → Le s.heap h' → h'.objs.size = s.heap.objs.size + 5 → Q (.ref (s.heap.objs.size + 4)) { s with heap := h' }) :
    wpAny (model prog w) A (call (.type "zip") [.bytes b1 t1, .bytes b2 t2]) Q E s := by
  refine callType_new F.called_zip (by decide) (F.typeCall_zip_2 _ _) (F.newCall_zip_2 _ _) (fun obj => F.args_object_init_3 obj _ _) F.entry_zip_new
    (meets_zipB b1 b2 t1 t2) ?_
  have z1 : (zb1 s.heap b1 t1).objs.size = s.heap.objs.size + 1 := Heap.size_push ..
  have z2 : (zb2 s.heap b1 t1 b2 t2).objs.size = s.heap.objs.size + 2 := by rw [Heap.size_push, z1]
  have z3 : (zb3 s.heap b1 t1 b2 t2).objs.size = s.heap.objs.size + 3 := by rw [Heap.size_push, z2]
  have z4 : (zb4 s.heap b1 t1 b2 t2).objs.size = s.heap.objs.size + 4 := by rw [Heap.size_push, z3]
  have z5 : (zb5 s.heap b1 t1 b2 t2).objs.size = s.heap.objs.size + 5 := by rw [Heap.size_push, z4]
  have g5 : (zb5 s.heap b1 t1 b2 t2).get? (zb4 s.heap b1 t1 b2 t2).objs.size = some _ := Heap.get?_push_size _ rfl
  have g4 : (zb5 s.heap b1 t1 b2 t2).get? (zb3 s.heap b1 t1 b2 t2).objs.size = some _ := Heap.get?_push_of_some _ (Heap.get?_push_size _ rfl)
  have g3 : (zb5 s.heap b1 t1 b2 t2).get? (zb2 s.heap b1 t1 b2 t2).objs.size = some _ := Heap.get?_push_of_some _ (Heap.get?_push_of_some _ (Heap.get?_push_size _ rfl))
  have g2 : (zb5 s.heap b1 t1 b2 t2).get? (zb1 s.heap b1 t1).objs.size = some _ := Heap.get?_push_of_some _ (Heap.get?_push_of_some _ (Heap.get?_push_of_some _ (Heap.get?_push_size _ rfl)))
  have g1 : (zb5 s.heap b1 t1 b2 t2).get? s.heap.objs.size = some _ := Heap.get?_push_of_some _ (Heap.get?_push_of_some _ (Heap.get?_push_of_some _ (Heap.get?_push_of_some _ (Heap.get?_push_size _ rfl))))
  show _ ∧ _
  rw [z2, z3, z4] at g5
  rw [z1, z2] at g3
  rw [z3] at g4
  rw [z1] at g2
  rw [z4]
  refine ⟨⟨_, g5, rfl⟩, h _ ⟨fun p hp => ?_, ?_, fun _ _ _ e => e⟩ (fun c o x => Heap.get?_push_of_some _ (Heap.get?_push_of_some _ (Heap.get?_push_of_some _ (Heap.get?_push_of_some _ (Heap.get?_push_of_some _ x))))) z5⟩
  · simp only [zipOs, List.mem_cons, List.not_mem_nil, or_false] at hp
    rcases hp with rfl | rfl | rfl | rfl | rfl
    · exact ⟨_, g5, rfl⟩
    · exact ⟨_, g4, _, _, rfl⟩
    · exact ⟨_, g1, rfl, rfl⟩
    · exact ⟨_, g2, rfl, rfl⟩
    · exact ⟨_, g3, rfl⟩
  · simp [zipOs, List.pairwise_cons]
end
end Mine

-- G1
namespace Mine
section
variable {M : Model} {A : Around} {E : Value → Shared → Prop} {s : Shared}
theorem Tb.ext1 {h h' : Heap} (x : Tb h) (hx : Heap.ExtBut 156 h h') (t : TabOk h' 160 156) : Tb h' :=
  ⟨t, let ⟨ps, ⟨⟨o, vs, a, r⟩, b⟩, y⟩ := x.t2; ⟨ps, ⟨⟨o, vs, hx _ _ (by decide) a, r⟩, hx _ _ (by decide) b⟩, y.extBut hx (by decide) (by decide)⟩⟩
/-- the code of a generator expression of _interpolate -/
theorem wp_genCode {env : Env} {pos : Pos} {q : Str} {scope : Scope} {Q : Value → Shared → Prop} (hc : env.code = .ref 160) (tb : Tb s.heap)
    (hQ : ∀ code h' tk, Heap.ExtBut 156 s.heap h' → s.heap.objs.size ≤ h'.objs.size → Tb h' → Q code { s with heap := h', toks := tk }) : wpAny M A (genexprCode env pos q scope) Q E s := by
  obtain ⟨ps, htab, hok⟩ := tb.t1
  cases hnf : codeAmong pos ps.toList with
  | none =>
    exact wpAny_genexprCodeX hc hok htab hnf fun c' h' tk hx hge hlt hcode _ ht _ => hQ _ h' tk hx (Nat.le_trans hge (Nat.le_of_lt hlt)) (tb.ext1 hx ⟨_, ht, hcode⟩)
  | some cv =>
    obtain ⟨o, vs, file, tf, flags, tg, inF, text, tt, op, ho, hd, h11, h2, h7, h9, h10, hop, hpd, htr, hne⟩ := id hok
    unfold genexprCode codeAt
    rw [hc, if_neg (show ¬ ((Value.ref 160 == Value.none) = true) from Bool.false_ne_true)]
    refine wpAny_bind (wpAny_fieldsOf ho hd ?_)
    rw [h11]
    refine wpAny_bind (wpAny_fieldsOf hop hpd ?_)
    rw [hnf]
    exact wpAny_pure (hQ cv s.heap s.toks (fun _ _ _ e => e) (Nat.le_refl _) tb)
theorem wp_builtins {w : Wo} {r : Addr} {Q : Addr → Shared → Prop} (B : Base w s.heap) (h : Q 0 s) : wpAny M A (builtinsFor 3 r) Q E s := by
  obtain ⟨o, e, c, d, p⟩ := B.bm
  exact wpAny_builtinsFor (glob_ns B) (by kernel_rfl) (by decide) e c d p h
end

/-- a generator stands ready: s1 is what the frame knew last -/
structure GRdy (C : Cx) (ρ : List (Str × D)) (n : Nat) (P : Nat → Value → Prop) (s : Shared) (v : Value) (s5 : Shared) : Prop where
  ex : ∃ a fp wr g St s1, v = .ref a ∧ C.I ρ s1 ∧ Mv C.w s s1 ∧ Mv C.w s1 s5 ∧ Tb s5.heap ∧ WalksS C.prog C.w.w C.A.in4 a fp wr (GenOnlyQ g) n P St ∧ St 0 s5 ∧ (∀ b ∈ fp, b < s5.heap.objs.size) ∧
    (∀ b ∈ wr, s1.heap.objs.size ≤ b) ∧ a ∈ fp ∧ ∀ i s, St i s → s.heap.IsGen a g
theorem moved_back {C : Cx} {ρ : List (Str × D)} {s1 s5 s' : Shared} {wr : List Addr} {g : Nat} (ht : C.w.t = true) (i : C.I ρ s1) (m : Mv C.w s1 s5) (tb : Tb s5.heap) (hw : ∀ b ∈ wr, s1.heap.objs.size ≤ b) (hm : Moved wr (GenOnlyQ g) s5 s') (hz : s5.heap.objs.size ≤ s'.heap.objs.size) : C.I ρ s' ∧ Mv C.w s1 s' := by
  have hlow : 233 ≤ s1.heap.objs.size := i.rdy.low
  have far : ∀ b, b < s1.heap.objs.size → b ∉ wr := fun b hb hm => Nat.lt_irrefl _ (Nat.lt_of_lt_of_le hb (hw b hm))
  have mv : Mv C.w s1 s' := ⟨⟨fun b o n e => hm.heap b o (far b (Heap.lt_size e)) (m.kp.all b o n e), Nat.le_trans m.kp.size hz⟩, hm.os.trans m.os, fun h => (m.gens h).moved hm.gens, fun e => by rw [ht] at e; cases e⟩
  have k : ∀ b o, b < 233 → s5.heap.get? b = some o → s'.heap.get? b = some o := fun b o hb e => hm.heap b o (far b (Nat.lt_of_lt_of_le hb hlow)) e
  have tk : ∀ {c P : Nat}, c < 233 → P < 233 → TabOk s5.heap c P → TabOk s'.heap c P := fun hc hP ⟨ps, ⟨⟨o, vs, a, r⟩, b⟩, x⟩ =>
    ⟨ps, ⟨⟨o, vs, k _ _ hc a, r⟩, k _ _ hP b⟩, by
      obtain ⟨o, vs, file, tf, flags, tg, inF, text, tt, op, a, r1, r2, r3, r4, r5, r6, b, r⟩ := x
      exact ⟨o, vs, file, tf, flags, tg, inF, text, tt, op, k _ _ hc a, r1, r2, r3, r4, r5, r6, k _ _ hP b, r⟩⟩
  exact ⟨i.step mv ⟨tk (by decide) (by decide) tb.t1, tk (by decide) (by decide) tb.t2⟩, mv⟩

noncomputable def GE (C : Cx) (ρ : List (Str × D)) (e : Expr) (n : Nat) (P : Nat → Value → Prop) : Prop := ∀ s, C.I ρ s → wpAny C.M C.A (eval e C.env) (GRdy C ρ n P s) NoE s

/-- the frame of a generator expression, at one of its items -/
theorem In.gen {w : Wo} {env : Env} {X : List Addr} {F : List (D × Value)} {O : Own} {s0 s1 t : Shared} {ρ ρ' : List (Str × D)} {scope : Scope} {L : Addr} {code : Value} {m : Str → Option Value} (out : In w env X F O s0 ρ s1)
    (hL : s1.heap.objs.size ≤ L) (k : ∀ b o, isTab b = false → s1.heap.get? b = some o → t.heap.get? b = some o) (tb : Tb t.heap) (hn : t.heap.Ns L m) (hk : scope.kind = .function)
    (hρ : ∀ p ∈ ρ', Has ρ p.1 p.2 ∧ capt scope scope env p.1 = true) (x : List (Str × D)) (hx : ∀ n d, List.lookup n (x ++ ρ') = some d → scope.names.lookup n = some .local → ∃ v, m n = some v ∧ sat d v (hideAll t.heap (L :: X)))
    (hx' : ∀ p ∈ x, scope.names.lookup p.1 = some .local) : In ⟨w.w, false⟩ (genEnv scope (clo scope env) L code 0 env) (L :: X) [] [] t (x ++ ρ') t := by
  have hLt : L < t.heap.objs.size := hn.lt
  have kp : Kp ⟨w.w, true⟩ s1.heap t.heap := ⟨fun b o n e => k b o (n rfl) e, Nat.le_of_lt (Nat.lt_of_le_of_lt hL hLt)⟩
  have hlow : 233 ≤ s1.heap.objs.size := out.rdy.low
  have c0 : ∀ n c, (clo scope env).lookup n = some c → env.cells.lookup n = some c := fun n c e => clo_in e
  have up : Le (hideAll s1.heap X) (hideAll t.heap (L :: X)) := hide_up (w := ⟨w.w, true⟩) out.t1 out.t2 kp fun a ha => by
    rcases List.mem_cons.mp ha with q | ha
    · exact .inr (q ▸ hL)
    · exact .inl ha
  have bs : Base ⟨w.w, true⟩ s1.heap := let ⟨a, b, c, d⟩ := out.base; ⟨a, b, c, d⟩
  have bt := bs.kp kp
  refine { wd0 := ⟨bt.1, bt.2, bt.3, bt.4⟩, tb := tb, mv := .refl t, kind := hk, glob := out.glob, bi := rfl, ns := ⟨m, hn, hx⟩, isc := fun n c e => ?_, cl := fun n d e kd => ?_, locX := .head _, celX := fun n c e => .tail _ (out.celX n c (c0 n c e)),
           celT := fun n c e => out.celT n c (c0 n c e), locN := fun _ e => (nomatch e), locT := notTab_of_ge hlow hL, celN := fun e => (nomatch e), locC := fun n c e => Nat.ne_of_lt (Nat.lt_of_lt_of_le (out.lt _ (out.celX n c (c0 n c e))) hL),
           celC := fun n n' c e e' => out.celC n n' c (c0 n c e) (c0 n' c e'), t1 := .tail _ out.t1, t2 := .tail _ out.t2, lt := fun a ha => ?_, low := Nat.le_trans hlow kp.size, fz := fun _ h => (nomatch h), ow := fun _ h => (nomatch h), owD := .nil }
  · obtain ⟨v, hv⟩ := out.isc n c (c0 n c e)
    exact ⟨v, Heap.IsCell.kp kp (out.celT n c (c0 n c e)) hv⟩
  · have hm : List.lookup n ρ' = some d := by
      have key : ∀ (x : List (Str × D)), (∀ p ∈ x, scope.names.lookup p.1 = some .local) → List.lookup n (x ++ ρ') = some d → List.lookup n ρ' = some d := by
        intro x
        induction x with
        | nil => exact fun _ e => e
        | cons p x ih =>
          intro hx' e
          rcases lookup_cons_of (show List.lookup n ((p.1, p.2) :: (x ++ ρ')) = some d from e) with ⟨rfl, _⟩ | ⟨_, e⟩
          · have h1 : (genEnv scope (clo scope env) L code 0 env).kindOf p.1 = some .local := hx' p (.head _)
            rw [h1] at kd
            rcases kd with kd | kd <;> cases kd
          · exact ih (fun p hp => hx' p (.tail _ hp)) e
      exact key x hx' e
    obtain ⟨hr, hc⟩ := hρ (n, d) (lookup_mem hm)
    have hcc := hc
    unfold capt at hc
    simp only [Bool.and_eq_true] at hc
    have hk' : env.kindOf n = some .cell ∨ env.kindOf n = some .free := by
      have := hc.1.1
      split at this <;> first | (rename_i q; exact .inl q) | (rename_i q; exact .inr q) | cases this
    obtain ⟨c, v, a, b, y⟩ := out.cl n d hr hk'
    exact ⟨c, v, capt_clo hcc a, Heap.IsCell.kp kp (out.celT n c a) b, sat_mono up y⟩
  · rcases List.mem_cons.mp ha with q | ha
    · exact q ▸ hLt
    · exact Nat.lt_of_lt_of_le (out.lt a ha) kp.size
end Mine

-- G2
namespace Mine
structure GenOk (C : Cx) (scope : Scope) : Prop where
  clos : closureFor scope C.env = pure (clo scope C.env)
  kind : scope.kind = .function
  co : scope.isCoroutine = false
  noCell : ∀ y ∈ scope.names, y.2 ≠ .cell
  dot : scope.names.lookup (".0" : Str) = some NameKind.local
noncomputable def genOkB (scope : Scope) : Bool := (scope.kind == .function && !scope.isCoroutine) && ((scope.names.all fun x => x.2 != .cell) && scope.names.lookup (".0" : Str) == some NameKind.local)
theorem GenOk.of {C : Cx} {scope : Scope} (h1 : closureFor scope C.env = pure (clo scope C.env)) (h2 : genOkB scope = true) : GenOk C scope := by
  unfold genOkB at h2
  simp only [Bool.and_eq_true, beq_iff_eq, Bool.not_eq_true', List.all_eq_true, bne_iff_ne, ne_eq] at h2
  exact ⟨h1, h2.1.1, h2.1.2, h2.2.1, h2.2.2⟩
theorem passing_all (n : Nat) : passing (fun _ => true) n 0 = List.range n := by unfold passing; simp
theorem Keeps.of {w : World} {s t : Shared} (m : Mv ⟨w, false⟩ s t) : Keeps s t := by
  obtain ⟨h, g, d, tk, os⟩ := t
  obtain ⟨g1, g2⟩ := m.gen0 rfl
  obtain rfl : g = s.gens := g1
  obtain rfl : d = s.drawn := g2
  obtain rfl : os = s.os := m.os
  exact ⟨h, tk, rfl, fun b o e => m.kp.all b o (fun q => nomatch q) e⟩
theorem Room.gen {A A' : Around} {k : Nat} (R : Room A (k + 1)) (hh : A'.handled = none) (hd : A'.depth ≤ A.depth + 1) (hu : A'.units ≤ A.units + 8) : Room A' k := ⟨hh, by have := R.dep; omega, by have := R.un; omega⟩
theorem noTab_ne {b : Addr} (h : isTab b = false) : b ≠ 156 := notTab h
section
variable {C : Cx} {ρ ρ' : List (Str × D)}
theorem Tb.at {h h' : Heap} (x : Tb h) (k : ∀ b o, b < 233 → h.get? b = some o → h'.get? b = some o) : Tb h' := by
  have tk : ∀ {c P : Nat}, c < 233 → P < 233 → TabOk h c P → TabOk h' c P := fun hc hP ⟨ps, ⟨⟨o, vs, a, r⟩, b⟩, x⟩ =>
    ⟨ps, ⟨⟨o, vs, k _ _ hc a, r⟩, k _ _ hP b⟩, by
      obtain ⟨o, vs, file, tf, flags, tg, inF, text, tt, op, a, r1, r2, r3, r4, r5, r6, b, r⟩ := x
      exact ⟨o, vs, file, tf, flags, tg, inF, text, tt, op, k _ _ hc a, r1, r2, r3, r4, r5, r6, k _ _ hP b, r⟩⟩
  exact ⟨tk (by decide) (by decide) x.t1, tk (by decide) (by decide) x.t2⟩
theorem GE.list {x : Str} {px : Pos} {iter elt : Expr} {scope : Scope} {pos : Pos} {ds : List D} {val : Nat → Int} {k : Nat} (ht : C.w.t = true) (hcode : C.env.code = .ref 160) (R : Room C.A (k + 1)) (hi : Ev C ρ iter (.list ds)) (K : GenOk C scope)
    (hx : scope.names.lookup x = some .local) (hρ : ∀ p ∈ ρ', Has ρ p.1 p.2 ∧ capt scope scope C.env p.1 = true)
    (hN : ρ'.all (fun p => scope.names.lookup p.1 != some .local) = true)
    (helt : ∀ A' L code X t i d, Room A' k → ds[i]? = some d → Ev ⟨⟨C.w.w, false⟩, C.prog, A', genEnv scope (clo scope C.env) L code 0 C.env, X, t, [], []⟩ ((x, d) :: ρ') elt (.int (val i)))
    (hs : ∀ y, genFold iter C.env y = pure y := by intro _; rfl) : GE C ρ (.GeneratorExp elt [⟨.Name x px, iter, [], 0⟩] scope pos) ds.length (fun i y => ∃ t, y = .int (val i) t) := fun s i0 => by
  refine wpAny_GeneratorExp_walksQD R.hd K.co K.clos K.noCell K.dot hx K.kind (Nat.lt_of_le_of_lt (Nat.le_trans (Nat.le_add_right _ _) R.dep) (by decide)) (wp_mono (hi s i0) fun xv s1 q => ?_) hs
  obtain ⟨l, vs, rfl, hl, hss⟩ := (Lst.list ds).in_ q.v
  have hlen : vs.length = ds.length := sats_length hss
  obtain ⟨ol, hol, hlr⟩ := id hl
  have hlt : l < s1.heap.objs.size := Heap.lt_size hol
  refine wpAny_pyIter_list hl ⟨(q.i.push _).base.lim, ?_⟩
  refine wp_genCode hcode (q.i.push _).tb fun code h3 tk3 hx3 hz3 tb3 => ?_
  have hz2 : (s1.heap.push { cls := .type "list_iterator", data := .fields #[.ref l, .int 0 0] }).objs.size = s1.heap.objs.size + 1 := Heap.size_push ..
  have hz13 : s1.heap.objs.size < h3.objs.size := by
    have : s1.heap.objs.size + 1 ≤ h3.objs.size := hz2 ▸ hz3
    exact this
  have up3 : ∀ b o, isTab b = false → s1.heap.get? b = some o → h3.get? b = some o := fun b o hb e => hx3 b o (noTab_ne hb) (Heap.get?_push_of_some _ e)
  have m13 : Mv C.w s1 { s1 with heap := h3, toks := tk3 } := ⟨⟨fun b o n e => up3 b o (n ht) e, Nat.le_of_lt hz13⟩, rfl, id, fun _ => ⟨rfl, rfl⟩⟩
  have i3 := q.i.step m13 tb3
  rw [q.i.glob]
  refine wp_builtins i3.base ?_
  have hIl : l ≠ s1.heap.objs.size := Nat.ne_of_lt hlt
  have l156 : l ≠ 156 := fun e => by
    obtain ⟨ps, ⟨_, t2⟩, _⟩ := q.i.tb.t1
    rw [e, t2] at hol
    cases hol
    exact absurd hlr.1 (by simp)
  have i156 : s1.heap.objs.size ≠ 156 := fun e => by
    have := q.i.rdy.low
    rw [e] at this
    exact absurd this (by decide)
  have hl3 : h3.IsList l vs.toArray := ⟨ol, hx3 _ _ l156 (Heap.get?_push_of_some _ hol), hlr⟩
  have hit3 : h3.IsListIter s1.heap.objs.size l 0 := ⟨_, hx3 _ _ i156 (Heap.get?_push_size _ rfl), rfl, rfl⟩
  have hfp : ∀ b ∈ [s1.heap.objs.size, l], b < h3.objs.size := fun b hb => by
    rcases List.mem_cons.mp hb with rfl | hb
    · exact hz13
    · rcases List.mem_cons.mp hb with rfl | hb
      · exact Nat.lt_trans hlt hz13
      · cases hb
  have hcw : cStatics ∉ [s1.heap.objs.size] := fun hm => by
    have h1 := q.i.rdy.low
    have h2 : cStatics < 233 := by decide
    rw [← List.mem_singleton.mp hm] at h1
    exact absurd h1 (Nat.not_le.mpr h2)
  refine ⟨s1.heap.objs.size, [s1.heap.objs.size, l], [s1.heap.objs.size], vs.toArray.size, _, _, fun _ => true, fun i y => ∃ t, y = .int (val i) t, rfl, fun A' hA => Walks.list hA _ l hIl vs.toArray,
    ⟨hit3, hl3⟩, hfp, i3.base.lim, hcw, fun href hhref => ⟨fun A' E' i v s₂ m₂ hA hD hU hP hn hm hk => wpAny_pure ⟨rfl, s₂.heap, s₂.toks, rfl, fun _ _ e => e⟩, fun A' E' i v s₂ m₂ hA hD hU hP hp hn hm hk => ?_⟩, fun a h5 tk gs hgb hlt5 hsz5 hk5 W hat => ⟨?_⟩⟩
  · have hlow := q.i.rdy.low
    have k1 : ∀ b o, b < s1.heap.objs.size → isTab b = false ∨ b < 233 → h3.get? b = some o → s₂.heap.get? b = some o := fun b o hb _ e => hk b (List.mem_range.mpr (Nat.lt_trans hb hz13)) (fun hm => Nat.lt_irrefl _ ((List.mem_singleton.mp hm) ▸ hb)) o (hhref b o e)
    have tb' : Tb s₂.heap := tb3.at fun b o hb e => k1 b o (Nat.lt_of_lt_of_le hb hlow) (.inr hb) e
    have kk : ∀ b o, isTab b = false → s1.heap.get? b = some o → s₂.heap.get? b = some o := fun b o hb e => k1 b o (Heap.lt_size e) (.inl hb) (up3 b o hb e)
    obtain ⟨hiv, hv⟩ : ∃ h : i < vs.length, vs[i] = v := by
      have := Array.getElem?_eq_some_iff.mp hP
      obtain ⟨h1, h2⟩ := this
      exact ⟨by simpa using h1, by simpa using h2⟩
    obtain ⟨d, hd⟩ : ∃ d, ds[i]? = some d := ⟨_, List.getElem?_eq_getElem (by omega)⟩
    obtain ⟨v', hv', hsat⟩ := sats_get hss hd
    have hvv : v' = v := by rw [List.getElem?_eq_getElem hiv, hv] at hv'; exact (Option.some.inj hv').symm
    subst hvv
    have kp : Kp ⟨C.w.w, true⟩ s1.heap s₂.heap := ⟨fun b o n e => kk b o (n rfl) e, Nat.le_of_lt (Nat.lt_trans hz13 hn.lt)⟩
    have i2 := In.gen (L := h3.objs.size) (code := code) q.i (Nat.le_of_lt hz13) kk tb' hn K.kind hρ [(x, d)] (fun n d' e hl' => by
      rcases lookup_cons_of (show List.lookup n ((x, d) :: ρ') = some d' from e) with ⟨rfl, rfl⟩ | ⟨_, e⟩
      · exact ⟨_, hm, sat_mono (hide_up q.i.t1 q.i.t2 kp fun a ha => by
          rcases List.mem_cons.mp ha with e | ha
          · exact .inr (e ▸ Nat.le_of_lt hz13)
          · exact .inl ha) hsat⟩
      · have := List.all_eq_true.mp hN _ (lookup_mem e)
        simp only [bne_iff_ne, ne_eq] at this
        exact absurd hl' this) (fun p hp => by rw [List.mem_singleton.mp hp]; exact hx)
    exact wpAny_mono (helt A' h3.objs.size code _ s₂ i d (R.gen hA hD hU) hd s₂ i2) (fun y s3 z => ⟨of_int z.v, Keeps.of z.m⟩) fun _ _ e => e.elim
  · have ep : passing (fun _ => true) vs.toArray.size 0 = List.range ds.length := by rw [passing_all]; simp [hlen]
    rw [ep] at W
    have W2 := W.imp (P' := fun i y => ∃ t, y = Value.int (val i) t) fun j y ⟨i, hi, t, e⟩ => by
      obtain ⟨h1, h2⟩ := List.getElem?_eq_some_iff.mp hi
      rw [List.getElem_range] at h2
      exact ⟨t, h2 ▸ e⟩
    rw [List.length_range] at W2
    refine ⟨a, _, _, _, _, s1, rfl, q.i, q.m, ?_, tb3.le hk5, W2, hat, fun b hb => ?_, fun b hb => ?_, List.mem_cons_self, fun i s st => st.1⟩
    · exact ⟨⟨fun b o n e => hk5 _ _ (up3 b o (n ht) e), by show s1.heap.objs.size ≤ h5.objs.size; rw [hsz5]; exact Nat.le_of_lt (Nat.lt_succ_of_lt (Nat.lt_trans hz13 hlt5))⟩, rfl, fun h => AllBare.push h hgb, fun e => by rw [ht] at e; cases e⟩
    · show b < h5.objs.size
      rw [hsz5]
      rcases List.mem_cons.mp hb with rfl | hb
      · exact Nat.lt_succ_self _
      · rcases List.mem_cons.mp hb with rfl | hb
        · exact Nat.lt_succ_of_lt hlt5
        · exact Nat.lt_succ_of_lt (Nat.lt_trans (List.mem_range.mp hb) hlt5)
    · rcases List.mem_cons.mp hb with rfl | hb
      · exact Nat.le_of_lt hz13
      · exact Nat.le_of_eq (List.mem_singleton.mp hb).symm
end
end Mine

-- G3
namespace Mine
section
variable {C : Cx} {ρ : List (Str × D)}
theorem Ev.callG {n : Str} {np p : Pos} {ge : Expr} {N : Nat} {P : Nat → Value → Prop} {f : Value} {d : D} (hf : Ev C ρ (.Name n np) (.val f)) (hg : GE C ρ ge N P)
    (hc : ∀ s v s5, GRdy C ρ N P s v s5 → Callable C.M f s5.heap ∧ wpAny C.M C.A (PySem.call f [v]) (Po C ρ d s) NoE s5)
    (hs : backTo p (starEach [ge] C.env) = [(false, eval ge C.env)] := by rfl) : Ev C ρ (.Call (.Name n np) [ge] [] p) d := fun s x =>
  wpAny_Call_ofName (wp_mono (hf s x) fun v s1 p1 => by
    have := of_val p1.v
    subst this
    rw [hs]
    refine callWith_of (P := fun h => Callable C.M _ h) rfl (fun _ x => x) (evalArgs_plain (spliced_cons (wp_mono (hg s1 p1.i) fun v s5 g => spliced_nil ?_)))
    obtain ⟨a, b⟩ := hc s1 v s5 g
    exact ⟨a, wp_mono b fun z s3 p3 => ⟨p3.v, p3.i, p1.m.trans p3.m⟩⟩)
theorem Ev.sumG {n : Str} {np p : Pos} {ge : Expr} {N : Nat} {val : Nat → Int} (ht : C.w.t = true) (hf : Ev C ρ (.Name n np) (.val (.builtin "sum"))) (hg : GE C ρ ge N (fun i y => ∃ t, y = .int (val i) t))
    (hs : backTo p (starEach [ge] C.env) = [(false, eval ge C.env)] := by rfl) : Ev C ρ (.Call (.Name n np) [ge] [] p) (.int (preSum val N)) :=
  hf.callG hg (fun s v s5 g => ⟨.builtin, by
    obtain ⟨a, fp, wr, gn, St, s1, rfl, i1, m1, m5, tb5, W, st, hfp, hwr, ha, hT⟩ := g.ex
    refine wp_mono (wpAny_sz (call_sum_walkAnyS (Q := fun r s' => (∃ t, r = .int (preSum val N) t) ∧ Moved wr (GenOnlyQ gn) s5 s') ?_)) fun r s' q => ?_
    · exact W.in4_1.self 0 _ _ _ st ⟨a, fp, wr, GenOnlyQ gn, N, _, St, val, rfl, W.in4_1, st, hfp, fun i v h => h, fun s' t hm => ⟨⟨t, rfl⟩, hm⟩⟩
    · obtain ⟨hz, ⟨t, rfl⟩, hm⟩ := q
      obtain ⟨i', m'⟩ := moved_back ht i1 m5 tb5 hwr hm hz
      exact ⟨sat_int, i', m1.trans m'⟩⟩) hs
end
namespace GF
theorem n_bytes : typeLookup (.type "generator") "__bytes__" = pure none := by rw [typeLookup_type, builtinLookup_eq_fast]; kernel_rfl
theorem n_index : typeLookup (.type "generator") "__index__" = pure none := by rw [typeLookup_type, builtinLookup_eq_fast]; kernel_rfl
theorem n_buffer : typeLookup (.type "generator") "__buffer__" = pure none := by rw [typeLookup_type, builtinLookup_eq_fast]; kernel_rfl
theorem n_len : typeLookup (.type "generator") "__len__" = pure none := by rw [typeLookup_type, builtinLookup_eq_fast]; kernel_rfl
theorem n_hint : typeLookup (.type "generator") "__length_hint__" = pure none := by rw [typeLookup_type, builtinLookup_eq_fast]; kernel_rfl
theorem sub_set : isSubtype (.type "generator") (.type "set") = pure false := by rw [isSubtype_type]; kernel_rfl
theorem sub_frozenset : isSubtype (.type "generator") (.type "frozenset") = pure false := by rw [isSubtype_type]; kernel_rfl
end GF
noncomputable def bytesOf (val : Nat → Int) (i : Nat) : Array UInt8 := ((List.range i).map fun j => (val j).toNat.toUInt8).toArray
theorem bytesOf_succ (val : Nat → Int) (i : Nat) : bytesOf val (i + 1) = (bytesOf val i).push (val i).toNat.toUInt8 := by
  unfold bytesOf; rw [List.range_succ, List.map_append]; simp
theorem bytesOf_size (val : Nat → Int) (i : Nat) : (bytesOf val i).size = i := by simp [bytesOf]
section
variable {prog : Program} {w : World} {A : Around} {E : Value → Shared → Prop} {s : Shared} {R : Result → Shared → Prop} {I : Addr} {fp wr : List Addr} {G : Array GenState → Array GenState → Prop} {n : Nat} {P : Nat → Value → Prop} {St : Nat → Shared → Prop}
theorem bytes_loopS (W : WalksS prog w A.in1 I fp wr G n P St) (S : Addr) (hSf : S ∉ fp) (val : Nat → Int) (hval : ∀ i v, P i v → ∃ t, v = .int (val i) t) (hr : ∀ i, i < n → 0 ≤ val i ∧ val i < 256) (hz : n ≤ sizeLine) :
    ∀ (k i : Nat) (s : Shared), n - i = k → i ≤ n → St i s → s.heap.get? S = some { cls := .type "bytearray", data := .bytearray (bytesOf val i) } →
      (∀ s' t, Moved (S :: wr) G s s' → R (.ok (.ret (.bytes (bytesOf val n) t))) s') →
      codeAny (model prog w) A (.builtin "bytes.__new__.loop" ⟨[.type "bytes", .ref I, .ref S], []⟩) R s := by
  have hSw : S ∉ wr := fun h => hSf (W.sub _ h)
  have hsub : ∀ b ∈ wr, b ∈ S :: wr := fun b hb => List.mem_cons_of_mem _ hb
  intro k
  induction k with
  | zero =>
    intro i s hk hle hst hS hR
    have hin : i = n := by omega
    subst hin
    refine codeAny_builtin F.bm_entry_loop ?_
    rw [Around.under_plainId F.bm_plain_loop _]
    show wpAny _ A.in1 (pyNext (.ref I) >>= _) _ _ s
    refine wpAny_bind (W.done s _ _ hst fun s' hm => ?_)
    have hS' := hm.heap S _ hSw hS
    refine wpAny_bind ?_
    unfold Builtin.Bytes.payload Builtin.Bytes.payload?
    refine wpAny_bind (wpAny_bind (wpAny_load hS' ?_))
    refine wpAny_pure (wpAny_pure ?_)
    refine wpAny_bind (wpAny_mkBytes ?_ (by rw [bytesOf_size]; exact hz))
    show wpAny _ _ (if (Value.type "bytes" == Value.type "bytes") = true then _ else _) _ _ _
    refine bm_if_true (by decide) ?_
    have hm' : Moved (S :: wr) G s { s' with toks := s'.toks + 1 } := (hm.mono hsub).then_heap (Nat.le_succ _) fun _ _ _ e => e
    first
      | exact wpAny_pure (hR _ _ hm')
      | exact wpAny_bind (wpAny_pure (wpAny_pure (hR _ _ hm')))
  | succ k ih =>
    intro i s hk hle hst hS hR
    have hlt : i < n := by omega
    refine codeAny_builtin F.bm_entry_loop ?_
    rw [Around.under_plainId F.bm_plain_loop _]
    show wpAny _ A.in1 (pyNext (.ref I) >>= _) _ _ s
    refine wpAny_bind (W.item i s _ _ hlt hst fun v s' hP hst' hm => ?_)
    obtain ⟨t, rfl⟩ := hval i v hP
    obtain ⟨h0, h1⟩ := hr i hlt
    have hS' := hm.heap S _ hSw hS
    refine wpAny_bind (wpAny_holding (wpAny_of_eq (rfl : asIndex (.int (val i) t) = pure (val i)) ?_))
    refine wpAny_bind (wpAny_letGo ?_)
    refine bm_if_false (by simp only [Bool.or_eq_false_iff, decide_eq_false_iff_not]; omega) ?_
    refine wpAny_bind ?_
    show wpAny _ _ (updateBytearray S (·.push (val i).toNat.toUInt8)) _ _ _
    unfold updateBytearray
    refine wpAny_bind (wpAny_load hS' ?_)
    show wpAny _ _ (update S (Obj.mapBytearray (·.push (val i).toNat.toUInt8)) >>= fun _ => lookBehind S) _ _ _
    refine wpAny_bind (wpAny_update hS' ?_)
    have hS₂ : (s'.heap.update S (Obj.mapBytearray (·.push (val i).toNat.toUInt8))).get? S = some { cls := .type "bytearray", data := .bytearray (bytesOf val (i + 1)) } := by
      rw [bytesOf_succ]
      exact Heap.get?_update_self (Obj.mapBytearray (·.push (val i).toNat.toUInt8)) hS' rfl
    refine wpAny_lookBehind hS₂ ?_ ?_
    · show (if (bytesOf val (i + 1)).size > sizeLine then some "bytearray:memory" else none) = none
      rw [if_neg]
      rw [bytesOf_size]
      omega
    · refine wpAny_pure ⟨plainId_quiet F.bm_plain_loop _, ih (i + 1) { s' with heap := s'.heap.update S (Obj.mapBytearray (·.push (val i).toNat.toUInt8)) } (by omega) hlt
        (W.frame _ s' _ _ hst' (Nat.le_refl _) fun b hb o e => ?_) hS₂ fun s'' t' hm'' => hR s'' t' (Moved.trans W.gtrans ((hm.mono hsub).then_heap (Nat.le_refl _) fun b o hb e => ?_) hm'')⟩
      · exact (Heap.get?_update_other _ _ (fun h : S = b => hSf (by rw [h]; exact hb))).trans e
      · exact (Heap.get?_update_other _ _ (fun h : S = b => hb (by rw [h]; exact List.mem_cons_self))).trans e
theorem bytes_newS {gn : Nat} {Q : Value → Shared → Prop} (W : WalksS prog w A.in1 I fp wr G n P St) (val : Nat → Int) (hval : ∀ i v, P i v → ∃ t, v = .int (val i) t) (hr : ∀ i, i < n → 0 ≤ val i ∧ val i < 256) (hz : n ≤ sizeLine)
    (hG : s.heap.IsGen I gn) (hst : St 0 s) (hfp : ∀ b ∈ fp, b < s.heap.objs.size)
    (hQ : ∀ s' t wr', (∀ b ∈ wr', b ∈ wr ∨ s.heap.objs.size ≤ b) → Moved wr' G s s' → Q (.bytes (bytesOf val n) t) s') :
    codeAny (model prog w) A (.call (.builtin "bytes.__new__") ⟨[.type "bytes", .ref I], []⟩) (wants Q E) s := by
  refine codeAny_of_tree ?_
  show wpAny _ A.in1 (do checkBuiltinCall "bytes.__new__" ⟨[.type "bytes", .ref I], []⟩; again (.builtin "bytes.__new__" ⟨[.type "bytes", .ref I], []⟩)) _ _ s
  refine wpAny_bind (wpAny_of_eq (F.bm_newCall _) (wpAny_pure ⟨plainId_quiet F.bm_plain _, codeAny_builtin F.bm_entry ?_⟩))
  rw [Around.under_plainId F.bm_plain _]
  have hT := hG.typeIs
  obtain ⟨oI, k1, k2, hoI, hoc, hoD, hoR⟩ := id hG
  unfold Builtin.«bytes.__new__»
  refine wpAny_bind (wpAny_of_eq (a := true) rfl ?_)
  refine bm_if_false rfl ?_
  refine wpAny_bind (wpAny_of_eq F.bm_sub ?_)
  refine bm_if_false rfl ?_
  refine wpAny_bind (wpAny_of_eq (F.bm_bind _) ?_)
  refine wpAny_bind (wpAny_of_eq (a := ()) rfl ?_)
  refine wpAny_bind (wpAny_of_eq (a := ()) rfl ?_)
  refine bm_if_false rfl ?_
  refine wpAny_bind (wpAny_specialOf hT GF.n_bytes ?_)
  refine wpAny_bind (wpAny_bind ?_)
  show wpAny _ _ (load I >>= _) _ _ _
  refine wpAny_bind (wpAny_load hoI ?_)
  rw [hoD]
  refine wpAny_pure (wpAny_pure ?_)
  refine bm_if_false rfl ?_
  refine wpAny_bind (wpAny_specialOf hT GF.n_index ?_)
  refine bm_if_true rfl ?_
  first
    | show wpAny _ _ (Builtin.Bytes.buffer? "bytes.__new__" (.ref I) true >>= _) _ _ _
    | (refine wpAny_bind ?_; show wpAny _ _ (Builtin.Bytes.buffer? "bytes.__new__" (.ref I) true >>= _) _ _ _)
  refine wpAny_bind ?_
  unfold Builtin.Bytes.buffer?
  refine wpAny_bind (wpAny_specialOf hT GF.n_buffer ?_)
  refine wpAny_bind (wpAny_specialOf hT GF.n_buffer ?_)
  refine wpAny_pure ?_
  refine wpAny_bind (wpAny_tryCatch (W.self 0 _ _ _ hst ?_))
  refine wpAny_bind (wpAny_holding ?_)
  unfold Builtin.Bytes.lengthHint
  refine wpAny_bind (wpAny_specialOf hT GF.n_len ?_)
  refine bm_if_false rfl ?_
  refine bm_if_false rfl ?_
  refine wpAny_bind (wpAny_specialOf hT GF.n_hint ?_)
  refine wpAny_pure ?_
  refine wpAny_bind ?_
  unfold Builtin.Bytes.newBytearray
  refine wpAny_newObj_type ?_ (Nat.zero_le _)
  have hSf : s.heap.objs.size ∉ fp := fun hm => Nat.lt_irrefl _ (hfp _ hm)
  have main := bytes_loopS (R := wants Q E) W s.heap.objs.size hSf val hval hr hz n 0 { s with heap := s.heap.push { cls := .type "bytearray", data := .bytearray #[] } } rfl (Nat.zero_le _)
    (W.frame 0 s _ _ hst (Nat.le_refl _) fun b hb o e => Heap.get?_push_of_some _ e) (Heap.get?_push_size _ rfl) fun s' t hm => hQ s' t (s.heap.objs.size :: wr) (fun b hb => by
      rcases List.mem_cons.mp hb with rfl | hb
      · exact .inr (Nat.le_refl _)
      · exact .inl hb) ⟨fun b o hb e => hm.heap b o hb (Heap.get?_push_of_some _ e), hm.gens, hm.drawn, hm.os, hm.toks⟩
  first
    | exact wpAny_pure ⟨plainId_quiet F.bm_plain_loop _, main⟩
    | exact wpAny_pure (wpAny_pure ⟨plainId_quiet F.bm_plain_loop _, main⟩)
theorem call_bytesS {gn : Nat} {Q : Value → Shared → Prop} (W : WalksS prog w A.in4 I fp wr G n P St) (val : Nat → Int) (hval : ∀ i v, P i v → ∃ t, v = .int (val i) t) (hr : ∀ i, i < n → 0 ≤ val i ∧ val i < 256) (hz : n ≤ sizeLine)
    (hG : s.heap.IsGen I gn) (hst : St 0 s) (hfp : ∀ b ∈ fp, b < s.heap.objs.size)
    (hQ : ∀ s' t wr', (∀ b ∈ wr', b ∈ wr ∨ s.heap.objs.size ≤ b) → Moved wr' G s s' → Q (.bytes (bytesOf val n) t) s') : wpAny (model prog w) A (call (.type "bytes") [.ref I]) Q E s := by
  refine callType_codes (Q₁ := fun obj s₁ => s₁.TypeIs obj "bytes" ∧ Q obj s₁) F.bm_called (F.bm_typeCall _) F.entry_object_init
    (bytes_newS (W.in4_2) val hval hr hz hG hst hfp fun s' t wr' h hm => ⟨PySem.W.typeIs_bytes _ _ _, hQ s' t wr' h hm⟩) fun obj s₁ h₁ => ?_
  exact ⟨h₁.1, F.args_object_init_2 obj _, object_init_meets F.bm_called.init.lookup F.bm_called.made (by decide) prog w A.in1 _ s₁ ⟨h₁.1, rfl, h₁.2⟩⟩
end
section
variable {C : Cx} {ρ : List (Str × D)}
theorem toArray_bytesOf (val : Nat → Int) (n : Nat) : bytesOf val n = ((List.range n).map fun j => (val j).toNat.toUInt8).toArray := rfl
theorem Ev.bytesG {n : Str} {np p : Pos} {ge : Expr} {N : Nat} {val : Nat → Int} (ht : C.w.t = true) (hf : Ev C ρ (.Name n np) (.val (.type "bytes"))) (hg : GE C ρ ge N (fun i y => ∃ t, y = .int (val i) t))
    (hr : ∀ i, i < N → 0 ≤ val i ∧ val i < 256) (hz : N ≤ 1000)
    (hs : backTo p (starEach [ge] C.env) = [(false, eval ge C.env)] := by rfl) : Ev C ρ (.Call (.Name n np) [ge] [] p) (.bytes ((List.range N).map fun j => (val j).toNat.toUInt8)) :=
  hf.callG hg (fun s v s5 g => ⟨.type, by
    obtain ⟨a, fp, wr, gn, St, s1, rfl, i1, m1, m5, tb5, W, st, hfp, hwr, ha, hT⟩ := g.ex
    refine wp_mono (wpAny_sz (call_bytesS (Q := fun r s' => (∃ t, r = .bytes (bytesOf val N) t) ∧ ∃ wr', (∀ b ∈ wr', b ∈ wr ∨ s5.heap.objs.size ≤ b) ∧ Moved wr' (GenOnlyQ gn) s5 s') W val (fun i v h => h) hr (Nat.le_trans hz (by decide)) (hT 0 s5 st) st hfp fun s' t wr' h hm => ⟨⟨t, rfl⟩, wr', h, hm⟩)) fun r s' q => ?_
    obtain ⟨hz, ⟨t, rfl⟩, wr', hw', hm⟩ := q
    obtain ⟨i', m'⟩ := moved_back ht i1 m5 tb5 (fun b hb => (hw' b hb).elim (hwr b) fun h => Nat.le_trans m5.kp.size h) hm hz
    exact ⟨sat_bytes, i', m1.trans m'⟩⟩) hs
end
end Mine

-- G4
namespace Mine
section
variable {prog : Program} {w : World} {A : Around} {E : Value → Shared → Prop} {s : Shared} {I : Addr} {fp wr : List Addr} {G : Array GenState → Array GenState → Prop} {n : Nat} {P : Nat → Value → Prop} {St : Nat → Shared → Prop}
abbrev freshSet (led : Bool) : Obj := { cls := .type "set", dict := none, data := .set #[] 0 (.fresh 0 0 led) }
abbrev SetIs (prog : Program) (w : World) (val : Nat → Int) (n : Nat) (h : Heap) (a : Addr) : Prop := h.SetOf (intKind prog w) a (fun k' => (firstMet val n).any (· == k')) (firstMet val n).length
set_option maxHeartbeats 3200000 in
theorem set_initS {S gn : Nat} {led : Bool} (W : WalksS prog w A.in1.in1 I fp wr G n P St) (val : Nat → Int) (hval : ∀ i v, P i v → ∃ t, v = .int (val i) t) (hb : n + 1 < scanBound)
    (hG : s.heap.IsGen I gn) (hst : St 0 s) (hS : s.heap.get? S = some (freshSet led)) (hSf : S ∉ fp) {R : Result → Shared → Prop}
    (hR : ∀ s', Moved (S :: wr) G s s' → SetIs prog w val n s'.heap S → R (.ok (.ret .none)) s') :
    codeAny (model prog w) A (.call (.builtin "set.__init__") ⟨[.ref S, .ref I], []⟩) R s := by
  have hT : s.TypeIs (.ref S) "set" := ⟨_, hS, rfl⟩
  have hTI := hG.typeIs
  obtain ⟨oI, k1, k2, hoI, hoc, hoD, hoR⟩ := id hG
  obtain ⟨cI, dI, datI, slI⟩ := oI
  simp only at hoc hoD hoR
  subst hoc hoD hoR
  refine codeAny_call_builtin F.called_set.init.plain F.entry_set_init (check_set_init_1 hT ?_)
  have hsls := GF.sub_set
  have hslf := GF.sub_frozenset
  have hne : (Value.type "generator" == Value.type "dict") = false := by decide
  obtain ⟨hp, g, d, tk, os⟩ := s
  unfold Builtin.«set.__init__» noKeywords Builtin.Frozenset.updateFrom
  generalize hPI : pyIter = PI
  wp_walk
  subst hPI
  refine (W.of_in1 (A := A.in1)).self 0 _ _ _ hst ?_
  refine wpAny_bind (wpAny_runValue ?_)
  refine codeAny_set_update_loopS W S hSf val hval hb n 0 _ rfl (Nat.zero_le _) hst ?_ fun s' hm hS' => ?_
  · exact SetOf_congr ((setObjOf_fresh (knd := intKind prog w) led).setOf hS (by unfold scanBound; omega)) (fun _ => rfl) rfl
  · exact wpAny_pure (wpAny_pure (hR s' hm hS'))
set_option maxHeartbeats 3200000 in
theorem call_setS {gn : Nat} {Q : Value → Shared → Prop} (W : WalksS prog w A.in4 I fp wr G n P St) (val : Nat → Int) (hval : ∀ i v, P i v → ∃ t, v = .int (val i) t) (hb : n + 1 < scanBound)
    (hG : s.heap.IsGen I gn) (hst : St 0 s) (hfp : ∀ b ∈ fp, b < s.heap.objs.size)
    (hQ : ∀ s' wr', (∀ b ∈ wr', b ∈ wr ∨ s.heap.objs.size ≤ b) → Moved wr' G s s' → SetIs prog w val n s'.heap s.heap.objs.size → Q (.ref s.heap.objs.size) s') : wpAny (model prog w) A (call (.type "set") [.ref I]) Q E s := by
  obtain ⟨c, tl, hmro⟩ := F.called_set.mro
  have hmade := F.called_set.made
  have hsub := F.called_set.sub
  refine wpAny_call (codeAny_of_tree ?_)
  show wpAny _ _ (callAny (.type "set") _) _ _ _
  refine wpAny_pure ⟨Code.quiet_builtin _ (by decide +kernel), codeAny_builtin F.entry_type_call ?_⟩
  rw [Around.under_plain (weight_type_call_type "set" [.ref I] []) rfl]
  have h1 := F.called_set.notType
  have h2 := F.called_set.canCreate
  have hct := F.typeCall_set_1 (.ref I)
  repeat (any_goals (first | assumption | wp_step))
  refine codeAny_mono (code_set_new_1 (.ref I) (E := E) (Q₁ := fun obj s₁ => ∃ led : Bool, obj = .ref s.heap.objs.size ∧ s₁ = { s with heap := s.heap.push (freshSet led) }) fun led => ⟨led, rfl, rfl⟩) fun r s₁ hr => ?_
  cases r with
  | error e => exact hr
  | ok fl =>
    cases fl with
    | ret obj =>
      obtain ⟨led, rfl, rfl⟩ := hr
      have hS : (s.heap.push (freshSet led)).get? s.heap.objs.size = some (freshSet led) := Heap.get?_push_size _ rfl
      have hT : Shared.TypeIs { s with heap := s.heap.push (freshSet led) } (.ref s.heap.objs.size) "set" := ⟨_, hS, rfl⟩
      have hli := F.called_set.init.lookup
      have hbi := F.called_set.init.bind (.ref s.heap.objs.size)
      repeat (any_goals (first | assumption | wp_step))
      have hSf : s.heap.objs.size ∉ fp := fun hm => Nat.lt_irrefl _ (hfp _ hm)
      refine set_initS (A := A.in1) (S := s.heap.objs.size) (led := led) (WalksS.of_in1 (A := A.in1.in1.in1) W) val hval hb (hG.keeps fun _ _ e => Heap.get?_push_of_some _ e) (W.frame 0 s _ _ hst (Nat.le_refl _) fun b _ o e => Heap.get?_push_of_some _ e) hS hSf fun s' hm hSi => ?_
      refine wpAny_pure (wpAny_pure (hQ s' (s.heap.objs.size :: wr) (fun b hb => ?_) ⟨fun b o hb e => hm.heap b o hb (Heap.get?_push_of_some _ e), hm.gens, hm.drawn, hm.os, hm.toks⟩ hSi))
      rcases List.mem_cons.mp hb with rfl | hb
      · exact .inr (Nat.le_refl _)
      · exact .inl hb
    | _ => exact hr.elim
end
section
variable {C : Cx} {ρ : List (Str × D)}
noncomputable abbrev isSet (C : Cx) (val : Nat → Int) (n : Nat) (o : Obj) : Prop := o.SetObjOf (intKind C.prog C.w.w) (fun k' => (firstMet val n).any (· == k')) (firstMet val n).length
theorem Ev.setG {n : Str} {np p : Pos} {ge : Expr} {N : Nat} {val : Nat → Int} (ht : C.w.t = true) (hf : Ev C ρ (.Name n np) (.val (.type "set"))) (hg : GE C ρ ge N (fun i y => ∃ t, y = .int (val i) t))
    (hz : N ≤ 1000) (hs : backTo p (starEach [ge] C.env) = [(false, eval ge C.env)] := by rfl) : Ev C ρ (.Call (.Name n np) [ge] [] p) (.obj (isSet C val N)) :=
  hf.callG hg (fun s v s5 g => ⟨.type, by
    obtain ⟨a, fp, wr, gn, St, s1, rfl, i1, m1, m5, tb5, W, st, hfp, hwr, ha, hT⟩ := g.ex
    refine wp_mono (wpAny_sz (call_setS (Q := fun r s' => r = .ref s5.heap.objs.size ∧ SetIs C.prog C.w.w val N s'.heap s5.heap.objs.size ∧ ∃ wr', (∀ b ∈ wr', b ∈ wr ∨ s5.heap.objs.size ≤ b) ∧ Moved wr' (GenOnlyQ gn) s5 s') W val (fun i v h => h) (by unfold scanBound; omega) (hT 0 s5 st) st hfp fun s' wr' h hm hS => ⟨rfl, hS, wr', h, hm⟩)) fun r s' q => ?_
    obtain ⟨hz, rfl, hS, wr', hw', hm⟩ := q
    obtain ⟨i', m'⟩ := moved_back ht i1 m5 tb5 (fun b hb => (hw' b hb).elim (hwr b) fun h => Nat.le_trans m5.kp.size h) hm hz
    refine ⟨?_, i', m1.trans m'⟩
    obtain ⟨o, ho, hso⟩ := hS.objOf
    unfold sat
    exact ⟨_, o, rfl, hideAll_get _ ho fun hm' => Nat.lt_irrefl _ (Nat.lt_of_lt_of_le (i1.lt _ hm') m5.kp.size), hso⟩⟩) hs
end
end Mine

-- G5
namespace Mine
section
variable {w : Wo} {env : Env} {X : List Addr} {F : List (D × Value)} {O : Own} {s0 s s1 : Shared} {ρ : List (Str × D)}
theorem map_append_fst {a b c : Own} (e : a.map (·.1) = b.map (·.1)) : (a ++ c).map (·.1) = (b ++ c).map (·.1) := by rw [List.map_append, List.map_append, e]
theorem pw_of_map {a b : Own} (e : a.map (·.1) = b.map (·.1)) (h : a.Pairwise fun p q => p.1 ≠ q.1) : b.Pairwise fun p q => p.1 ≠ q.1 := by
  have h1 : (a.map (·.1)).Pairwise (· ≠ ·) := List.pairwise_map.mpr h
  rw [e] at h1
  exact List.pairwise_map.mp h1
/-- own objects turn, several at once -/
theorem In.swap {OW OW' : Own} {h' : Heap} {t : Nat} (i : In w env X F (OW ++ O) s0 ρ s) (he : ∀ b o, (∀ p ∈ OW, b ≠ p.1) → s.heap.get? b = some o → h'.get? b = some o) (hz : s.heap.objs.size ≤ h'.objs.size)
    (e : OW.map (·.1) = OW'.map (·.1)) (h : ∀ p ∈ OW', ∃ o, h'.get? p.1 = some o ∧ p.2 o) : In w env X F (OW' ++ O) s0 ρ { s with heap := h', toks := t } :=
  have j := In.lose (t := t) i he hz
  { j with
    ow := fun p hp => by
      rcases List.mem_append.mp hp with hp | hp
      · have : p.1 ∈ OW.map (·.1) := e ▸ List.mem_map.mpr ⟨p, hp, rfl⟩
        obtain ⟨q, hq, eq⟩ := List.mem_map.mp this
        obtain ⟨_, r⟩ := i.ow q (List.mem_append_left _ hq)
        rw [eq] at r
        exact ⟨h p hp, r⟩
      · exact j.ow p hp
    owD := pw_of_map (map_append_fst e) i.owD }
/-- new objects are the frame's own -/
theorem In.mineAll {OW : Own} (out : In w env X F O s0 ρ s1) (mv : Mv w s1 s) (tb : Tb s.heap) (ha : ∀ p ∈ OW, s1.heap.objs.size ≤ p.1) (ho : ∀ p ∈ OW, ∃ o, s.heap.get? p.1 = some o ∧ p.2 o) (hD : OW.Pairwise fun p q => p.1 ≠ q.1) :
    In w env (OW.map (·.1) ++ X) F (OW ++ O) s0 ρ s := by
  have lt : ∀ p ∈ OW, ∀ b ∈ X, b ≠ p.1 := fun p hp b hb q => Nat.lt_irrefl _ (Nat.lt_of_lt_of_le (q ▸ out.lt b hb) (ha p hp))
  have j := out.stepX mv tb (X' := OW.map (·.1) ++ X) (fun b h => List.mem_append_right _ h) (fun b hb => by
    rcases List.mem_append.mp hb with q | q
    · obtain ⟨p, hp, rfl⟩ := List.mem_map.mp q
      exact .inr (ha p hp)
    · exact .inl q) (fun b hb => by
    rcases List.mem_append.mp hb with q | q
    · obtain ⟨p, hp, rfl⟩ := List.mem_map.mp q
      obtain ⟨o, e, _⟩ := ho p hp
      exact Heap.lt_size e
    · exact Nat.lt_of_lt_of_le (out.lt b q) mv.kp.size)
  exact { j with
    ow := fun p hp => by
      rcases List.mem_append.mp hp with hp | hp
      · exact ⟨ho p hp, Ne.symm (lt p hp _ out.locX), Nat.le_trans out.mv.kp.size (ha p hp), List.mem_append_left _ (List.mem_map.mpr ⟨p, hp, rfl⟩), fun n c e => lt p hp _ (out.celX n c e)⟩
      · exact j.ow p hp
    owD := List.pairwise_append.mpr ⟨hD, out.owD, fun p hp q hq => Ne.symm (lt p hp _ (out.ow q hq).2.2.2.1)⟩ }
end
noncomputable def pairD (a b : List UInt8) : List D := (a.zip b).map fun x => .tup [.int x.1.toNat, .int x.2.toNat]
theorem pairD_get {a b : List UInt8} {i : Nat} {d : D} (h : (pairD a b)[i]? = some d) : ∃ c1 c2, a[i]? = some c1 ∧ b[i]? = some c2 ∧ d = .tup [.int c1.toNat, .int c2.toNat] := by
  unfold pairD at h
  rw [List.getElem?_map] at h
  obtain ⟨x, hx, rfl⟩ := Option.map_eq_some_iff.mp h
  obtain ⟨h1, h2⟩ := List.getElem?_zip_eq_some.mp hx
  exact ⟨_, _, h1, h2, rfl⟩
section
variable {C : Cx} {ρ ρ' : List (Str × D)}
/-- zip(a, b) of octets -/
theorem eval_zip {n : Str} {np p : Pos} {e1 e2 : Expr} {a b : List UInt8} (hf : Ev C ρ (.Name n np) (.val (.type "zip"))) (h1 : Ev C ρ e1 (.bytes a)) (h2 : Ev C ρ e2 (.bytes b))
    (he1 : starEach [e1, e2] C.env = (false, eval e1 C.env) :: starEach [e2] C.env := by rfl) (he2 : starEach [e2] C.env = (false, eval e2 C.env) :: starEach [] C.env := by rfl) (s : Shared) (x : C.I ρ s) {Q : Value → Shared → Prop}
    (hQ : ∀ s1 Z h', C.I ρ s1 → Mv C.w s s1 → Z.b1 = a.toArray → Z.b2 = b.toArray → (∀ p ∈ zipOs Z .none 0 0, s1.heap.objs.size ≤ p.1) → Oo Z.wr h' (zipOs Z .none 0 0) h' → Le s1.heap h' → s1.heap.objs.size ≤ h'.objs.size → Q (.ref Z.z) { s1 with heap := h' }) :
    wpAny C.M C.A (eval (.Call (.Name n np) [e1, e2] [] p) C.env) Q NoE s :=
  wpAny_Call_ofName (wp_mono (hf s x) fun v s1 p1 => by
    have := of_val p1.v
    subst this
    refine call_args (first := []) (.cons h1 (.cons h2 .nil he2) he1) p1.i fun vs s2 p2 => ⟨.type, ?_⟩
    obtain ⟨v, u, rfl, hx, hu⟩ := sats2 p2.v
    obtain ⟨t1, rfl⟩ := of_bytes hx
    obtain ⟨t2, rfl⟩ := of_bytes hu
    refine call_zipB fun h' x hk hz => hQ s2 (zaAt s2.heap.objs.size a.toArray b.toArray t1 t2) h' p2.i (p1.m.trans p2.m) rfl rfl (fun p hp => ?_) x hk (by omega)
    simp only [zipOs, List.mem_cons, List.not_mem_nil, or_false] at hp
    rcases hp with rfl | rfl | rfl | rfl | rfl <;> simp)
theorem zip_of_in {w : Wo} {env : Env} {X : List Addr} {F : List (D × Value)} {O : Own} {s0 s : Shared} {ρ : List (Str × D)} {Z : ZA} {f : Value} {i : Nat} (x : In w env X F (zipOs Z f i i ++ O) s0 ρ s) : Oo Z.wr s.heap (zipOs Z f i i) s.heap :=
  ⟨fun p hp => (x.ow p (List.mem_append_left _ hp)).1, by have := x.owD; rw [List.pairwise_append] at this; exact this.1, fun _ _ _ e => e⟩
theorem zip_far {Z : ZA} {f : Value} {i j : Nat} {b : Addr} (h : ∀ p ∈ zipOs Z f i j, b ≠ p.1) : b ∉ Z.wr := fun hm => by
  simp only [ZA.wr, List.mem_cons, List.not_mem_nil, or_false] at hm
  rcases hm with q | q | q | q
  · exact h (Z.z, zipO Z.TI Z.TO f) (.head _) q
  · exact h (Z.TO, pairO) (.tail _ (.head _)) q
  · exact h (Z.i1, bytesO Z.b1 Z.t1 i) (.tail _ (.tail _ (.head _))) q
  · exact h (Z.i2, bytesO Z.b2 Z.t2 j) (.tail _ (.tail _ (.tail _ (.head _)))) q
theorem IterG.zip {w : Wo} {prog : Program} {A : Around} {Z : ZA} {a b : List UInt8} {es : List Expr} {c tp} (hh : A.handled = none) (e1 : Z.b1 = a.toArray) (e2 : Z.b2 = b.toArray) (hl : a.length = b.length) :
    IterG w prog A (.Tuple es c tp) (.ref Z.z) [] (fun i => zipOs Z .none i i) (pairD a b) where
  next := fun env X F O s0 ρ s i d hd x => by
    obtain ⟨c1, c2, g1, g2, rfl⟩ := pairD_get hd
    refine wp_mono (wpAny_sz (zipB_item (Q := fun r s' => ∃ T h' tk ta tb, r = some (.ref T) ∧ s.heap.objs.size = T ∧ h'.get? T = some { cls := .type "tuple", data := .seq #[.int c1.toNat ta, .int c2.toNat tb] } ∧ T ∉ Z.wr ∧ Oo Z.wr s.heap (zipOs Z (rawInt T) (i + 1) (i + 1)) h' ∧ s' = { s with heap := h', toks := tk }) (zip_of_in x) (by rw [e1]; simpa using g1) (by rw [e2]; simpa using g2)
      fun T h' tk ta tb hTn hT hTw y => ⟨T, h', tk, ta, tb, rfl, hTn, hT, hTw, y, rfl⟩)) fun r s' q => ?_
    obtain ⟨hz, T, h', tk, ta, tb, rfl, hTn, hT, hTw, y, rfl⟩ := q
    have hTX : T ∉ X := fun hm => Nat.lt_irrefl _ (hTn ▸ x.lt _ hm)
    have x2 : In w env X (F) (zipOs Z (rawInt T) (i + 1) (i + 1) ++ O) s0 ρ { s with heap := h', toks := tk } := In.swap (t := tk) x (fun b o hb e => y.kp b o (zip_far hb) e) hz rfl y.ow
    refine ⟨_, rfl, ?_⟩
    obtain ⟨⟨_, hzo, rfl⟩, _, _, hX, _⟩ := x2.ow (Z.z, zipO Z.TI Z.TO (rawInt T)) (.head _)
    refine wpAny_letOwnedTupleGo_zip hzo fun h'' hz' hs' => ⟨?_, In.turn0 (t := tk) x2 hs' hz' rfl⟩
    unfold sat
    exact ⟨T, [.int c1.toNat ta, .int c2.toNat tb], 0, rfl, hideAll_get _ (hs'.extBut _ _ (fun q => hTX (q ▸ hX)) hT) hTX, sats_cons sat_int (sats_cons sat_int sats_nil)⟩
  self := fun env X F O s0 ρ s i x Q E h => by
    obtain ⟨⟨_, hz, rfl⟩, _⟩ := x.ow (Z.z, zipO Z.TI Z.TO .none) (.head _)
    exact wpAny_pyIter_zip hz h
  done := fun env X F O s0 ρ s x => by
    have W := zipB_walk (prog := prog) (w := w.w) (A := A) (Z := Z) hh (n := a.length) (by rw [e1]; simp) (by rw [e2]; simp [hl])
    have hlen : (pairD a b).length = a.length := by simp [pairD, hl]
    rw [hlen] at x
    refine wp_mono (wpAny_sz (W.done s (fun r s' => r = none ∧ ∃ h' tk, (∀ b o, b ∉ Z.wr → s.heap.get? b = some o → h'.get? b = some o) ∧ s' = { s with heap := h', toks := tk }) NoE (zip_of_in x) fun h' tk hk => ⟨rfl, h', tk, hk, rfl⟩)) fun r s' q => ?_
    obtain ⟨hz, rfl, h', tk, hk, rfl⟩ := q
    exact ⟨rfl, In.lose (t := tk) x (fun b o hb e => hk b o (zip_far hb) e) hz⟩
theorem IterEx.zip {n : Str} {np p tp : Pos} {es : List Expr} {c : Nat} {e1 e2 : Expr} {a b : List UInt8} (hh : C.A.handled = none) (hf : Ev C ρ (.Name n np) (.val (.type "zip"))) (h1 : Ev C ρ e1 (.bytes a)) (h2 : Ev C ρ e2 (.bytes b)) (hl : a.length = b.length)
    (he1 : starEach [e1, e2] C.env = (false, eval e1 C.env) :: starEach [e2] C.env := by rfl) (he2 : starEach [e2] C.env = (false, eval e2 C.env) :: starEach [] C.env := by rfl) : IterEx C ρ (.Call (.Name n np) [e1, e2] [] p) (.Tuple es c tp) (pairD a b) := fun s x =>
  eval_zip hf h1 h2 he1 he2 s x fun s1 Z h' i1 m1 z1 z2 hf hO hk hz => by
    obtain ⟨_, hz', rfl⟩ := hO.ow (Z.z, zipO Z.TI Z.TO .none) (.head _)
    refine wpAny_pyIter_zip hz' ⟨s1, _, _, _, i1, m1, fun b hb => List.mem_append_right _ hb, fun b hb => ?_, IterG.zip hh z1 z2 hl, In.mineAll (OW := zipOs Z .none 0 0) i1.rebase (.heap s1 h' s1.toks hk hz) (i1.tb.le hk) hf hO.ow hO.owD⟩
    rcases List.mem_append.mp hb with q | q
    · obtain ⟨p, hp, rfl⟩ := List.mem_map.mp q
      exact .inr (hf p hp)
    · exact .inl q
theorem GE.zip {xa xb : Str} {pa pb pt : Pos} {kt : Nat} {n : Str} {np p : Pos} {e1 e2 elt : Expr} {scope : Scope} {pos : Pos} {a b : List UInt8} {val : Nat → Int} {k : Nat} (ht : C.w.t = true) (hcode : C.env.code = .ref 160) (R : Room C.A (k + 1))
    (hf : Ev C ρ (.Name n np) (.val (.type "zip"))) (h1 : Ev C ρ e1 (.bytes a)) (h2 : Ev C ρ e2 (.bytes b)) (hl : a.length = b.length) (K : GenOk C scope)
    (hxa : scope.names.lookup xa = some .local) (hxb : scope.names.lookup xb = some .local) (hab : xa ≠ xb) (hρ : ∀ p ∈ ρ', Has ρ p.1 p.2 ∧ capt scope scope C.env p.1 = true)
    (hN : ρ'.all (fun p => scope.names.lookup p.1 != some .local) = true)
    (helt : ∀ A' L code X t i c1 c2, Room A' k → a[i]? = some c1 → b[i]? = some c2 → Ev ⟨⟨C.w.w, false⟩, C.prog, A', genEnv scope (clo scope C.env) L code 0 C.env, X, t, [], []⟩ ((xb, .int c2.toNat) :: (xa, .int c1.toNat) :: ρ') elt (.int (val i)))
    (he1 : starEach [e1, e2] C.env = (false, eval e1 C.env) :: starEach [e2] C.env := by rfl) (he2 : starEach [e2] C.env = (false, eval e2 C.env) :: starEach [] C.env := by rfl)
    (hs : ∀ y, genFold (.Call (.Name n np) [e1, e2] [] p) C.env y = pure y := by intro _; rfl) :
    GE C ρ (.GeneratorExp elt [⟨.Tuple [.Name xa pa, .Name xb pb] kt pt, .Call (.Name n np) [e1, e2] [] p, [], 0⟩] scope pos) a.length (fun i y => ∃ t, y = .int (val i) t) := fun s i0 => by
  refine wpAny_GeneratorExp_walksQTD R.hd K.co K.clos K.noCell K.dot hxa hxb hab K.kind (Nat.lt_of_le_of_lt (Nat.le_trans (Nat.le_add_right _ _) R.dep) (by decide)) (eval_zip hf h1 h2 he1 he2 s i0 fun s1 Z h' i1 m1 z1 z2 hfar hO hk hz => ?_) hs
  obtain ⟨_, hz', rfl⟩ := hO.ow (Z.z, zipO Z.TI Z.TO .none) (.head _)
  have m12 : Mv C.w s1 { s1 with heap := h' } := .heap s1 h' s1.toks hk hz
  have i2 : C.I ρ { s1 with heap := h' } := i1.step m12 (i1.tb.le hk)
  refine wpAny_pyIter_zip hz' ⟨i2.base.lim, ?_⟩
  refine wp_genCode hcode i2.tb fun code h3 tk3 hx3 hz3 tb3 => ?_
  have hz13 : s1.heap.objs.size < h3.objs.size := by
    have h1 := hfar (Z.z, zipO Z.TI Z.TO .none) (.head _)
    have h2 := Heap.lt_size hz'
    exact Nat.lt_of_le_of_lt h1 (Nat.lt_of_lt_of_le h2 hz3)
  have up3 : ∀ b o, isTab b = false → s1.heap.get? b = some o → h3.get? b = some o := fun b o hb e => hx3 b o (noTab_ne hb) (hk _ _ e)
  have m13 : Mv C.w s1 { s1 with heap := h3, toks := tk3 } := ⟨⟨fun b o n e => up3 b o (n ht) e, Nat.le_of_lt hz13⟩, rfl, id, fun _ => ⟨rfl, rfl⟩⟩
  have i3 := i1.step m13 tb3
  rw [i1.glob]
  refine wp_builtins i3.base ?_
  have hlow := i1.rdy.low
  have fpOf : ∀ b ∈ Z.TI :: Z.wr, ∃ p ∈ zipOs Z .none 0 0, p.1 = b := fun b hb => by
    simp only [ZA.wr, List.mem_cons, List.not_mem_nil, or_false] at hb
    rcases hb with rfl | rfl | rfl | rfl | rfl
    · exact ⟨(Z.TI, _), .tail _ (.tail _ (.tail _ (.tail _ (.head _)))), rfl⟩
    · exact ⟨(Z.z, _), .head _, rfl⟩
    · exact ⟨(Z.TO, _), .tail _ (.head _), rfl⟩
    · exact ⟨(Z.i1, _), .tail _ (.tail _ (.head _)), rfl⟩
    · exact ⟨(Z.i2, _), .tail _ (.tail _ (.tail _ (.head _))), rfl⟩
  have far : ∀ b ∈ Z.TI :: Z.wr, s1.heap.objs.size ≤ b := fun b hb => let ⟨p, hp, e⟩ := fpOf b hb; e ▸ hfar p hp
  have farw : ∀ b ∈ Z.wr, s1.heap.objs.size ≤ b := fun b hb => far b (.tail _ hb)
  have hfp : ∀ b ∈ Z.TI :: Z.wr, b < h3.objs.size := fun b hb => by
    obtain ⟨p, hp, e⟩ := fpOf b hb
    obtain ⟨o, ho, _⟩ := hO.ow p hp
    exact Nat.lt_of_lt_of_le (e ▸ Heap.lt_size ho) hz3
  have hcw : cStatics ∉ Z.wr := fun hm => by
    have h1 := farw _ hm
    have h2 : cStatics < 233 := by decide
    exact absurd (Nat.le_trans hlow h1) (Nat.not_le.mpr h2)
  have hst : Oo Z.wr h3 (zipOs Z .none 0 0) h3 := ⟨fun p hp => by
    obtain ⟨o, ho, hP⟩ := hO.ow p hp
    refine ⟨o, hx3 _ _ (fun q => ?_) ho, hP⟩
    have := hfar p hp
    rw [q] at this
    exact absurd (Nat.le_trans hlow this) (by decide), hO.owD, fun _ _ _ e => e⟩
  have la : a.length = Z.b1.size := by rw [z1]; simp
  refine ⟨Z.z, Z.TI :: Z.wr, Z.wr, a.length, _, _, _, fun _ => true, fun i y => ∃ t, y = .int (val i) t, rfl, fun A' hA => zipB_walk (Z := Z) hA (n := a.length) (by rw [z1]; simp) (by rw [z2]; simp [hl]),
    fun i vals ⟨c1, c2, ta, tb, _, _, e⟩ => ⟨_, _, e⟩, hst, hfp, i3.base.lim, hcw, fun href hhref => ⟨fun A' E' i va vb s₂ m₂ hA hD hU hP hn hm hm' hk => wpAny_pure ⟨rfl, s₂.heap, s₂.toks, rfl, fun _ _ e => e⟩, fun A' E' i va vb s₂ m₂ hA hD hU hP hp hn hm hm' hk => ?_⟩, fun a' h5 tk gs hgb hlt5 hsz5 hk5 W hat => ⟨?_⟩⟩
  · have k1 : ∀ b o, b < s1.heap.objs.size → h3.get? b = some o → s₂.heap.get? b = some o := fun b o hb e => hk b (List.mem_range.mpr (Nat.lt_trans hb hz13)) (fun hm => Nat.lt_irrefl _ (Nat.lt_of_lt_of_le hb (farw b hm))) o (hhref b o e)
    have tb' : Tb s₂.heap := tb3.at fun b o hb e => k1 b o (Nat.lt_of_lt_of_le hb hlow) e
    have kk : ∀ b o, isTab b = false → s1.heap.get? b = some o → s₂.heap.get? b = some o := fun b o hb e => k1 b o (Heap.lt_size e) (up3 b o hb e)
    obtain ⟨c1, c2, ta, tb, g1, g2, e⟩ := hP
    have g1' : a[i]? = some c1 := by rw [z1] at g1; simpa using g1
    have g2' : b[i]? = some c2 := by rw [z2] at g2; simpa using g2
    obtain ⟨rfl, rfl⟩ : va = .int c1.toNat ta ∧ vb = .int c2.toNat tb := by simpa using e
    have i2 := In.gen (L := h3.objs.size) (code := code) i1 (Nat.le_of_lt hz13) kk tb' hn K.kind hρ [(xb, .int c2.toNat), (xa, .int c1.toNat)] (fun n d' e hl' => by
      rcases lookup_cons_of (show List.lookup n ((xb, .int c2.toNat) :: ((xa, .int c1.toNat) :: ρ')) = some d' from e) with ⟨rfl, rfl⟩ | ⟨_, e⟩
      · exact ⟨_, hm', sat_int⟩
      · rcases lookup_cons_of e with ⟨rfl, rfl⟩ | ⟨_, e⟩
        · exact ⟨_, hm, sat_int⟩
        · have := List.all_eq_true.mp hN _ (lookup_mem e)
          simp only [bne_iff_ne, ne_eq] at this
          exact absurd hl' this) (fun p hp => by
        rcases List.mem_cons.mp hp with q | hp
        · rw [q]; exact hxb
        · rw [List.mem_singleton.mp hp]; exact hxa)
    exact wpAny_mono (helt A' h3.objs.size code _ s₂ i c1 c2 (R.gen hA hD hU) g1' g2' s₂ i2) (fun y s3 z => ⟨of_int z.v, Keeps.of z.m⟩) fun _ _ e => e.elim
  · rw [passing_all] at W
    have W2 := W.imp (P' := fun i y => ∃ t, y = Value.int (val i) t) fun j y ⟨i, hi, t, e⟩ => by
      obtain ⟨h1, h2⟩ := List.getElem?_eq_some_iff.mp hi
      rw [List.getElem_range] at h2
      exact ⟨t, h2 ▸ e⟩
    rw [List.length_range] at W2
    refine ⟨a', _, _, _, _, s1, rfl, i1, m1, ?_, tb3.le hk5, W2, hat, fun b hb => ?_, fun b hb => ?_, List.mem_cons_self, fun i s st => st.1⟩
    · exact ⟨⟨fun b o n e => hk5 _ _ (up3 b o (n ht) e), by show s1.heap.objs.size ≤ h5.objs.size; rw [hsz5]; exact Nat.le_of_lt (Nat.lt_succ_of_lt (Nat.lt_trans hz13 hlt5))⟩, rfl, fun h => AllBare.push h hgb, fun e => by rw [ht] at e; cases e⟩
    · show b < h5.objs.size
      rw [hsz5]
      rcases List.mem_cons.mp hb with rfl | hb
      · exact Nat.lt_succ_self _
      · rcases List.mem_cons.mp hb with rfl | hb
        · exact Nat.lt_succ_of_lt hlt5
        · exact Nat.lt_succ_of_lt (Nat.lt_trans (List.mem_range.mp hb) hlt5)
    · rcases List.mem_cons.mp hb with rfl | hb
      · exact Nat.le_of_lt hz13
      · exact farw b hb
end
end Mine

-- G6
namespace Mine
section
variable {prog : Program} {w : World} {A : Around} {E : Value → Shared → Prop} {s : Shared}
theorem wpAny_choose1 {M : Model} {src : Source} {Q : Nat → Shared → Prop} (h : ∀ d, Q 0 { s with drawn := d }) : wpAny M A (choose src 1) Q E s := fun Γ p hΓ => by
  show Sem.wp M Γ (Sem.choose src 1 pure) _ _ p s
  rw [Sem.wp_choose]
  refine ⟨by decide, ?_⟩
  rw [Nat.mod_one]
  exact h _
theorem set_pop {a : Addr} {o : Obj} {e : Int × Value} {es : Array (Int × Value)} {ep : Nat} {t : SetTable} {Q : Option Value → Shared → Prop} (ho : s.heap.get? a = some o) (hd : o.data = .set es ep t) (he : es = #[e]) (hf : t.fits es.size = true)
    (h : ∀ d h' o', Heap.SameBut a s.heap h' → h'.get? a = some o' → Q (some e.2) { s with heap := h', drawn := d }) : wpAny (model prog w) A (setPop a) Q E s := by
  unfold setPop
  refine wpAny_bind (wpAny_setState_of ho hd hf ?_)
  subst he
  have hp : t.place.size = 1 := by
    simp only [SetTable.fits, Bool.and_eq_true, beq_iff_eq] at hf
    exact hf.1
  obtain ⟨i, hi⟩ : ∃ i, t.popPlace = some i ∧ i = 0 := by
    unfold SetTable.popPlace
    have : t.place.isEmpty = false := by simp [Array.isEmpty, hp]
    rw [this]
    simp only [Bool.false_eq_true, if_false, hp]
    exact ⟨_, rfl, by split <;> omega⟩
  obtain ⟨hi, rfl⟩ := hi
  dsimp only
  rw [hi]
  have fin : ∀ d, wpAny (model prog w) A (do storeSet a (SetTable.eraseAt #[e] 0) (t.popped 0); return some e.2) Q E { s with drawn := d } := fun d => by
    have g := Heap.get?_update_self (h := s.heap) (Obj.putSet (SetTable.eraseAt #[e] 0) (t.popped 0)) ho (by rw [putSet_of _ _ hd]; rfl)
    refine wpAny_bind (wpAny_storeSet_of (s := { s with drawn := d }) ho hd (wpAny_pure (h d _ _ (Heap.SameBut.update ..) g)) (by show (0:Nat) ≤ _; exact Nat.zero_le _))
  refine wpAny_bind ?_
  unfold setsByText
  refine wpAny_bind (wpAny_askSetting (wpAny_pure ?_))
  split
  · exact wpAny_bind (wpAny_choose1 fun d => fin d)
  · refine wpAny_bind ?_
    show wpAny _ _ (if (!t.led && decide (1 > 1)) = true then _ else _) _ _ _
    rw [if_neg (by simp)]
    exact wpAny_pure (wpAny_bind (wpAny_pure (fin s.drawn)))
theorem call_set_pop {a : Addr} {o : Obj} {k : Int} {S : Int → Bool} {Q : Value → Shared → Prop} (ho : s.heap.get? a = some o) (hs : o.SetObjOf (intKind prog w) S 1) (hk : ∀ j, S j = true → j = k)
    (h : ∀ d t h' o', Heap.SameBut a s.heap h' → h'.get? a = some o' → Q (.int k t) { s with heap := h', drawn := d }) : wpAny (model prog w) A (call (.builtin "set.pop") [.ref a]) Q E s := by
  obtain ⟨hex, es, ep, t, hd, hel, hmem, hn, hf⟩ := hs
  have hT : s.TypeIs (.ref a) "set" := ⟨o, ho, hex.1⟩
  obtain ⟨e, rfl⟩ : ∃ e, es = #[e] := by
    obtain ⟨l⟩ := es
    match l, hn with
    | [e], _ => exact ⟨e, rfl⟩
  obtain ⟨⟨k', hk', _⟩, _⟩ := hel e (by simp)
  have : k' = k := hk k' ((hmem k').mpr ⟨e, by simp, hk'⟩)
  subst this
  obtain ⟨tk, hv⟩ : ∃ t, e.2 = .int k' t := by
    have : (intKind prog w).is k' e.2 = e.2.isInt k' := rfl
    rw [this] at hk'
    cases hv : e.2 <;> rw [hv] at hk' <;> simp [Value.isInt] at hk'
    rw [hk']
    exact ⟨_, rfl⟩
  refine wpAny_call_entry F.slot_set_pop hT F.entry_set_pop ?_ (F.args_set_pop_1 _)
  unfold Builtin.«set.pop» Builtin.Frozenset.noArgs
  simp only [List.isEmpty_nil, bind_assoc]
  unfold Builtin.Frozenset.addrOf
  refine wpAny_bind (wpAny_pure ?_)
  try dsimp only
  try refine wpAny_bind (wpAny_pure ?_)
  try dsimp only
  refine wpAny_bind (set_pop ho hd rfl hf fun d h' o' hs ho' => ?_)
  show wpAny _ _ (ret e.2) _ _ _
  refine wpAny_pure ⟨_, rfl, ?_⟩
  rw [hv]
  exact h d tk h' o' hs ho'
theorem slot_int_bytes : typeLookup (.type "int") "__bytes__" = pure none := by rw [typeLookup_type, builtinLookup_eq_fast]; kernel_rfl
theorem slot_int_idx : typeLookup (.type "int") "__index__" = pure (some (.builtin "int.__index__")) := by rw [typeLookup_type, builtinLookup_eq_fast]; kernel_rfl
theorem asStr_int (n : Int) (t : Tok) : asStr? (.int n t) = pure none := rfl
/-- bytes(n) -/
theorem bytes_new_int {n : Int} {t : Tok} {Q : Value → Shared → Prop} (h0 : 0 ≤ n) (hn : n ≤ 1000) (hQ : ∀ t' k, Q (.bytes (Array.replicate n.toNat 0) t') { s with toks := k }) :
    codeAny (model prog w) A (.call (.builtin "bytes.__new__") ⟨[.type "bytes", .int n t], []⟩) (wants Q E) s := by
  refine codeAny_of_tree ?_
  show wpAny _ A.in1 (do checkBuiltinCall "bytes.__new__" ⟨[.type "bytes", .int n t], []⟩; again (.builtin "bytes.__new__" ⟨[.type "bytes", .int n t], []⟩)) _ _ s
  refine wpAny_bind (wpAny_of_eq (F.bm_newCall _) (wpAny_pure ⟨plainId_quiet F.bm_plain _, codeAny_builtin F.bm_entry ?_⟩))
  rw [Around.under_plainId F.bm_plain _]
  have hT : s.TypeIs (.int n t) "int" := typeIs_int s _ t
  unfold Builtin.«bytes.__new__»
  refine wpAny_bind (wpAny_of_eq (a := true) rfl ?_)
  refine bm_if_false rfl ?_
  refine wpAny_bind (wpAny_of_eq F.bm_sub ?_)
  refine bm_if_false rfl ?_
  refine wpAny_bind (wpAny_of_eq (F.bm_bind _) ?_)
  refine wpAny_bind (wpAny_of_eq (a := ()) rfl ?_)
  refine wpAny_bind (wpAny_of_eq (a := ()) rfl ?_)
  refine bm_if_false rfl ?_
  refine wpAny_bind (wpAny_specialOf hT slot_int_bytes ?_)
  refine wpAny_bind (wpAny_bind (wpAny_of_eq (asStr_int _ _) (wpAny_pure ?_)))
  refine bm_if_false rfl ?_
  refine wpAny_bind (wpAny_specialOf hT slot_int_idx ?_)
  refine bm_if_false rfl ?_
  refine wpAny_bind (wpAny_attempt (wpAny_of_eq (rfl : asIndex (.int n t) = pure n) ?_))
  dsimp only
  have hf : (!Builtin.Bytes.fitsIndex n) = false := by
    unfold Builtin.Bytes.fitsIndex
    simp only [Bool.not_eq_false', Bool.and_eq_true, decide_eq_true_eq]
    omega
  have hl : Builtin.Bytes.tooLong n.toNat = false := by
    unfold Builtin.Bytes.tooLong
    simp only [decide_eq_false_iff_not, sizeLine_eq]
    omega
  refine bm_if_false hf ?_
  rw [if_neg (by omega : ¬ n < 0), if_neg (by omega : ¬ n > 2 ^ 63 - 34)]
  refine bm_if_false hl ?_
  refine wpAny_bind (wpAny_rule (wpAny_bind (wpAny_mkBytes ?_ (by rw [Array.size_replicate, sizeLine_eq]; omega))))
  show wpAny _ _ (if (Value.type "bytes" == Value.type "bytes") = true then _ else _) _ _ _
  refine bm_if_true (by decide) ?_
  first
    | exact wpAny_pure (hQ _ _)
    | exact wpAny_bind (wpAny_pure (wpAny_pure (hQ _ _)))
theorem call_bytes_int {n : Int} {t : Tok} {Q : Value → Shared → Prop} (h0 : 0 ≤ n) (hn : n ≤ 1000) (hQ : ∀ t' k, Q (.bytes (Array.replicate n.toNat 0) t') { s with toks := k }) : wpAny (model prog w) A (call (.type "bytes") [.int n t]) Q E s := by
  refine callType_codes (Q₁ := fun obj s₁ => s₁.TypeIs obj "bytes" ∧ Q obj s₁) F.bm_called (F.bm_typeCall _) F.entry_object_init
    (bytes_new_int h0 hn fun t' k => ⟨PySem.W.typeIs_bytes _ _ _, hQ t' k⟩) fun obj s₁ h₁ => ?_
  exact ⟨h₁.1, F.args_object_init_2 obj _, object_init_meets F.bm_called.init.lookup F.bm_called.made (by decide) prog w A.in1 _ s₁ ⟨h₁.1, rfl, h₁.2⟩⟩
end
section
variable {C : Cx} {ρ : List (Str × D)}
/-- an expression that turns own objects -/
noncomputable def EvO (C : Cx) (ρ : List (Str × D)) (e : Expr) (d : D) (O' : Own) : Prop := ∀ s, C.I ρ s → wpAny C.M C.A (eval e C.env) (fun v s' => sat d v (C.hid s') ∧ (C.like C.X C.F O').I ρ s') NoE s
theorem EvO.bytes1 {n : Str} {np p : Pos} {e : Expr} {k : Nat} {O' : Own} (hf : Ev C ρ (.Name n np) (.val (.type "bytes"))) (h : EvO C ρ e (.nat k) O') (hk : k ≤ 1000) (hs : backTo p (starEach [e] C.env) = [(false, eval e C.env)] := by rfl) :
    EvO C ρ (.Call (.Name n np) [e] [] p) (.bytes (List.replicate k 0)) O' := fun s x =>
  wpAny_Call_ofName (wp_mono (hf s x) fun v s1 p1 => by
    have := of_val p1.v
    subst this
    rw [hs]
    refine callWith_of (P := fun h => Callable C.M _ h) rfl (fun _ x => x) (evalArgs_plain (spliced_cons (wp_mono (h s1 p1.i) fun v s5 g => spliced_nil ⟨Callable.type, ?_⟩)))
    obtain ⟨hv, i⟩ := g
    obtain ⟨t, rfl⟩ := of_int hv
    refine call_bytes_int (Int.natCast_nonneg k) (by omega) fun t' tk => ⟨?_, i.tok _⟩
    rw [Int.toNat_natCast, ← List.toArray_replicate]
    exact sat_bytes)
theorem Ev.bytes1 {n : Str} {np p : Pos} {e : Expr} {k : Nat} (hf : Ev C ρ (.Name n np) (.val (.type "bytes"))) (h : Ev C ρ e (.nat k)) (hk : k ≤ 1000) (he : starEach [e] C.env = (false, eval e C.env) :: starEach [] C.env := by rfl) :
    Ev C ρ (.Call (.Name n np) [e] [] p) (.bytes (List.replicate k 0)) :=
  hf.call (.cons h .nil he) fun s vs i hv => ⟨Callable.type, by
    obtain ⟨v, rfl, hx⟩ := sats1 hv
    obtain ⟨t, rfl⟩ := of_int hx
    refine call_bytes_int (Int.natCast_nonneg k) (by omega) fun t' tk => Po.tok i _ ?_
    rw [Int.toNat_natCast, ← List.toArray_replicate]
    exact sat_bytes⟩
theorem Bk.assignO {n : Str} {np p : Pos} {e : Expr} {d : D} {O' : Own} {rest : List Stmt} {Q : Flow → Shared → Prop} (h : EvO C ρ e d O') (hc : canStore C.w.t C.env n = true) (hr : Bk (C.like C.X C.F O') ((n, d) :: ρ) rest Q)
    (hs : swapsWith e (some (.Name n np)) p.line C.env = pure false := by rfl) : Bk C ρ (.Assign [.Name n np] e p :: rest) Q := fun s x =>
  wpAny_execs_cons (wpAny_Assign_Name (wp_mono (h s x) fun v s1 q => store_var q.2 hc q.1 fun s' i => hr s' i) hs)
/-- the sets of the frame's own -/
noncomputable abbrev setP (C : Cx) (val : Nat → Int) (n : Nat) (o : Obj) : Prop := isSet C val n o
theorem EvN.setG {n : Str} {np p : Pos} {ge : Expr} {N : Nat} {val : Nat → Int} (ht : C.w.t = true) (hf : Ev C ρ (.Name n np) (.val (.type "set"))) (hg : GE C ρ ge N (fun i y => ∃ t, y = .int (val i) t))
    (hz : N ≤ 1000) (hs : backTo p (starEach [ge] C.env) = [(false, eval ge C.env)] := by rfl) : EvN C ρ (.Call (.Name n np) [ge] [] p) (isSet C val N) := fun s x =>
  wpAny_Call_ofName (wp_mono (hf s x) fun v s1 p1 => by
    have := of_val p1.v
    subst this
    rw [hs]
    refine callWith_of (P := fun h => Callable C.M _ h) rfl (fun _ x => x) (evalArgs_plain (spliced_cons (wp_mono (hg s1 p1.i) fun v s5 g => spliced_nil ⟨Callable.type, ?_⟩)))
    obtain ⟨a, fp, wr, gn, St, s2, rfl, i1, m1, m5, tb5, W, st, hfp, hwr, ha, hT⟩ := g.ex
    refine wp_mono (wpAny_sz (call_setS (Q := fun r s' => r = .ref s5.heap.objs.size ∧ SetIs C.prog C.w.w val N s'.heap s5.heap.objs.size ∧ ∃ wr', (∀ b ∈ wr', b ∈ wr ∨ s5.heap.objs.size ≤ b) ∧ Moved wr' (GenOnlyQ gn) s5 s') W val (fun i v h => h) (by unfold scanBound; omega) (hT 0 s5 st) st hfp fun s' wr' h hm hS => ⟨rfl, hS, wr', h, hm⟩)) fun r s' q => ?_
    obtain ⟨hz, rfl, hS, wr', hw', hm⟩ := q
    obtain ⟨i', m'⟩ := moved_back ht i1 m5 tb5 (fun b hb => (hw' b hb).elim (hwr b) fun h => Nat.le_trans m5.kp.size h) hm hz
    obtain ⟨o, ho, hso⟩ := hS.objOf
    exact ⟨⟨_, o, rfl, Nat.le_trans (p1.m.trans (m1.trans m5)).kp.size (Nat.le_refl _), ho, hso⟩, i', (p1.m.trans m1).trans m'⟩)
theorem own_at {a : Addr} {P : Obj → Prop} {s : Shared} {O1 O2 : Own} (hO : C.O = O1 ++ (a, P) :: O2) (i : C.I ρ s) : ∃ o, s.heap.get? a = some o ∧ P o :=
  (i.ow (a, P) (by rw [hO]; exact List.mem_append_right _ (.head _))).1
theorem Ev.lenS {n m : Str} {np mp p : Pos} {a : Addr} {val : Nat → Int} {N k : Nat} {O1 O2 : Own} (hf : Ev C ρ (.Name n np) (.val (.builtin "len"))) (hr : Has ρ m (.val (.ref a))) (hv : isVar C.env m = true) (hO : C.O = O1 ++ (a, isSet C val N) :: O2) (hk : (firstMet val N).length = k) (hz : k ≤ 1000)
    (he : starEach [.Name m mp] C.env = (false, eval (.Name m mp) C.env) :: starEach [] C.env := by rfl) : Ev C ρ (.Call (.Name n np) [.Name m mp] [] p) (.nat k) :=
  hf.call (.cons (.var hr hv) .nil he) fun s vs i hvs => ⟨Callable.builtin, by
    obtain ⟨v, rfl, hx⟩ := sats1 hvs
    have := of_val hx
    subst this
    obtain ⟨o, ho, hex, es, ep, t, hd, hel, hmem, hn, hf'⟩ := own_at hO i
    refine call_len_set ho hex hd hf' (by rw [hn, hk]; omega) ?_
    rw [hn, hk]
    exact Po.tok i _ sat_int⟩
theorem Tr.inS {l : Expr} {m : Str} {mp p : Pos} {x : Int} {b : Bool} {a : Addr} {val : Nat → Int} {N : Nat} {O1 O2 : Own} (hl : Ev C ρ l (.int x)) (hr : Has ρ m (.val (.ref a))) (hv : isVar C.env m = true) (hO : C.O = O1 ++ (a, isSet C val N) :: O2) (hz : (firstMet val N).length ≤ 1000)
    (hb : (firstMet val N).any (· == x) = b) (hm : behindInMarks .In (.Name m mp) = false := by with_unfolding_all rfl) : Tr C ρ (.Compare l [.In] [.Name m mp] p) b :=
  .cmp hl (.var hr hv) (fun s v u i h1 h2 => by
    obtain ⟨t, rfl⟩ := of_int h1
    have := of_val h2
    subst this
    obtain ⟨o, ho, hs⟩ := own_at hO i
    refine wpAny_inSet_of (intKind_is _ _ _ _) rfl (hs.setOf ho (by unfold scanBound; omega)) ?_
    rw [hb]
    exact Po.tok i _ sat_bool) hm
theorem In.drawn {w : Wo} {env : Env} {X : List Addr} {F : List (D × Value)} {O : Own} {s0 s : Shared} (ht : w.t = true) (i : In w env X F O s0 ρ s) (d : Drawn) : In w env X F O s0 ρ { s with drawn := d } :=
  { i with mv := ⟨i.mv.kp, i.mv.os, i.mv.gens, fun e => by rw [ht] at e; cases e⟩ }
theorem EvO.popS {m : Str} {mp ap p : Pos} {nm : Str} {x : Int} {a : Addr} {val : Nat → Int} {N : Nat} {O1 O2 : Own} (ht : C.w.t = true) (hn : nm = "pop" := by rfl) (hr : Has ρ m (.val (.ref a))) (hv : isVar C.env m = true) (hO : C.O = O1 ++ (a, isSet C val N) :: O2)
    (h1 : (firstMet val N).length = 1) (hx : ∀ j, (firstMet val N).any (· == j) = true → j = x)
    (hbase : attributeBase (.Name m mp) nm C.env (eval (.Name m mp) C.env) = eval (.Name m mp) C.env := by rfl) (hline : (ap.endLine == p.line) = true := by rfl) :
    EvO C ρ (.Call (.Attribute (.Name m mp) nm ap) [] [] p) (.int x) (O1 ++ (a, fun _ => True) :: O2) := fun s i => by
  subst hn
  refine wpAny_Call_method hbase rfl hline F.plainAttrs_set F.slot_set_pop F.type_set_pop (wp_mono ((Ev.var hr hv) s i) fun v s1 q => ?_)
  have := of_val q.v
  subst this
  obtain ⟨o, ho, hs⟩ := own_at hO q.i
  refine ⟨⟨o, ho, hs.1.1⟩, fun b e => by cases e; exact ⟨o, ho, hs.1.2.1⟩, ?_⟩
  have hs : o.SetObjOf (intKind C.prog C.w.w) (fun k' => (firstMet val N).any (· == k')) 1 := h1 ▸ hs
  refine callWith_of (P := fun h => Callable C.M (.builtin "set.pop") h) rfl (fun _ x => x) (evalArgs_of rfl (spliced_nil ⟨Callable.builtin, ?_⟩))
  refine call_set_pop ho hs hx fun d t h' o' hsb ho' => ⟨sat_int, ?_⟩
  have i3 : In C.w C.env C.X C.F (O1 ++ (a, isSet C val N) :: O2) C.s0 ρ s1 := hO ▸ q.i
  exact In.drawn ht (In.turn (t := s1.toks) (P' := fun _ => True) i3 hsb ho' trivial) d
end
end Mine

-- I1
namespace Mine
noncomputable def logN : List Nat := (litsAt 13 ++ litsAt 14).map Int.toNat
noncomputable def expN : List Nat := (litsAt 10 ++ litsAt 11).map Int.toNat
noncomputable abbrev ofN (ks : List Nat) : List Int := ks.map fun (k : Nat) => (k : Int)
theorem logN_int : litsAt 13 ++ litsAt 14 = ofN logN := by kernel_rfl
theorem expN_int : litsAt 10 ++ litsAt 11 = ofN expN := by kernel_rfl
theorem logN_len : logN.length = 256 := by kernel_rfl
theorem expN_len : expN.length = 255 := by kernel_rfl
theorem ints_zip (t : Nat) : ∀ (ns : List Int) (k : Nat), IntsAre ((ns.zipIdx k).map fun x => Value.int x.1 (t + x.2)) ns
  | [], _ => .nil
  | n :: ns, k => .cons n _ (ints_zip t ns (k + 1))
theorem ints_tab (t : Nat) (ns : List Int) : IntsAre (tabOf t ns) ns := ints_zip t ns 0
structure TabIs (w : World) (a : Addr) (ks : List Nat) : Prop where
  ex : ∃ vs c, (K0 w).lookup a = some { cls := .type "list", data := .seq (vs : List Value).toArray c } ∧ IntsAre vs (ofN ks)
theorem log_tab (w : World) : TabIs w 154 logN := ⟨tabOf 656 (litsAt 13) ++ tabOf 785 (litsAt 14), 0, by kernel_rfl, logN_int ▸ intsAre_append (ints_tab _ _) (ints_tab _ _)⟩
theorem exp_tab (w : World) : TabIs w 151 expN := ⟨tabOf 398 (litsAt 10) ++ tabOf 527 (litsAt 11), 0, by kernel_rfl, expN_int ▸ intsAre_append (ints_tab _ _) (ints_tab _ _)⟩
noncomputable def lg (k : Nat) : Nat := logN.getD k 0
noncomputable def xp (k : Nat) : Nat := expN.getD k 0
section
variable {C : Cx} {ρ : List (Str × D)}
theorem Ev.tab {value slice : Expr} {p : Pos} {a : Addr} {ks : List Nat} {k e : Nat} (h : Ev C ρ value (.val (.ref a))) (hT : TabIs C.w.w a ks) (hi : Ev C ρ slice (.nat k)) (hk : ks[k]? = some e) (hz : ks.length < 2 ^ 40)
    (hs : ∀ a k u, subscripted slice false (.ref a) (.int k u) = operate [.ref a, .int k u] (getItem (.ref a) (.int k u)) := by intros; with_unfolding_all rfl) (hg : ∀ a r, letTemporaryGo value (.ref a) r = pure () := by intros; with_unfolding_all rfl) :
    Ev C ρ (.Subscript value slice p) (.nat e) := fun s x =>
  Subscript_ (wp_mono (h s x) fun v s1 q1 => wp_mono (hi s1 q1.i) fun i s2 q2 => by
    obtain ⟨t, rfl⟩ := of_int q2.v
    have := of_val q1.v
    subst this
    obtain ⟨vs, c, hl, hI⟩ := hT.ex
    have hL : s2.heap.IsList a vs.toArray := ⟨_, q2.i.base.inK _ _ hl, rfl, c, rfl⟩
    have hk' : (ofN ks)[k]? = some (e : Int) := by rw [List.getElem?_map, hk]; rfl
    obtain ⟨u, hu⟩ := intsAre_at hI hk'
    have hlt : k < ks.length := (List.getElem?_eq_some_iff.mp hk).1
    have h40 : (2:Nat)^40 = 1099511627776 := by decide
    exact item_listL hL (Int.natCast_nonneg k) (by omega) (by rw [Int.toNat_natCast]; exact hu) ⟨sat_int, q2.i, q1.m.trans q2.m⟩ (hs _ _ _) (fun r => hg _ r))
theorem lg_at {k : Nat} (h : k < 256) : logN[k]? = some (lg k) := by
  unfold lg
  rw [List.getD_eq_getElem?_getD, List.getElem?_eq_getElem (by rw [logN_len]; exact h)]; rfl
theorem xp_at {k : Nat} (h : k < 255) : expN[k]? = some (xp k) := by
  unfold xp
  rw [List.getD_eq_getElem?_getD, List.getElem?_eq_getElem (by rw [expN_len]; exact h)]; rfl
theorem Ev.log {n : Str} {np p : Pos} {slice : Expr} {k : Nat} (hf : Ev C ρ (.Name n np) (.val (.ref 154))) (hi : Ev C ρ slice (.nat k)) (hk : k < 256)
    (hs : ∀ a k u, subscripted slice false (.ref a) (.int k u) = operate [.ref a, .int k u] (getItem (.ref a) (.int k u)) := by intros; with_unfolding_all rfl) : Ev C ρ (.Subscript (.Name n np) slice p) (.nat (lg k)) :=
  .tab hf (log_tab _) hi (lg_at hk) (by rw [logN_len]; decide) hs
theorem Ev.exp {n : Str} {np p : Pos} {slice : Expr} {k : Nat} (hf : Ev C ρ (.Name n np) (.val (.ref 151))) (hi : Ev C ρ slice (.nat k)) (hk : k < 255)
    (hs : ∀ a k u, subscripted slice false (.ref a) (.int k u) = operate [.ref a, .int k u] (getItem (.ref a) (.int k u)) := by intros; with_unfolding_all rfl) : Ev C ρ (.Subscript (.Name n np) slice p) (.nat (xp k)) :=
  .tab hf (exp_tab _) hi (xp_at hk) (by rw [expN_len]; decide) hs
end
theorem boot_set : bootBuiltins "set" = some (.type "set") := by decide +kernel
theorem boot_bytes : bootBuiltins "bytes" = some (.type "bytes") := by decide +kernel
theorem boot_zip : bootBuiltins "zip" = some (.type "zip") := by decide +kernel
theorem boot_sum : bootBuiltins "sum" = some (.builtin "sum") := by decide +kernel
theorem interp_fn (w : Wo) : FnObj w 161 (fnAt w 161) (bodyOf (fnAt w 161)) := ⟨by kernel_rfl, by kernel_rfl, by kernel_rfl, by kernel_rfl, by kernel_rfl, by kernel_rfl, by kernel_rfl, by kernel_rfl, ⟨160, codeVs w 160, 916, by kernel_rfl, by kernel_rfl, by kernel_rfl⟩⟩

/-- what the log of the basis comes to -/
noncomputable def xAt (xs : List Nat) (i : Nat) : Nat := xs.getD i 0
noncomputable def logProd (xs : List Nat) (x : Nat) : Int := preSum (fun i => (lg (xAt xs i ^^^ x) : Int)) xs.length
noncomputable def basis (xs : List Nat) (x j : Nat) : Nat := ((logProd xs x - (lg (j ^^^ x) : Int) - preSum (fun i => (lg (j ^^^ xAt xs i) : Int)) xs.length).fmod 255).toNat
noncomputable def mulL (v l : Nat) : Nat := if v = 0 then 0 else xp ((lg v + l) % 255)
noncomputable def stepB (l : Nat) (vs rs : List UInt8) : List UInt8 := (List.range vs.length).map fun i => ((rs.getD i 0).toNat ^^^ mulL (vs.getD i 0).toNat l).toUInt8
noncomputable def interp (shs : List (Nat × List UInt8)) (x size : Nat) : List UInt8 := shs.foldl (fun r p => stepB (basis (shs.map (·.1)) x p.1) p.2 r) (List.replicate size 0)
noncomputable abbrev shD (p : Nat × List UInt8) : D := .share p.1 p.2
end Mine

-- I2
namespace Mine
theorem shs_get {shs : List (Nat × List UInt8)} {i : Nat} {d : D} (h : (shs.map shD)[i]? = some d) : ∃ p, shs[i]? = some p ∧ d = shD p ∧ xAt (shs.map (·.1)) i = p.1 ∧ p ∈ shs := by
  rw [List.getElem?_map] at h
  obtain ⟨p, hp, rfl⟩ := Option.map_eq_some_iff.mp h
  refine ⟨p, hp, rfl, ?_, List.mem_of_getElem? hp⟩
  unfold xAt
  rw [List.getD_eq_getElem?_getD, List.getElem?_map, hp]; rfl
theorem dedup_nodup : ∀ (l σ : List Int), (σ ++ l).Nodup → l.foldl step_dedup σ = σ ++ l
  | [], σ, _ => by simp
  | v :: l, σ, h => by
    have hv : σ.any (· == v) = false := by
      rw [List.any_eq_false]
      intro y hy e
      rw [beq_iff_eq] at e
      subst e
      rw [List.nodup_append] at h
      exact h.2.2 y hy y (.head _) rfl
    have e : step_dedup σ v = σ ++ [v] := by unfold step_dedup; rw [hv]; rfl
    rw [List.foldl_cons, e, dedup_nodup l (σ ++ [v]) (by simpa using h)]
    simp
theorem range_map_get (xs : List Nat) : (List.range xs.length).map (fun i => (xAt xs i : Int)) = xs.map fun (n : Nat) => (n : Int) := by
  apply List.ext_getElem
  · simp
  · intro i h1 h2
    have : i < xs.length := by simpa using h2
    simp [xAt, List.getD_eq_getElem?_getD, List.getElem?_eq_getElem this]
theorem firstMet_nodup {xs : List Nat} (h : xs.Nodup) : firstMet (fun i => (xAt xs i : Int)) xs.length = xs.map fun (n : Nat) => (n : Int) := by
  unfold firstMet
  rw [range_map_get, dedup_nodup _ [] (by
    rw [List.nil_append]
    exact List.pairwise_map.mpr (List.Pairwise.imp (fun hne e => hne (Int.ofNat.inj e)) h))]
  simp
theorem firstMet_const {val : Nat → Int} {c : Int} : ∀ n, (∀ i, i < n + 1 → val i = c) → firstMet val (n + 1) = [c]
  | 0, h => by
    rw [firstMet_succ, firstMet_zero, h 0 (by omega)]; rfl
  | n + 1, h => by
    rw [firstMet_succ, firstMet_const n (fun i hi => h i (by omega)), h (n + 1) (by omega)]
    unfold step_dedup
    simp
theorem Tr.cast {C : Cx} {ρ : List (Str × D)} {e : Expr} {b b' : Bool} (h : Tr C ρ e b) (q : b = b') : Tr C ρ e b' := q ▸ h
theorem Ev.cast {C : Cx} {ρ : List (Str × D)} {e : Expr} {b b' : D} (h : Ev C ρ e b) (q : b = b') : Ev C ρ e b' := q ▸ h
theorem Bk.ret_own {C : Cx} {ρ : List (Str × D)} {w : Wo} {X : List Addr} {s : Shared} {e : Expr} {p : Pos} {r : List Stmt} {d : D} (hs : C.s0 = s) (hw : C.w = w) (hX : ∀ a ∈ X, a ∈ C.X) (h : Ev C ρ e d) : Bk C ρ (.Return (some e) p :: r) (FnQ w X d s) := by
  subst hs hw
  exact .ret h fun v s' hv i => ⟨sat_mono (hide_sub hX) hv, i.mv, i.tb⟩
theorem GE.cast {C : Cx} {ρ : List (Str × D)} {e : Expr} {n n' : Nat} {P : Nat → Value → Prop} (h : GE C ρ e n P) (q : n = n') : GE C ρ e n' P := q ▸ h
theorem xor256 {a b : Nat} (ha : a < 256) (hb : b < 256) : a ^^^ b < 256 := Nat.xor_lt_two_pow (n := 8) ha hb
theorem xp_lt (k : Nat) : xp k < 256 := by
  unfold xp
  have h : ∀ e ∈ expN, e < 256 := by
    have : expN.all (fun e => decide (e < 256)) = true := by kernel_rfl
    intro e he
    exact of_decide_eq_true (List.all_eq_true.mp this e he)
  rw [List.getD_eq_getElem?_getD]
  cases hk : expN[k]? with
  | none => simp
  | some e => exact h e (List.mem_of_getElem? hk)
theorem mulL_lt (v l : Nat) : mulL v l < 256 := by unfold mulL; split; decide; exact xp_lt _
theorem stepB_len (l : Nat) (vs rs : List UInt8) : (stepB l vs rs).length = vs.length := by simp [stepB]
theorem basis_int (xs : List Nat) (x j : Nat) : (logProd xs x - (lg (j ^^^ x) : Int) - preSum (fun i => (lg (j ^^^ xAt xs i) : Int)) xs.length).fmod 255 = (basis xs x j : Int) := by
  unfold basis
  rw [Int.toNat_of_nonneg (Int.fmod_nonneg_of_pos _ (by decide))]
theorem interp_Fn (w : World) (prog : Program) (shs : List (Nat × List UInt8)) (x size : Nat) (hx : x < 256) (hxs : ∀ p ∈ shs, p.1 < 256 ∧ p.2.length = size ∧ p.1 ≠ x) (hnd : (shs.map (·.1)).Nodup) (hne : 0 < shs.length) (hz : shs.length ≤ 1000) (hsz : size ≤ 1000) :
    Fn ⟨w, true⟩ prog 5 (.ref 161) [.list (shs.map shD), .nat x] (.bytes (interp shs x size)) :=
  .of (names := ["shares", "x"]) (interp_fn _) rfl (bind2 (by intros; kernel_rfl)) (by kernel_rfl) (by kernel_rfl) fun A X s L R => by
    have hlen : (shs.map shD).length = shs.length := List.length_map ..
    have hlx : (shs.map (·.1)).length = shs.length := List.length_map ..
    refine .cons .doc ?_
    refine .own (.setG (val := fun i => (xAt (shs.map (·.1)) i : Int)) (N := shs.length) rfl (.blt (by kernel_rfl) (by kernel_rfl) boot_set (by decide)) (.cast (.list (k := 3) (ρ' := []) rfl (by kernel_rfl) (R.deeper _) (.var (d := .list (shs.map shD)) (by kernel_rfl) (by kernel_rfl)) (.of (by kernel_rfl) (by kernel_rfl)) (by kernel_rfl) (fun _ h => (nomatch h)) rfl
      fun A' L' code X' t i d R' hd => ?_) hlen) hz) (by kernel_rfl) fun a1 => ?_
    · obtain ⟨p, hp, rfl, e, _⟩ := shs_get hd
      show Ev _ _ _ (.int ((xAt (shs.map (·.1)) i : Nat) : Int))
      rw [e]
      exact .shareX R' (.var lk0 (by kernel_rfl))
    have hfm : firstMet (fun i => (xAt (shs.map (·.1)) i : Int)) shs.length = (shs.map (·.1)).map fun (n : Nat) => (n : Int) := hlx ▸ firstMet_nodup hnd
    refine .cons (.if_false (.cast (.ne (.lenS (k := shs.length) (.blt (by kernel_rfl) (by kernel_rfl) boot_len (by decide)) lk0 (by kernel_rfl) (O1 := []) rfl (by rw [hfm]; simp) hz)
      (.len (.blt (by kernel_rfl) (by kernel_rfl) boot_len (by decide)) (.var (d := .list (shs.map shD)) (by kernel_rfl) (by kernel_rfl)) (.list _) hlen (by omega))) (by simp))) ?_
    refine .own (.setG (val := fun _ => (size : Int)) (N := shs.length) rfl (.blt (by kernel_rfl) (by kernel_rfl) boot_set (by decide)) (.cast (.list (k := 3) (ρ' := []) rfl (by kernel_rfl) (R.deeper _) (.var (d := .list (shs.map shD)) (by kernel_rfl) (by kernel_rfl)) (.of (by kernel_rfl) (by kernel_rfl)) (by kernel_rfl) (fun _ h => (nomatch h)) rfl
      fun A' L' code X' t i d R' hd => ?_) hlen) hz) (by kernel_rfl) fun a2 => ?_
    · obtain ⟨p, hp, rfl, e, hm⟩ := shs_get hd
      exact .lenB (.blt (by kernel_rfl) (by kernel_rfl) boot_len (by decide)) (.shareD R' (.var lk0 (by kernel_rfl))) (hxs p hm).2.1 (by omega)
    have hfc : firstMet (fun _ => (size : Int)) shs.length = [(size : Int)] := by
      obtain ⟨n, hn⟩ : ∃ n, shs.length = n + 1 := ⟨shs.length - 1, by omega⟩
      rw [hn]
      exact firstMet_const n fun _ _ => rfl
    refine .cons (.if_false (.cast (.ne (.lenS (k := 1) (.blt (by kernel_rfl) (by kernel_rfl) boot_len (by decide)) lk0 (by kernel_rfl) (O1 := []) rfl (by rw [hfc]; rfl) (by decide)) .int) (by decide))) ?_
    refine .cons (.if_false (.inS (b := false) (.var (d := .nat x) (by kernel_rfl) (by kernel_rfl)) (lk (by kernel_rfl) lk0) (by kernel_rfl) (O1 := [(a2, _)]) rfl (by rw [hfm]; simp; omega) ?_)) ?_
    · rw [hfm, List.any_eq_false]
      intro y hy e
      rw [beq_iff_eq] at e
      subst e
      obtain ⟨n, hn, e⟩ := List.mem_map.mp hy
      obtain ⟨p, hp, rfl⟩ := List.mem_map.mp hn
      exact (hxs p hp).2.2 (Int.ofNat.inj e)
    refine .cons (.assign (d := .int (logProd (shs.map (·.1)) x)) (.cast (.sumG (val := fun i => (lg (xAt (shs.map (·.1)) i ^^^ x) : Int)) (N := shs.length) rfl (.blt (by kernel_rfl) (by kernel_rfl) boot_sum (by decide)) (.cast (.list (k := 3) (ρ' := [("x", .nat x)]) rfl (by kernel_rfl) (R.deeper _) (.var (d := .list (shs.map shD)) (by kernel_rfl) (by kernel_rfl)) (.of (by kernel_rfl) (by kernel_rfl)) (by kernel_rfl)
      (fun p hp => by rw [List.mem_singleton.mp hp]; exact ⟨by kernel_rfl, by kernel_rfl⟩) (by kernel_rfl) fun A' L' code X' t i d R' hd => ?_) hlen)) (by unfold logProd; rw [hlx])) (by kernel_rfl)) ?_
    · obtain ⟨p, hp, rfl, e, hm⟩ := shs_get hd
      show Ev _ _ _ (.nat (lg (xAt (shs.map (·.1)) i ^^^ x)))
      rw [e]
      exact .log (.globV (by kernel_rfl) (by kernel_rfl)) (.xorN (.shareX R' (.var lk0 (by kernel_rfl))) (.var (by kernel_rfl) (by kernel_rfl))) (xor256 (hxs p hm).1 hx)
    refine .assignO (.bytes1 (k := size) (.blt (by kernel_rfl) (by kernel_rfl) boot_bytes (by decide)) (.popS (x := (size : Int)) rfl rfl (lk (by kernel_rfl) lk0) (by kernel_rfl) (O1 := []) rfl (by rw [hfc]; rfl) fun j hj => ?_) hsz) (by kernel_rfl) ?_
    · rw [hfc] at hj
      simp at hj
      exact hj.symm
    refine .for_ (.var (d := .list (shs.map shD)) (by kernel_rfl) (by kernel_rfl)) (.list (R.deeper _).hd) (by kernel_rfl)
      (fun i ρ => ∃ r, Has ρ "shares" (.list (shs.map shD)) ∧ Has ρ "x" (.nat x) ∧ Has ρ "log_prod" (.int (logProd (shs.map (·.1)) x)) ∧ Has ρ "result" (.bytes r) ∧ r.length = size ∧ (shs.drop i).foldl (fun r p => stepB (basis (shs.map (·.1)) x p.1) p.2 r) r = interp shs x size)
      ⟨List.replicate size 0, by kernel_rfl, by kernel_rfl, by kernel_rfl, by kernel_rfl, by simp, rfl⟩ (fun i d ρ X F O hd hI => ?_) fun ρ hI => ?_
    · obtain ⟨r, h1, h2, h3, h4, hr, he⟩ := hI
      obtain ⟨p, hp, rfl, _, hm⟩ := shs_get hd
      rw [drop_of hp, List.foldl_cons] at he
      obtain ⟨hp1, hp2, hp3⟩ := hxs p hm
      refine .cons (.assign (d := .nat (basis (shs.map (·.1)) x p.1)) (.cast (.mod (b := 255) (.sub (.sub (.var (lk (by kernel_rfl) h3) (by kernel_rfl)) (.log (k := p.1 ^^^ x) (.globV (by kernel_rfl) (by kernel_rfl)) (.xorN (.shareX (R.deeper _ |>.less (by decide)) (.var lk0 (by kernel_rfl))) (.var (lk (by kernel_rfl) h2) (by kernel_rfl))) (xor256 hp1 hx)))
        (.sumG (val := fun i => (lg (p.1 ^^^ xAt (shs.map (·.1)) i) : Int)) (N := shs.length) rfl (.blt (by kernel_rfl) (by kernel_rfl) boot_sum (by decide)) (.cast (.list (k := 3) (ρ' := [("share", shD p)]) rfl (by kernel_rfl) (R.deeper _) (.var (lk (by kernel_rfl) h1) (by kernel_rfl)) (.of (by kernel_rfl) (by kernel_rfl)) (by kernel_rfl)
          (fun q hq => by rw [List.mem_singleton.mp hq]; exact ⟨lk0, by kernel_rfl⟩) (by kernel_rfl) fun A' L' code X' t i d R' hd => ?_) hlen))) .int (by decide)) (by rw [← hlx, basis_int])) (by kernel_rfl)) ?_
      · obtain ⟨q, hq, rfl, e, hm'⟩ := shs_get hd
        show Ev _ _ _ (.nat (lg (p.1 ^^^ xAt (shs.map (·.1)) i)))
        rw [e]
        exact .log (.globV (by kernel_rfl) (by kernel_rfl)) (.xorN (.shareX R' (.var (lk (by kernel_rfl) lk0) (by kernel_rfl))) (.shareX R' (.var lk0 (by kernel_rfl)))) (xor256 hp1 (hxs q hm').1)
      have hl2 : p.2.length = r.length := by rw [hp2, hr]
      refine .cons (.assign (d := .bytes (stepB (basis (shs.map (·.1)) x p.1) p.2 r)) (.cast (.bytesG (N := p.2.length) (val := fun i => (((r.getD i 0).toNat ^^^ mulL (p.2.getD i 0).toNat (basis (shs.map (·.1)) x p.1) : Nat) : Int)) rfl (.blt (by kernel_rfl) (by kernel_rfl) boot_bytes (by decide))
        (.zip (k := 3) (ρ' := [("log_basis_eval", .nat (basis (shs.map (·.1)) x p.1))]) rfl (by kernel_rfl) (R.deeper _) (.blt (by kernel_rfl) (by kernel_rfl) boot_zip (by decide)) (.shareD (R.deeper _ |>.less (by decide)) (.var (lk (by kernel_rfl) lk0) (by kernel_rfl))) (.var (lk (by kernel_rfl) (lk (by kernel_rfl) h4)) (by kernel_rfl)) hl2
          (.of (by kernel_rfl) (by kernel_rfl)) (by kernel_rfl) (by kernel_rfl) (by decide) (fun q hq => by rw [List.mem_singleton.mp hq]; exact ⟨lk0, by kernel_rfl⟩) (by kernel_rfl) fun A' L' code X' t i c1 c2 R' g1 g2 => ?_) (fun i hi => ⟨Int.natCast_nonneg _, ?_⟩) (by omega)) ?_) (by kernel_rfl)) ?_
      · have e1 : p.2.getD i 0 = c1 := by rw [List.getD_eq_getElem?_getD, g1]; rfl
        have e2 : r.getD i 0 = c2 := by rw [List.getD_eq_getElem?_getD, g2]; rfl
        show Ev _ _ _ (.nat _)
        rw [e1, e2]
        refine .xorN (.var lk0 (by kernel_rfl)) (.ite (.ne (.var (lk (by kernel_rfl) lk0) (by kernel_rfl)) .int) (fun hc => ?_) fun hc => ?_)
        · have hc' : c1.toNat ≠ 0 := by
            intro q
            rw [q] at hc
            revert hc
            decide
          unfold mulL
          rw [if_neg hc']
          exact .exp (.globV (by kernel_rfl) (by kernel_rfl)) (.modN (.addN (.log (.globV (by kernel_rfl) (by kernel_rfl)) (.var (lk (by kernel_rfl) lk0) (by kernel_rfl)) (UInt8.toNat_lt c1)) (.var (by kernel_rfl) (by kernel_rfl))) (.natLit rfl) (by decide)) (Nat.mod_lt _ (by decide))
        · have hc' : c1.toNat = 0 := by
            by_cases q : c1.toNat = 0
            · exact q
            · exfalso
              revert hc
              simp
              intro q'
              exact q q'
          unfold mulL
          rw [if_pos hc']
          exact .natLit rfl
      · have := xor256 (UInt8.toNat_lt (r.getD i 0)) (mulL_lt (p.2.getD i 0).toNat (basis (shs.map (·.1)) x p.1))
        omega
      · unfold stepB
        rfl
      exact .nil fun s y => ⟨rfl, _, ⟨_, lk (by kernel_rfl) (lk (by kernel_rfl) (lk (by kernel_rfl) h1)), lk (by kernel_rfl) (lk (by kernel_rfl) (lk (by kernel_rfl) h2)), lk (by kernel_rfl) (lk (by kernel_rfl) (lk (by kernel_rfl) h3)), lk0, by rw [stepB_len, hp2], he⟩, y⟩
    · obtain ⟨r, h1, h2, h3, h4, hr, he⟩ := hI
      have e0 : r = interp shs x size := by rw [hlen, List.drop_length] at he; exact he
      rw [← e0]
      exact .ret_own rfl rfl (fun a ha => .tail _ (.tail _ (.tail _ (List.mem_append_right _ ha)))) (.var h4 (by kernel_rfl))
end Mine

-- S2
namespace Mine
/-- what is known without a frame -/
structure Sk (w : Wo) (X : List Addr) (F : List (D × Value)) (O : Own) (s0 s : Shared) : Prop where
  wd0 : Base w s0.heap
  tb : Tb s.heap
  mv : Mv w s0 s
  t1 : 156 ∈ X
  t2 : 224 ∈ X
  lt : ∀ a ∈ X, a < s.heap.objs.size
  low : 233 ≤ s0.heap.objs.size
  fz : ∀ p ∈ F, sat p.1 p.2 (hideAll s.heap X)
  ow : ∀ p ∈ O, (∃ o, s.heap.get? p.1 = some o ∧ p.2 o) ∧ s0.heap.objs.size ≤ p.1 ∧ p.1 ∈ X
  owD : O.Pairwise fun p q => p.1 ≠ q.1
section
variable {w : Wo} {env : Env} {X X' : List Addr} {F F' : List (D × Value)} {O O' : Own} {s0 s s' : Shared} {ρ : List (Str × D)} {prog : Program} {A : Around}
theorem In.sk (i : In w env X F O s0 ρ s) : Sk w X F O s0 s :=
  ⟨i.wd0, i.tb, i.mv, i.t1, i.t2, i.lt, i.low, i.fz, fun p hp => let ⟨a, _, b, c, _⟩ := i.ow p hp; ⟨a, b, c⟩, i.owD⟩
theorem Sk.base (k : Sk w X F O s0 s) : Base w s.heap := k.wd0.kp k.mv.kp
theorem Sk.rdy (k : Sk w X F O s0 s) : Rdy w X s := ⟨k.base, k.tb, k.t1, k.t2, k.lt, Nat.le_trans k.low k.mv.kp.size⟩
theorem Sk.shrink (k : Sk w X' F O s0 s) (h1 : 156 ∈ X) (h2 : 224 ∈ X) (hX : ∀ a ∈ X, a ∈ X') (hO : ∀ p ∈ O, p.1 ∈ X) : Sk w X F O s0 s :=
  { k with t1 := h1, t2 := h2, lt := fun a ha => k.lt a (hX a ha), fz := fun p hp => sat_mono (hide_sub hX) (k.fz p hp), ow := fun p hp => let ⟨a, b, _⟩ := k.ow p hp; ⟨a, b, hO p hp⟩ }
theorem Sk.weak (k : Sk w X F O s0 s) (hF : ∀ p ∈ F', p ∈ F) (hO : O'.Sublist O) : Sk w X F' O' s0 s :=
  { k with fz := fun p hp => k.fz p (hF p hp), ow := fun p hp => k.ow p (hO.subset hp), owD := k.owD.sublist hO }
theorem Sk.step (k : Sk w X F O s0 s) (m : Mv w s s') (t : Tb s'.heap) : Sk w X F O s0 s' :=
  { k with
    tb := t
    mv := k.mv.trans m
    lt := fun a ha => Nat.lt_of_lt_of_le (k.lt a ha) m.kp.size
    fz := fun p hp => sat_mono (hide_le k.t1 k.t2 m.kp) (k.fz p hp)
    ow := fun p hp => let ⟨⟨o, a, q⟩, b, c⟩ := k.ow p hp; ⟨⟨o, m.kp.keep _ _ (notTab_of_ge k.low b) a, q⟩, b, c⟩ }
theorem facts_of {h : Heap} {m : Str → Option Value} (hx : ∀ n d, ρ.lookup n = some d → env.kindOf n = some .local → ∃ v, m n = some v ∧ sat d v h) {P : Str → Value → Prop}
    (hc : ∀ n d, ρ.lookup n = some d → (env.kindOf n = some .cell ∨ env.kindOf n = some .free) → ∃ v, P n v ∧ sat d v h) : ∀ names : List Str, ∃ Fρ : List (D × Value), (∀ p ∈ Fρ, sat p.1 p.2 h) ∧
      (∀ n ∈ names, ∀ d, ρ.lookup n = some d → env.kindOf n = some .local → ∃ v, m n = some v ∧ (d, v) ∈ Fρ) ∧ (∀ n ∈ names, ∀ d, ρ.lookup n = some d → (env.kindOf n = some .cell ∨ env.kindOf n = some .free) → ∃ v, P n v ∧ (d, v) ∈ Fρ)
  | [] => ⟨[], fun _ h => (nomatch h), fun _ h => (nomatch h), fun _ h => (nomatch h)⟩
  | n :: names => by
    obtain ⟨Fρ, h1, h2, h3⟩ := facts_of hx hc names
    cases hd : ρ.lookup n with
    | none =>
      exact ⟨Fρ, h1, fun y hy d e k => by
        rcases List.mem_cons.mp hy with rfl | hy
        · rw [hd] at e; cases e
        · exact h2 y hy d e k, fun y hy d e k => by
        rcases List.mem_cons.mp hy with rfl | hy
        · rw [hd] at e; cases e
        · exact h3 y hy d e k⟩
    | some d =>
      by_cases kl : env.kindOf n = some .local
      · obtain ⟨v, a, b⟩ := hx n d hd kl
        refine ⟨(d, v) :: Fρ, fun p hp => by
          rcases List.mem_cons.mp hp with rfl | hp
          · exact b
          · exact h1 p hp, fun y hy d' e k => ?_, fun y hy d' e k => ?_⟩
        · rcases List.mem_cons.mp hy with rfl | hy
          · rw [hd] at e; cases e; exact ⟨v, a, .head _⟩
          · obtain ⟨v', a', b'⟩ := h2 y hy d' e k; exact ⟨v', a', .tail _ b'⟩
        · rcases List.mem_cons.mp hy with rfl | hy
          · rw [kl] at k; rcases k with k | k <;> cases k
          · obtain ⟨v', a', b'⟩ := h3 y hy d' e k; exact ⟨v', a', .tail _ b'⟩
      · by_cases kc : env.kindOf n = some .cell ∨ env.kindOf n = some .free
        · obtain ⟨v, a, b⟩ := hc n d hd kc
          refine ⟨(d, v) :: Fρ, fun p hp => by
            rcases List.mem_cons.mp hp with rfl | hp
            · exact b
            · exact h1 p hp, fun y hy d' e k => ?_, fun y hy d' e k => ?_⟩
          · rcases List.mem_cons.mp hy with rfl | hy
            · exact absurd k kl
            · obtain ⟨v', a', b'⟩ := h2 y hy d' e k; exact ⟨v', a', .tail _ b'⟩
          · rcases List.mem_cons.mp hy with rfl | hy
            · rw [hd] at e; cases e; exact ⟨v, a, .head _⟩
            · obtain ⟨v', a', b'⟩ := h3 y hy d' e k; exact ⟨v', a', .tail _ b'⟩
        · exact ⟨Fρ, h1, fun y hy d' e k => by
            rcases List.mem_cons.mp hy with rfl | hy
            · exact absurd k kl
            · exact h2 y hy d' e k, fun y hy d' e k => by
            rcases List.mem_cons.mp hy with rfl | hy
            · exact absurd k kc
            · exact h3 y hy d' e k⟩
theorem lookup_names {n : Str} {d : D} : ∀ {ρ : List (Str × D)}, ρ.lookup n = some d → n ∈ ρ.map (·.1) := fun h => List.mem_map.mpr ⟨(n, d), lookup_mem h, rfl⟩
/-- the frame is put by: its own objects stand as they are -/
theorem In.park (i : In w env X F O s0 ρ s) (hL : s0.heap.objs.size ≤ env.locals) (hc : ∀ x ∈ env.cells, s0.heap.objs.size ≤ x.2) (hnd : (env.cells.map (·.1)).Nodup) :
    ∃ Fρ Oe, Sk w X (Fρ ++ F) (Oe ++ O) s0 s ∧ ∀ F' O' s0' s', s0'.heap.objs.size = s0.heap.objs.size → Sk w X (Fρ ++ F') (Oe ++ O') s0' s' → In w env X F' O' s0' ρ s' := by
  obtain ⟨m, hm, hx⟩ := i.ns
  obtain ⟨Fρ, hF1, hF2, hF3⟩ := facts_of (P := fun n v => ∃ c, env.cells.lookup n = some c ∧ s.heap.IsCell c (some v)) hx (fun n d e k => let ⟨c, v, a, b, x⟩ := i.cl n d e k; ⟨v, ⟨c, a, b⟩, x⟩) (ρ.map (·.1))
  have lk : ∀ x ∈ env.cells, env.cells.lookup x.1 = some x.2 := fun x hx => lookup_of_mem_nodup hnd hx
  refine ⟨Fρ, (env.locals, fun o => s.heap.get? env.locals = some o) :: env.cells.map fun x => (x.2, fun o => s.heap.get? x.2 = some o), ?_, fun F' O' s0' s' hz k => ?_⟩
  · refine { i.sk with fz := fun p hp => ?_, ow := fun p hp => ?_, owD := ?_ }
    · rcases List.mem_append.mp hp with hp | hp
      · exact hF1 p hp
      · exact i.fz p hp
    · rcases List.mem_append.mp hp with hp | hp
      · rcases List.mem_cons.mp hp with rfl | hp
        · obtain ⟨o, es, ep, e, _⟩ := hm
          exact ⟨⟨o, e, e⟩, hL, i.locX⟩
        · obtain ⟨x, hx, rfl⟩ := List.mem_map.mp hp
          obtain ⟨v, o, e, _⟩ := i.isc x.1 x.2 (lk x hx)
          exact ⟨⟨o, e, e⟩, hc x hx, i.celX x.1 x.2 (lk x hx)⟩
      · exact i.sk.ow p hp
    · rw [List.pairwise_append, List.pairwise_cons]
      refine ⟨⟨fun q hq => ?_, List.pairwise_map.mpr ?_⟩, i.owD, fun p hp q hq => ?_⟩
      · obtain ⟨x, hx, rfl⟩ := List.mem_map.mp hq
        exact Ne.symm (i.locC x.1 x.2 (lk x hx))
      · refine List.Pairwise.imp_of_mem (fun {x y} hx hy hne e => hne ?_) (List.pairwise_map.mp hnd)
        exact i.celC _ _ _ (lk x hx) ((lk y hy).trans (congrArg some e.symm))
      · obtain ⟨_, hl, _, _, hcc⟩ := i.ow q hq
        rcases List.mem_cons.mp hp with rfl | hp
        · exact Ne.symm hl
        · obtain ⟨x, hx, rfl⟩ := List.mem_map.mp hp
          exact hcc x.1 x.2 (lk x hx)
  · have hD := k.owD
    rw [List.pairwise_append] at hD
    have same : ∀ x ∈ env.cells, ∀ v, s.heap.IsCell x.2 v → s'.heap.IsCell x.2 v := fun x hx v ⟨o, e, d⟩ => by
      obtain ⟨⟨o', e', q⟩, _⟩ := k.ow (x.2, fun o => s.heap.get? x.2 = some o) (List.mem_append_left _ (.tail _ (List.mem_map.mpr ⟨x, hx, rfl⟩)))
      have : o = o' := Option.some.inj (e.symm.trans q)
      subst this
      exact ⟨o, e', d⟩
    have ns' : s'.heap.Ns env.locals m := by
      obtain ⟨o, es, ep, e, r⟩ := hm
      obtain ⟨⟨o', e', q⟩, _⟩ := k.ow (env.locals, fun o => s.heap.get? env.locals = some o) (.head _)
      have : o = o' := Option.some.inj (e.symm.trans q)
      subst this
      exact ⟨o, es, ep, e', r⟩
    exact { i with
      wd0 := k.wd0, tb := k.tb, mv := k.mv, low := k.low
      locN := fun _ _ => by rw [hz]; exact hL
      celN := fun _ n c _ e => by rw [hz]; exact hc (n, c) (lookup_mem e)
      ns := ⟨m, ns', fun n d e kd => let ⟨v, a, b⟩ := hF2 n (lookup_names e) d e kd; ⟨v, a, k.fz _ (List.mem_append_left _ b)⟩⟩
      isc := fun n c e => let ⟨v, x⟩ := i.isc n c e; ⟨v, same (n, c) (lookup_mem e) v x⟩
      cl := fun n d e kd => let ⟨v, ⟨c, a, b⟩, x⟩ := hF3 n (lookup_names e) d e kd; ⟨c, v, a, same (n, c) (lookup_mem a) _ b, k.fz _ (List.mem_append_left _ x)⟩
      lt := k.lt
      fz := fun p hp => k.fz p (List.mem_append_right _ hp)
      ow := fun p hp => by
        obtain ⟨a, b, c⟩ := k.ow p (List.mem_append_right _ hp)
        exact ⟨a, Ne.symm (hD.2.2 _ (.head _) p hp), b, c, fun n c' e => hD.2.2 (c', fun o => s.heap.get? c' = some o) (.tail _ (List.mem_map.mpr ⟨(n, c'), lookup_mem e, rfl⟩)) p hp⟩
      owD := hD.2.1 }

/-- a call of a def of the top, from what is known without a frame -/
theorem enterSk {s : Shared} {f : Addr} {fd : FuncData} {body : List Stmt} {names : List Str} {vs : List Value} {ds : List D} {Q : Value → Shared → Prop} {k : Nat}
    (H : FnObj w f fd body) (R : Room A k) (r : Sk w X F O s0 s) (hv : sats ds vs (hideAll s.heap X)) (hb : Looks (model prog w.w) s.heap (bindArgs fd ⟨vs, []⟩) (names.zip vs)) (hlen : names.length = ds.length) (hkd : okKinds fd.scope names = true) (hnd : decide ((cellsFrom 0 fd.scope.names []).map (·.1)).Nodup = true)
    (h : ∀ L s', In w (envAt fd L f) (frameX (envAt fd L f) X) F O s0 (rho names ds []) s' → s0.heap.objs.size ≤ L →
      wpAny (model prog w.w) (A.deeper (envAt fd L f)) (execs body (envAt fd L f)) (fun fl s'' => Q (match fl with | .ret v => v | _ => .none) s'') NoE s') :
    wpAny (model prog w.w) A (call (.ref f) vs) Q NoE s := by
  refine enter H R r.rdy hv hb hlen hkd hnd fun L s' i m => ?_
  refine h L s' ?_ (Nat.le_trans r.mv.kp.size (i.locN rfl rfl))
  have hsz := r.mv.kp.size
  have loc : s.heap.objs.size ≤ L := i.locN rfl rfl
  have celG : ∀ n c, (envAt fd L f).cells.lookup n = some c → s.heap.objs.size ≤ c := fun n c e => by
    have h1 : L + 1 ≤ c := by
      have key : ∀ (names : List (Str × NameKind)) (n : Nat) (acc : List (Str × Addr)), (∀ x ∈ acc, L + 1 ≤ x.2) → L + 1 ≤ n → ∀ x ∈ cellsFrom n names acc, L + 1 ≤ x.2 := by
        intro names
        induction names with
        | nil => intro n acc ha hn x hx; exact ha x hx
        | cons y r ih =>
          obtain ⟨y, kd⟩ := y
          intro n acc ha hn x hx
          unfold cellsFrom at hx
          split at hx
          · exact ih (n + 1) _ (fun z hz => by
              rcases List.mem_cons.mp hz with rfl | hz
              · exact hn
              · exact ha z hz) (Nat.le_succ_of_le hn) x hx
          · exact ih n acc ha hn x hx
      exact key fd.scope.names (L + 1) [] (by intro x hx; cases hx) (Nat.le_refl _) (n, c) (lookup_mem e)
    exact Nat.le_trans loc (Nat.le_of_succ_le h1)
  have up : Le (hideAll s.heap X) (hideAll s'.heap (frameX (envAt fd L f) X)) := hide_up r.t1 r.t2 m.kp fun a ha => by
    rcases List.mem_cons.mp ha with q | ha
    · exact .inr (q ▸ loc)
    · rcases List.mem_append.mp ha with ha | ha
      · obtain ⟨x, hx, rfl⟩ := List.mem_map.mp ha
        have hnd' : ((envAt fd L f).cells.map (·.1)).Nodup := cellsFrom_names fd.scope.names 0 (L + 1) [] [] rfl ▸ of_decide_eq_true hnd
        exact .inr (celG x.1 x.2 (lookup_of_mem_nodup hnd' hx))
      · exact .inl ha
  have st := r.step m i.tb
  exact { i with
    wd0 := r.wd0
    mv := r.mv.trans m
    locN := fun _ _ => Nat.le_trans hsz loc
    celN := fun _ n c _ e => Nat.le_trans hsz (celG n c e)
    low := r.low
    fz := fun p hp => sat_mono up (r.fz p hp)
    ow := fun p hp => by
      obtain ⟨a, b, c⟩ := st.ow p hp
      have lt : p.1 < s.heap.objs.size := r.lt _ c
      exact ⟨a, Nat.ne_of_lt (Nat.lt_of_lt_of_le lt loc), b, .tail _ (List.mem_append_right _ c), fun n c' e => Nat.ne_of_gt (Nat.lt_of_lt_of_le lt (celG n c' e))⟩
    owD := r.owD }
end
end Mine

-- S3
namespace Mine
/-- the cells of a closure: name, address, what is known, value -/
structure Cc where
  n : Str
  c : Addr
  d : D
  v : Value
noncomputable abbrev cellV (v : Value) (o : Obj) : Prop := o.data = .cell (some v)
noncomputable abbrev cloOf (cc : List Cc) : List (Str × Addr) := cc.map fun x => (x.n, x.c)
noncomputable abbrev ccOwn (cc : List Cc) : Own := cc.map fun x => (x.c, cellV x.v)
noncomputable abbrev ccRho (cc : List Cc) : List (Str × D) := cc.map fun x => (x.n, x.d)
noncomputable abbrev cloEnv (fd : FuncData) (cc : List Cc) (L f : Addr) : Env := newEnv fd.scope L 3 (cloOf cc) (fd.qualname ++ ".<locals>.") (some f) fd.code none 0
theorem rho_rev {loc : Str → Bool} {h : Heap} : ∀ (ns : List Str) (ds : List D) (vs : List Value) (acc : List (Str × D)) (accv : List (Str × Value)), sats ds vs h → ns.length = ds.length →
    (∀ n d, acc.lookup n = some d → loc n = true → ∃ v, accv.lookup n = some v ∧ sat d v h) →
    ∀ n d, (rho ns ds acc).lookup n = some d → loc n = true → ∃ v, ((ns.zip vs).reverse ++ accv).lookup n = some v ∧ sat d v h
  | [], [], vs, acc, accv, x, _, H, n, d, e, k => by
    unfold sats at x; subst x; exact H n d e k
  | n0 :: ns, d0 :: ds, vs, acc, accv, x, hl, H, n, d, e, k => by
    unfold sats at x
    obtain ⟨v, r, rfl, hv, hr⟩ := x
    have := rho_rev ns ds r ((n0, d0) :: acc) ((n0, v) :: accv) hr (by simpa using hl) (fun y d' e' k' => by
      rcases lookup_cons_of e' with ⟨rfl, rfl⟩ | ⟨hy, e'⟩
      · exact ⟨v, by simp, hv⟩
      · obtain ⟨u, a, b⟩ := H y d' e' k'
        exact ⟨u, by rw [List.lookup_cons, show (y == n0) = false by simpa using hy]; exact a, b⟩) n d e k
    simpa using this
  | [], _ :: _, _, _, _, _, hl, _, _, _, _, _ => by cases hl
  | _ :: _, [], _, _, _, _, hl, _, _, _, _, _ => by cases hl
section
variable {w : Wo} {X : List Addr} {F : List (D × Value)} {O : Own} {s0 s : Shared} {prog : Program} {A : Around}
theorem clo_nodup {cc : List Cc} (h : (cc.map (·.n)).Nodup) : ((cloOf cc).map (·.1)).Nodup := by
  rw [List.map_map]; exact h
theorem cc_get {cc : List Cc} {n : Str} {c : Addr} (h : (cloOf cc).lookup n = some c) : ∃ x ∈ cc, x.n = n ∧ x.c = c := by
  obtain ⟨x, hx, e⟩ := List.mem_map.mp (lookup_mem h)
  exact ⟨x, hx, congrArg Prod.fst e, congrArg Prod.snd e⟩
theorem enterClo {f : Addr} {fd : FuncData} {body : List Stmt} {names : List Str} {vs : List Value} {ds : List D} {Q : Value → Shared → Prop} {k : Nat} {cc : List Cc}
    (obj : s.heap.get? f = some { cls := .type "function", data := .func fd }) (hbody : fd.body = .stmts body) (hclo : fd.closure = cloOf cc) (glob : fd.globals = 3) (bi : fd.builtins = 0) (kind : fd.scope.kind = .function) (co : fd.scope.isCoroutine = false) (gen : fd.scope.isGenerator = false)
    (hcd : s.heap.CodeRec fd.code fd.qualname) (R : Room A k) (r : Sk w X F (ccOwn cc ++ O) s0 s) (hf : ∀ x ∈ cc, sat x.d x.v (hideAll s.heap X)) (hnd : (cc.map (·.n)).Nodup) (hv : sats ds vs (hideAll s.heap X))
    (hb : Looks (model prog w.w) s.heap (bindArgs fd ⟨vs, []⟩) (names.zip vs)) (hlen : names.length = ds.length) (hloc : ∀ n ∈ names, fd.scope.names.lookup n = some .local) (hnc : ∀ x ∈ fd.scope.names, x.2 ≠ .cell) (hfree : ∀ x ∈ cc, fd.scope.names.lookup x.n = some .free)
    (h : ∀ L s', In w (cloEnv fd cc L f) (L :: X) F O s0 (rho names ds (ccRho cc)) s' → s0.heap.objs.size ≤ L →
      wpAny (model prog w.w) (A.deeper (cloEnv fd cc L f)) (execs body (cloEnv fd cc L f)) (fun fl s'' => Q (match fl with | .ret v => v | _ => .none) s'') NoE s') :
    wpAny (model prog w.w) A (call (.ref f) vs) Q NoE s := by
  refine wpAny_call ?_
  refine codeAny_call_function (Nat.lt_of_le_of_lt (Nat.le_trans (Nat.le_add_right _ k) R.dep) (by decide)) obj rfl co gen hbody hcd ?_
  refine hb.here ?_
  rw [hclo, glob, bi]
  refine wpAny_newFunctionEnv hnc (fun x hx => hloc _ (List.of_mem_zip hx).1) (fun h' hn hs => ?_) kind
  have keep : Le s.heap h' := fun b o e => hs.extBut b o (Nat.ne_of_lt (Heap.lt_size e)) (Heap.get?_push_of_some _ e)
  have hz : h'.objs.size = s.heap.objs.size + 1 := by rw [hs.1, Heap.size_push]
  have mv : Mv w s { s with heap := h', toks := s.toks + (names.zip vs).length } := .heap s h' _ keep (by omega)
  have st := r.step mv (r.tb.le keep)
  have hsz := r.mv.kp.size
  have up : Le (hideAll s.heap X) (hideAll h' (s.heap.objs.size :: X)) := hide_up r.t1 r.t2 mv.kp fun a ha => by
    rcases List.mem_cons.mp ha with q | ha
    · exact .inr (Nat.le_of_eq q.symm)
    · exact .inl ha
  have hD := r.owD
  rw [List.pairwise_append] at hD
  have ccm : ∀ x ∈ cc, (x.c, cellV x.v) ∈ ccOwn cc ++ O := fun x hx => List.mem_append_left _ (List.mem_map.mpr ⟨x, hx, rfl⟩)
  refine ⟨(r.base.lim.keeps keep), codeAny_func ?_⟩
  refine wpAny_mono (h s.heap.objs.size _ ?_ hsz) (fun _ _ q => q) fun _ _ e => e.elim
  refine { wd0 := r.wd0, tb := st.tb, mv := st.mv, kind := kind, glob := rfl, bi := rfl, ns := ⟨_, hn, fun n d e kd => ?_⟩, isc := fun n c e => ?_, cl := fun n d e kd => ?_, locX := .head _, celX := fun n c e => ?_, celT := fun n c e => ?_, locN := fun _ _ => hsz, locT := notTab_of_ge r.low hsz,
           celN := fun _ n c kd _ => absurd rfl (hnc _ (lookup_mem kd)), locC := fun n c e => ?_, celC := fun n n' c e e' => ?_, t1 := .tail _ r.t1, t2 := .tail _ r.t2, lt := fun a ha => ?_, low := r.low, fz := fun p hp => sat_mono up (r.fz p hp), ow := fun p hp => ?_, owD := hD.2.1 }
  · have := rho_rev (loc := fun n => fd.scope.names.lookup n == some .local) names ds vs (ccRho cc) [] (sats_mono up hv) hlen (fun n d e k => by
      obtain ⟨x, hx, ex⟩ := List.mem_map.mp (lookup_mem e)
      have e1 : x.n = n := congrArg Prod.fst ex
      rw [← e1, hfree x hx] at k
      exact absurd k (by simp)) n d e (by have h1 : fd.scope.names.lookup n = some .local := kd; simpa using h1)
    simpa using this
  · obtain ⟨x, hx, rfl, rfl⟩ := cc_get e
    obtain ⟨⟨o, a, b⟩, _⟩ := st.ow _ (ccm x hx)
    exact ⟨_, o, a, b⟩
  · have hr : List.lookup n (ccRho cc) = some d := by
      have key : ∀ (ns : List Str) (ds : List D) (acc : List (Str × D)), (∀ y ∈ ns, fd.scope.names.lookup y = some .local) → (rho ns ds acc).lookup n = some d → acc.lookup n = some d := by
        intro ns
        induction ns with
        | nil => intro ds acc _ e; cases ds <;> exact e
        | cons y ns ih =>
          intro ds acc hl e
          cases ds with
          | nil => exact e
          | cons d0 ds =>
            rcases lookup_cons_of (ih ds _ (fun z hz => hl z (.tail _ hz)) e) with ⟨rfl, _⟩ | ⟨_, q⟩
            · have h1 : (cloEnv fd cc s.heap.objs.size f).kindOf n = some .local := hl n (.head _)
              rcases kd with kd | kd <;> rw [h1] at kd <;> cases kd
            · exact q
      exact key names ds _ hloc e
    obtain ⟨x, hx, ex⟩ := List.mem_map.mp (lookup_mem hr)
    obtain ⟨rfl, rfl⟩ := Prod.mk.inj ex
    obtain ⟨⟨o, a, b⟩, _⟩ := st.ow _ (ccm x hx)
    exact ⟨x.c, x.v, lookup_of_mem_nodup (clo_nodup hnd) (List.mem_map.mpr ⟨x, hx, rfl⟩), ⟨o, a, b⟩, sat_mono up (hf x hx)⟩
  · obtain ⟨x, hx, rfl, rfl⟩ := cc_get e
    exact .tail _ (r.ow _ (ccm x hx)).2.2
  · obtain ⟨x, hx, rfl, rfl⟩ := cc_get e
    exact notTab_of_ge r.low (r.ow _ (ccm x hx)).2.1
  · obtain ⟨x, hx, rfl, rfl⟩ := cc_get e
    exact Nat.ne_of_lt (r.lt _ (r.ow _ (ccm x hx)).2.2)
  · obtain ⟨x, hx, rfl, e1⟩ := cc_get e
    obtain ⟨y, hy, rfl, e2⟩ := cc_get e'
    by_cases q : x.n = y.n
    · exact q
    · exfalso
      have hp := hD.1
      have : ∀ (l : List Cc), x ∈ l → y ∈ l → (ccOwn l).Pairwise (fun p q => p.1 ≠ q.1) → False := by
        intro l
        induction l with
        | nil => intro h; cases h
        | cons z l ih =>
          intro h1 h2 hp
          have hp := List.pairwise_cons.mp hp
          rcases List.mem_cons.mp h1 with q1 | q1
          · rcases List.mem_cons.mp h2 with q2 | q2
            · exact q (by rw [q1, q2])
            · exact hp.1 (y.c, cellV y.v) (List.mem_map.mpr ⟨y, q2, rfl⟩) (by show z.c = y.c; rw [← q1]; exact e1.trans e2.symm)
          · rcases List.mem_cons.mp h2 with q2 | q2
            · exact hp.1 (x.c, cellV x.v) (List.mem_map.mpr ⟨x, q1, rfl⟩) (by show z.c = x.c; rw [← q2]; exact e2.trans e1.symm)
            · exact ih q1 q2 hp.2
      exact this cc hx hy hp
  · show a < h'.objs.size
    rw [hz]
    rcases List.mem_cons.mp ha with q | ha
    · rw [q]; exact Nat.lt_succ_self _
    · exact Nat.lt_succ_of_lt (r.lt a ha)
  · obtain ⟨a, b, c⟩ := st.ow p (List.mem_append_right _ hp)
    refine ⟨a, Nat.ne_of_lt (r.lt _ c), b, .tail _ c, fun n c' e => ?_⟩
    obtain ⟨x, hx, rfl, rfl⟩ := cc_get e
    exact hD.2.2 _ (List.mem_map.mpr ⟨x, hx, rfl⟩) p hp
theorem leaveClo {fd : FuncData} {cc : List Cc} {L f : Addr} {O' : Own} {ρ : List (Str × D)} {s'' : Shared} (i : In w (cloEnv fd cc L f) (L :: X) F O' s0 ρ s'') (r : Sk w X F (ccOwn cc ++ O) s0 s) (hnd : (cc.map (·.n)).Nodup) (hfree : ∀ x ∈ cc, fd.scope.names.lookup x.n = some .free) (hρ : ∀ x ∈ cc, Has ρ x.n x.d) (hfix : ∀ x ∈ cc, ∀ u h, sat x.d u h → u = x.v) :
    Sk w X F (ccOwn cc ++ O') s0 s'' := by
  have hD := r.owD
  rw [List.pairwise_append] at hD
  have ccm : ∀ x ∈ cc, (x.c, cellV x.v) ∈ ccOwn cc ++ O := fun x hx => List.mem_append_left _ (List.mem_map.mpr ⟨x, hx, rfl⟩)
  have lk : ∀ x ∈ cc, (cloOf cc).lookup x.n = some x.c := fun x hx => lookup_of_mem_nodup (clo_nodup hnd) (List.mem_map.mpr ⟨x, hx, rfl⟩)
  refine { i.sk with t1 := r.t1, t2 := r.t2, lt := fun a ha => i.lt a (.tail _ ha), fz := fun p hp => sat_mono hide_drop (i.fz p hp), ow := fun p hp => ?_, owD := List.pairwise_append.mpr ⟨hD.1, i.owD, fun p hp q hq => ?_⟩ }
  · rcases List.mem_append.mp hp with hp | hp
    · obtain ⟨x, hx, rfl⟩ := List.mem_map.mp hp
      obtain ⟨_, b, c⟩ := r.ow _ (ccm x hx)
      obtain ⟨c', v', e1, ⟨o, a, hd⟩, hs⟩ := i.cl x.n _ (hρ x hx) (.inr (hfree x hx))
      have e2 : x.c = c' := Option.some.inj ((lk x hx).symm.trans e1)
      have e3 := hfix x hx _ _ hs
      subst e3
      subst e2
      exact ⟨⟨o, a, hd⟩, b, c⟩
    · obtain ⟨a, hl, b, c, _⟩ := i.ow p hp
      refine ⟨a, b, ?_⟩
      rcases List.mem_cons.mp c with q | c
      · exact absurd q hl
      · exact c
  · obtain ⟨x, hx, rfl⟩ := List.mem_map.mp hp
    obtain ⟨_, _, _, _, hc⟩ := i.ow q hq
    exact hc x.n x.c (lk x hx)
theorem fix_val {v u : Value} {h : Heap} (x : sat (.val v) u h) : u = v := of_val x
theorem fix_is {d : D} {v u : Value} {h : Heap} (x : sat (.is d v) u h) : u = v := by unfold sat at x; exact x.1
theorem sat_is {d : D} {v : Value} {h : Heap} (x : sat d v h) : sat (.is d v) v h := by unfold sat; exact ⟨rfl, x⟩
theorem Ev.unis {C : Cx} {ρ : List (Str × D)} {e : Expr} {d : D} {v : Value} (h : Ev C ρ e (.is d v)) : Ev C ρ e d := fun s x => wp_mono (h s x) fun u s' q => ⟨by have := q.v; unfold sat at this; exact this.2, q.i, q.m⟩
end
end Mine

-- S4
namespace Mine
/-- s0' is s0 but for the table of code of _law_split -/
structure Tb24 (s0 s0' : Shared) (ps : Array Value) : Prop where
  size : s0'.heap.objs.size = s0.heap.objs.size
  all : ∀ b o, b ≠ 224 → s0.heap.get? b = some o → s0'.heap.get? b = some o
  os : s0'.os = s0.os
  gens : s0'.gens = s0.gens
  drawn : s0'.drawn = s0.drawn
  tab : s0'.heap.get? 224 = some (tabObj ps)
  ok : TriplesOk ps.toList
noncomputable def tabS (s0 : Shared) (ps : Array Value) : Shared := { s0 with heap := s0.heap.update 224 fun _ => tabObj ps }
theorem tabS_ok {s0 : Shared} {o : Obj} {ps : Array Value} (h : s0.heap.get? 224 = some o) (ok : TriplesOk ps.toList) : Tb24 s0 (tabS s0 ps) ps :=
  ⟨Heap.size_after_update .., fun b o hb e => (Heap.SameBut.update ..).extBut b o hb e, rfl, rfl, rfl, Heap.get?_update_self (fun _ => tabObj ps) h rfl, ok⟩
theorem Tb24.trans {a b c : Shared} {ps qs : Array Value} (x : Tb24 a b ps) (y : Tb24 b c qs) : Tb24 a c qs :=
  ⟨y.size.trans x.size, fun k o hk e => y.all k o hk (x.all k o hk e), y.os.trans x.os, y.gens.trans x.gens, y.drawn.trans x.drawn, y.tab, y.ok⟩
theorem K0_no24 (w : World) : ∀ a o, (K0 w).lookup a = some o → a ≠ 224 := fun a o e q => by
  rw [q] at e
  have : (K0 w).lookup 224 = none := by kernel_rfl
  rw [this] at e; cases e
theorem Base.no24 {w : Wo} {h h' : Heap} (B : Base w h) (k : ∀ b o, b ≠ 224 → h.get? b = some o → h'.get? b = some o) : Base w h' where
  inK := fun a o e => k a o (K0_no24 w.w a o e) (B.inK a o e)
  lim := let ⟨mc, ⟨o, es, ep, e, r⟩, x⟩ := B.lim; ⟨mc, ⟨o, es, ep, k _ _ (by decide) e, r⟩, x⟩
  blt := let ⟨mb, ⟨o, es, ep, e, r⟩, x⟩ := B.blt; ⟨mb, ⟨o, es, ep, k _ _ (by decide) e, r⟩, x⟩
  bm := let ⟨o, e, r⟩ := B.bm; ⟨o, k _ _ (by decide) e, r⟩
theorem Mv.tab24 {w : Wo} {s0 s0' s : Shared} {ps : Array Value} {h' : Heap} {t : Nat} (m : Mv w s0 s) (x : Tb24 s0 s0' ps) (hx : Heap.ExtBut 224 s.heap h') (hz : s.heap.objs.size ≤ h'.objs.size) (hP : h'.get? 224 = some (tabObj ps))
    (back : ∀ b o, b ≠ 224 → s0'.heap.get? b = some o → s0.heap.get? b = some o) : Mv w s0' { s with heap := h', toks := t } :=
  ⟨⟨fun b o n e => by
    by_cases q : b = 224
    · subst q
      rw [x.tab] at e
      cases e
      exact hP
    · exact hx b o q (m.kp.all b o n (back b o q e)), by rw [x.size]; exact Nat.le_trans m.kp.size hz⟩, m.os.trans x.os.symm, fun h => m.gens (x.gens ▸ h), fun e => ⟨(m.gen0 e).1.trans x.gens.symm, (m.gen0 e).2.trans x.drawn.symm⟩⟩
theorem tabS_back {s0 : Shared} {ps : Array Value} : ∀ b o, b ≠ 224 → (tabS s0 ps).heap.get? b = some o → s0.heap.get? b = some o := fun b o hb e => by
  have := (Heap.SameBut.update (h := s0.heap) (a := 224) (f := fun _ => tabObj ps)).2 b hb
  exact this.symm.trans e
section
variable {w : Wo} {env : Env} {X : List Addr} {F : List (D × Value)} {O : Own} {s0 s : Shared} {ρ : List (Str × D)}
theorem In.tab24 {ps : Array Value} {h' : Heap} {t : Nat} {o24 : Obj} (i : In w env X F O s0 ρ s) (hL : s0.heap.objs.size ≤ env.locals) (hc : ∀ n c, env.cells.lookup n = some c → s0.heap.objs.size ≤ c) (h0 : s0.heap.get? 224 = some o24) (hx : Heap.ExtBut 224 s.heap h') (hz : s.heap.objs.size ≤ h'.objs.size)
    (hP : h'.get? 224 = some (tabObj ps)) (ok : TriplesOk ps.toList) : In w env X F O (tabS s0 ps) ρ { s with heap := h', toks := t } := by
  have x := tabS_ok h0 ok
  have n24 : ∀ a : Nat, s0.heap.objs.size ≤ a → a ≠ 224 := fun a ha q => by have := i.low; omega
  have le : Le (hideAll s.heap X) (hideAll h' X) := fun b o e => by
    have hb : b ∉ X := fun hm => by rw [hideAll_none X hm] at e; cases e
    exact hideAll_get X (hx b o (fun q => hb (q ▸ i.t2)) (of_hideAll X e)) hb
  exact { i with
    wd0 := i.wd0.no24 x.all
    tb := by
      obtain ⟨ps1, ⟨⟨oc, vc, a1, a2, a3, a4⟩, b1⟩, c1⟩ := i.tb.t1
      obtain ⟨ps2, t2, c2⟩ := i.tb.t2
      have hd := CodeHd.of c2 t2
      have hd' : CodeHd h' 226 224 := let ⟨o, vs, file, tf, flags, tg, inF, text, tt, e, r⟩ := hd; ⟨o, vs, file, tf, flags, tg, inF, text, tt, hx _ _ (by decide) e, r⟩
      exact ⟨⟨ps1, ⟨⟨oc, vc, hx _ _ (by decide) a1, a2, a3, a4⟩, hx _ _ (by decide) b1⟩, c1.extBut hx (by decide) (by decide)⟩, ⟨ps, hd'.tab hP, hd'.code hP ok⟩⟩
    mv := i.mv.tab24 x hx hz hP tabS_back
    ns := let ⟨m, ⟨o, es, ep, e, r⟩, y⟩ := i.ns; ⟨m, ⟨o, es, ep, hx _ _ (n24 _ hL) e, r⟩, fun n d e k => let ⟨v, a, b⟩ := y n d e k; ⟨v, a, sat_mono le b⟩⟩
    isc := fun n c e => let ⟨v, o, a, b⟩ := i.isc n c e; ⟨v, o, hx _ _ (n24 _ (hc n c e)) a, b⟩
    cl := fun n d e k => let ⟨c, v, a, ⟨o, b, b'⟩, y⟩ := i.cl n d e k; ⟨c, v, a, ⟨o, hx _ _ (n24 _ (hc n c a)) b, b'⟩, sat_mono le y⟩
    locN := fun a b => by rw [x.size]; exact i.locN a b
    celN := fun a n c b e => by rw [x.size]; exact i.celN a n c b e
    lt := fun a ha => Nat.lt_of_lt_of_le (i.lt a ha) hz
    low := by rw [x.size]; exact i.low
    fz := fun p hp => sat_mono le (i.fz p hp)
    ow := fun p hp => let ⟨⟨o, a, q⟩, b, c, d⟩ := i.ow p hp; ⟨⟨o, hx _ _ (n24 _ c) a, q⟩, b, by rw [x.size]; exact c, d⟩ }
end
noncomputable abbrev codeQ (q : Str) (o : Obj) : Prop := ∃ vs t, o.data = .fields vs ∧ vs[1]? = some (.str q t)
noncomputable abbrev fnIs (fd : FuncData) (o : Obj) : Prop := o = { cls := .type "function", data := .func fd }
theorem codeRec_of_sat {q : Str} {cv : Value} {h : Heap} {X : List Addr} (x : sat (.obj (codeQ q)) cv (hideAll h X)) : h.CodeRec cv q := by
  unfold sat at x
  obtain ⟨a, o, rfl, ho, vs, t, e1, e2⟩ := x
  exact ⟨a, o, vs, t, rfl, of_hideAll X ho, e1, e2⟩
theorem fn_of_sat {fd : FuncData} {f : Addr} {h : Heap} {X : List Addr} (x : sat (.obj (fnIs fd)) (.ref f) (hideAll h X)) : h.get? f = some { cls := .type "function", data := .func fd } := by
  unfold sat at x
  obtain ⟨a, o, e, ho, rfl⟩ := x
  cases e
  exact of_hideAll X ho
section
variable {C : Cx} {ρ : List (Str × D)}
/-- a def within _law_split -/
theorem Bk.def_ {name qual : Str} {params : Arguments} {body : List Stmt} {scope : Scope} {pos : Pos} {rest : List Stmt} {Q : Flow → Shared → Prop} {ps : Array Value} {clos : List (Str × Addr)} (hcode : C.env.code = .ref 226) (hL : C.s0.heap.objs.size ≤ C.env.locals) (hc : ∀ n c, C.env.cells.lookup n = some c → C.s0.heap.objs.size ≤ c)
    (h0 : C.s0.heap.get? 224 = some (tabObj ps)) (ok : TriplesOk ps.toList) (hd0 : params.defaults = []) (hk0 : params.kw_defaults = []) (ha : annTrees params none C.env = []) (hq : qualnameIn C.env name name = qual) (hcl : closureFor scope C.env = pure clos) (hst : canStore C.w.t C.env name = true)
    (hK : codeAmong pos ps.toList = none ∨ ∃ cv, codeAmong pos ps.toList = some cv ∧ (D.obj (codeQ qual), cv) ∈ C.F)
    (hr : ∀ f cv doc pm ctv ps', (codeAmong pos ps.toList = none → ps' = ps ++ #[rawInt pos.line, rawInt pos.col, cv]) → (∀ cv', codeAmong pos ps.toList = some cv' → ps' = ps ∧ cv = cv') → TriplesOk ps'.toList → codeAmong pos ps'.toList = some cv →
      Bk { C with s0 := tabS C.s0 ps', F := (.obj (fnIs (fnX name qual params body scope clos .none .none doc pm none cv ctv)), .ref f) :: (.obj (codeQ qual), cv) :: C.F } ((name, .val (.ref f)) :: ρ) rest Q) :
    Bk C ρ (.FunctionDef name params body [] none [] scope none name pos :: rest) Q := fun s i => by
  refine wpAny_execs_cons (nestDef_K hd0 hk0 ha ?_)
  rw [hq]
  have hP : s.heap.get? 224 = some (tabObj ps) := i.mv.kp.keep _ _ (by rfl) h0
  have hd := let ⟨_, t2, c2⟩ := i.tb.t2; CodeHd.of c2 t2
  obtain ⟨ob, hbo, hcls, hdict, hdata⟩ := i.base.bm
  have hg := glob_ns i.base
  have hb : s.heap.BuiltinsAt (nsFind (gEs C.w)) 224 := ⟨4, ob, by kernel_rfl, by decide, by decide, by decide, hbo, hcls, hdict, hdata⟩
  have fin : ∀ (cv doc pm ctv : Value) (h' : Heap) (tk : Nat) (ps' : Array Value), Heap.ExtBut 224 s.heap h' → s.heap.objs.size ≤ h'.objs.size → h'.get? 224 = some (tabObj ps') → TriplesOk ps'.toList → sat (.obj (codeQ qual)) cv (hideAll h' C.X) →
      Bk { C with s0 := tabS C.s0 ps', F := (.obj (fnIs (fnX name qual params body scope clos .none .none doc pm none cv ctv)), .ref h'.objs.size) :: (.obj (codeQ qual), cv) :: C.F } ((name, .val (.ref h'.objs.size)) :: ρ) rest Q →
      wpAny C.M C.A (storeName C.env name (.ref h'.objs.size)) (fun _ s'' => wpAny C.M C.A (execs rest C.env) Q NoE s'') NoE { s with heap := h'.push { cls := .type "function", data := .func (fnX name qual params body scope clos .none .none doc pm none cv ctv) }, toks := tk } :=
    fun cv doc pm ctv h' tk ps' hx hz hP' ok' hcv hr => by
      have i1 := In.tab24 (t := tk) i hL hc h0 hx hz hP' ok'
      have i2 := (i1.fact hcv).push { cls := .type "function", data := .func (fnX name qual params body scope clos .none .none doc pm none cv ctv) }
      have hfar : h'.objs.size ∉ C.X := fun hm => Nat.lt_irrefl _ (Nat.lt_of_lt_of_le (i.lt _ hm) hz)
      have i3 := i2.fact (d := .obj (fnIs (fnX name qual params body scope clos .none .none doc pm none cv ctv))) (v := .ref h'.objs.size) (by
        unfold sat
        exact ⟨_, _, rfl, hideAll_get _ (Heap.get?_push_size _ rfl) hfar, rfl⟩)
      exact store_var i3 hst sat_val fun s' j => hr s' j
  rcases hK with hnf | ⟨cv, hcv, hm⟩
  · refine makeFunction_K hcl i.glob hg hcode hd hP ok hnf (by decide) hb fun c' ctv doc h' tk hx hge hlt hrec htab => ?_
    have hok' : TriplesOk (ps ++ #[rawInt pos.line, rawInt pos.col, .ref c']).toList := by
      rw [show (ps ++ #[rawInt pos.line, rawInt pos.col, Value.ref c']).toList = ps.toList ++ [rawInt pos.line, rawInt pos.col, .ref c'] by simp]
      exact TriplesOk_snoc _ _ _ _ ok
    refine fin _ doc _ ctv h' tk _ hx (Nat.le_trans hge (Nat.le_of_lt hlt)) htab hok' ?_ (hr _ _ _ _ _ _ (fun _ => rfl) (fun cv' e => by rw [hnf] at e; cases e) hok' ?_)
    · obtain ⟨c2, o, vs, t, e, ho, h1, h2⟩ := hrec
      cases e
      unfold sat
      exact ⟨_, o, rfl, hideAll_get _ ho fun hm => Nat.lt_irrefl _ (Nat.lt_of_lt_of_le (i.lt _ hm) hge), vs, t, h1, h2⟩
    · rw [show (ps ++ #[rawInt pos.line, rawInt pos.col, Value.ref c']).toList = ps.toList ++ [rawInt pos.line, rawInt pos.col, .ref c'] by simp]
      exact codeAmong_snoc _ ok hnf
  · refine makeFunction_hit hcl i.glob hg hcode hd hP ok hcv hb fun ctv doc h' tk hk hz => ?_
    have le : Le (hideAll s.heap C.X) (hideAll h' C.X) := fun b o e => by
      have hb : b ∉ C.X := fun hm => by rw [hideAll_none _ hm] at e; cases e
      exact hideAll_get _ (hk b o (of_hideAll _ e)) hb
    exact fin cv doc _ ctv h' tk ps (fun b o _ e => hk b o e) hz (hk _ _ hP) ok (sat_mono le (i.fz _ hm)) (hr _ _ _ _ _ _ (fun e => by rw [hcv] at e; cases e) (fun cv' e => ⟨rfl, Option.some.inj (hcv.symm.trans e)⟩) ok hcv)
end
end Mine

-- S5
namespace Mine
theorem pw_perm {O O' : Own} (p : O.Perm O') (h : O.Pairwise fun p q => p.1 ≠ q.1) : O'.Pairwise fun p q => p.1 ≠ q.1 := (List.Perm.pairwise_iff (fun {x y} h => Ne.symm h) p).mp h
section
variable {w : Wo} {env : Env} {X : List Addr} {F F' : List (D × Value)} {O O' : Own} {s0 s : Shared} {ρ : List (Str × D)}
theorem In.perm (i : In w env X F O s0 ρ s) (p : O.Perm O') : In w env X F O' s0 ρ s := { i with ow := fun q hq => i.ow q (p.mem_iff.mpr hq), owD := pw_perm p i.owD }
theorem Sk.perm (i : Sk w X F O s0 s) (p : O.Perm O') : Sk w X F O' s0 s := { i with ow := fun q hq => i.ow q (p.mem_iff.mpr hq), owD := pw_perm p i.owD }
theorem In.facts (i : In w env X F O s0 ρ s) (h : ∀ p ∈ F', p ∈ F) : In w env X F' O s0 ρ s := { i with fz := fun p hp => i.fz p (h p hp) }
theorem Sk.facts (i : Sk w X F O s0 s) (h : ∀ p ∈ F', p ∈ F) : Sk w X F' O s0 s := { i with fz := fun p hp => i.fz p (h p hp) }
end
/-- a call that turns own objects, told without a frame -/
noncomputable def Clo (w : Wo) (prog : Program) (k : Nat) (f : Value) (Fs : List (D × Value)) (Os Os' : Own) (ds : List D) (d : D) : Prop :=
  ∀ A X F O s0 s vs, Room A k → Sk w X (Fs ++ F) (Os ++ O) s0 s → sats ds vs (hideAll s.heap X) → wpAny (model prog w.w) A (call f vs) (fun v s' => sat d v (hideAll s'.heap X) ∧ Sk w X (Fs ++ F) (Os' ++ O) s0 s') NoE s
/-- what park asks of a frame -/
structure Parks (env : Env) (s0 : Shared) : Prop where
  loc : s0.heap.objs.size ≤ env.locals
  cel : ∀ x ∈ env.cells, s0.heap.objs.size ≤ x.2
  nd : (env.cells.map (·.1)).Nodup
section
variable {C : Cx} {ρ : List (Str × D)}
theorem callClo {k : Nat} {f : Value} {Fs : List (D × Value)} {Os Os' O : Own} {ds : List D} {d : D} {vs : List Value} {s : Shared} (H : Clo C.w C.prog k f Fs Os Os' ds d) (P : Parks C.env C.s0) (R : Room C.A k) (hF : ∀ p ∈ Fs, p ∈ C.F) (hO : C.O = Os ++ O) (i : C.I ρ s) (hv : sats ds vs (C.hid s)) :
    wpAny C.M C.A (call f vs) (fun v s' => sat d v (C.hid s') ∧ (C.like C.X C.F (Os' ++ O)).I ρ s') NoE s := by
  obtain ⟨Fρ, Oe, k1, back⟩ := In.park i P.loc P.cel P.nd
  have k2 : Sk C.w C.X (Fs ++ (Fρ ++ C.F)) (Os ++ (Oe ++ O)) C.s0 s := (k1.perm (by rw [hO]; exact List.perm_append_comm_assoc ..)).facts fun p hp => by
    rcases List.mem_append.mp hp with hp | hp
    · exact List.mem_append_right _ (hF p hp)
    · exact hp
  refine wp_mono (H C.A C.X _ _ C.s0 s vs R k2 hv) fun v s' q => ⟨q.1, back C.F (Os' ++ O) C.s0 s' rfl ((q.2.perm (List.perm_append_comm_assoc ..)).facts fun p hp => List.mem_append_right _ hp)⟩
theorem EvO.clo {n : Str} {np p : Pos} {es : List Expr} {k : Nat} {f : Value} {Fs : List (D × Value)} {Os Os' O : Own} {ds : List D} {d : D} (hf : Ev C ρ (.Name n np) (.val f)) (hs : Evs C ρ es ds) (H : Clo C.w C.prog k f Fs Os Os' ds d) (P : Parks C.env C.s0) (R : Room C.A k) (hF : ∀ p ∈ Fs, p ∈ C.F) (hO : C.O = Os ++ O)
    (hc : ∀ s, C.I ρ s → Callable C.M f s.heap) : EvO C ρ (.Call (.Name n np) es [] p) d (Os' ++ O) := fun s x =>
  wpAny_Call_ofName (wp_mono (hf s x) fun v s1 p1 => by
    have := of_val p1.v
    subst this
    exact call_args (first := []) hs p1.i fun vs s2 p2 => ⟨hc s2 p2.i, callClo H P R hF hO p2.i p2.v⟩)
theorem EvO.share {n : Str} {np p : Pos} {e1 e2 : Expr} {x : Int} {b : List UInt8} {O' : Own} (R : Room C.A 4) (hf : Ev C ρ (.Name n np) (.val (.ref 145))) (h1 : Ev C ρ e1 (.int x)) (h2 : EvO C ρ e2 (.bytes b) O')
    (hs : backTo p (starEach [e1, e2] C.env) = [(false, eval e1 C.env), (false, eval e2 C.env)] := by rfl) : EvO C ρ (.Call (.Name n np) [e1, e2] [] p) (.share x b) O' := fun s i =>
  wpAny_Call_ofName (wp_mono (hf s i) fun v s1 p1 => by
    have := of_val p1.v
    subst this
    rw [hs]
    refine callWith_of (P := fun h => Callable C.M _ h) rfl (fun _ x => x) (evalArgs_plain (spliced_cons (wp_mono (h1 s1 p1.i) fun v1 s2 p2 => spliced_cons (wp_mono (h2 s2 p2.i) fun v2 s3 q => spliced_nil ⟨share_keeper C.w.w q.2.base.inK, ?_⟩))))
    obtain ⟨t, rfl⟩ := of_int p2.v
    exact wp_mono (call_share (C := C.like C.X C.F O') R q.2 sat_int q.1) fun v s' z => ⟨z.v, z.i⟩)
/-- xs.append(e), xs a list of ints that is the frame's own -/
theorem Bk.appendI {n : Str} {np ap p q : Pos} {nm : Str} {e : Expr} {a : Addr} {ns : List Int} {y : Int} {O1 O2 : Own} {rest : List Stmt} {Q : Flow → Shared → Prop} (hn : nm = "append" := by rfl)
    (hr : Has ρ n (.val (.ref a))) (hv : isVar C.env n = true) (hO : C.O = O1 ++ (a, intsP ns) :: O2) (hz : ns.length ≤ 1000) (he : Ev C ρ e (.int y)) (hk : Bk (C.like C.X C.F (O1 ++ (a, intsP (ns ++ [y])) :: O2)) ρ rest Q)
    (hi : interactive C.env = false := by rfl) (hsw : swapsWith (.Call (.Attribute (.Name n np) nm ap) [e] [] p) none (Pos.line q) C.env = pure false := by rfl)
    (hs : backTo p (starEach [e] C.env) = [(false, eval e C.env)] := by rfl) (hbase : attributeBase (.Name n np) nm C.env (eval (.Name n np) C.env) = eval (.Name n np) C.env := by rfl) (hline : (ap.endLine == p.line) = true := by rfl)
    (hfew : ((backTo p (starEach [e] C.env)).all (fun x => !x.1) && (backToKw p (keywordEach [] C.env)).all (fun x => x.1.isSome) && decide ([e].length + ([] : List Keyword).length + (if ([] : List Keyword).isEmpty then 0 else 1) < 30)) = true := by rfl) :
    Bk C ρ (.Expr (.Call (.Attribute (.Name n np) nm ap) [e] [] p) q :: rest) Q := fun s x =>
  wpAny_execs_cons (wpAny_Expr (own_append (O1' := O1) (O2' := O2) hn hr hv hO hz (fun s i => wp_mono (he s i) fun v s' z => ⟨of_int z.v, by have := z.i; rw [Cx.I, hO] at this; exact this⟩) (fun s' i => hk s' i) hs hbase hline hfew x) hi hsw)
theorem Ev.lenI {n m : Str} {np mp p : Pos} {a : Addr} {ns : List Int} {k : Nat} {O1 O2 : Own} (hf : Ev C ρ (.Name n np) (.val (.builtin "len"))) (hr : Has ρ m (.val (.ref a))) (hv : isVar C.env m = true) (hO : C.O = O1 ++ (a, intsP ns) :: O2) (hk : ns.length = k) (hz : k ≤ 1000)
    (he : starEach [.Name m mp] C.env = (false, eval (.Name m mp) C.env) :: starEach [] C.env := by rfl) : Ev C ρ (.Call (.Name n np) [.Name m mp] [] p) (.nat k) :=
  hf.call (.cons (.var hr hv) .nil he) fun s vs i hvs => ⟨Callable.builtin, by
    obtain ⟨v, rfl, hx⟩ := sats1 hvs
    have := of_val hx
    subst this
    obtain ⟨o, ho, us, c, hI, rfl⟩ := own_at hO i
    have e1 : (us.toArray.size : Int) = (k : Int) := by rw [List.size_toArray, hI.length, hk]
    refine call_len_list (items := us.toArray) ⟨_, ho, rfl, c, rfl⟩ (by rw [e1]; omega) ?_
    rw [e1]
    exact Po.tok i _ sat_int⟩
end
end Mine

-- S6
namespace Mine
/-- the parts of the text of _law_split -/
noncomputable def lsAt (i : Nat) : Stmt := match stAt 28 with | .FunctionDef _ _ body _ _ _ _ _ _ _ => body.getD i default | _ => default
noncomputable def defName : Stmt → Str | .FunctionDef n _ _ _ _ _ _ _ _ _ => n | _ => default
noncomputable def defArgs : Stmt → Arguments | .FunctionDef _ a _ _ _ _ _ _ _ _ => a | _ => default
noncomputable def defBody : Stmt → List Stmt | .FunctionDef _ _ b _ _ _ _ _ _ _ => b | _ => []
noncomputable def defScope : Stmt → Scope | .FunctionDef _ _ _ _ _ _ sc _ _ _ => sc | _ => default
noncomputable def defPos : Stmt → Pos | .FunctionDef _ _ _ _ _ _ _ _ _ p => p | _ => default
noncomputable abbrev srcQ : Str := "_law_split.<locals>.source"
noncomputable abbrev macQ : Str := "_law_split.<locals>.mac"
noncomputable abbrev srcFd (clos : List (Str × Addr)) (doc pm cv ctv : Value) : FuncData := fnX (defName (lsAt 1)) srcQ (defArgs (lsAt 1)) (defBody (lsAt 1)) (defScope (lsAt 1)) clos .none .none doc pm none cv ctv
noncomputable abbrev macFd (clos : List (Str × Addr)) (doc pm cv ctv : Value) : FuncData := fnX (defName (lsAt 2)) macQ (defArgs (lsAt 2)) (defBody (lsAt 2)) (defScope (lsAt 2)) clos .none .none doc pm none cv ctv
/-- what _law_split keeps: the list, the three cells, the two functions -/
structure Lw where
  a : Addr
  ca : Addr
  cd : Addr
  cl : Addr
  dv : Value
  lv : Value
  fs : Addr
  fm : Addr
  cs : Value
  cm : Value
  e : Value × Value × Value × Value × Value × Value
  bs : List (List UInt8)
  lead : List UInt8
noncomputable abbrev Lw.dD (l : Lw) : D := .list (l.bs.map .bytes)
noncomputable abbrev Lw.ccS (l : Lw) : List Cc := [⟨"drawn", l.cd, .is l.dD l.dv, l.dv⟩, ⟨"asked", l.ca, .val (.ref l.a), .ref l.a⟩]
noncomputable abbrev Lw.ccM (l : Lw) : List Cc := [⟨"lead", l.cl, .is (.bytes l.lead) l.lv, l.lv⟩]
noncomputable abbrev Lw.O (l : Lw) (ns : List Int) : Own := ccOwn l.ccS ++ ((l.a, intsP ns) :: ccOwn l.ccM)
noncomputable abbrev Lw.F (l : Lw) : List (D × Value) := [(.obj (fnIs (srcFd (cloOf l.ccS) l.e.1 l.e.2.1 l.cs l.e.2.2.1)), .ref l.fs), (.obj (codeQ srcQ), l.cs), (.obj (fnIs (macFd (cloOf l.ccM) l.e.2.2.2.1 l.e.2.2.2.2.1 l.cm l.e.2.2.2.2.2)), .ref l.fm), (.obj (codeQ macQ), l.cm), (l.dD, l.dv), (.bytes l.lead, l.lv)]
theorem bytes_at {bs : List (List UInt8)} {i : Nat} {b : List UInt8} (h : bs[i]? = some b) : (bs.map D.bytes)[i]? = some (.bytes b) := by rw [List.getElem?_map, h]; rfl
theorem source_Clo (w : Wo) (prog : Program) (l : Lw) (ns : List Int) (n : Int) (b : List UInt8) (hb : l.bs[ns.length]? = some b) (hz : l.bs.length ≤ 1000) : Clo w prog 1 (.ref l.fs) l.F (l.O ns) (l.O (ns ++ [n])) [.int n] (.bytes b) := fun A X F O s0 s vs R k hv => by
  have hlt : ns.length < l.bs.length := (List.getElem?_eq_some_iff.mp hb).1
  have hlen := sats_length hv
  have r : Sk w X (l.F ++ F) (ccOwn l.ccS ++ (((l.a, intsP ns) :: ccOwn l.ccM) ++ O)) s0 s := by rw [← List.append_assoc]; exact k
  have fz := fun p hp => k.fz p (List.mem_append_left F hp)
  have hnd : (l.ccS.map (·.n)).Nodup := by show (["drawn", "asked"] : List Str).Nodup; decide
  have hfree : ∀ x ∈ l.ccS, (defScope (lsAt 1)).names.lookup x.n = some NameKind.free := fun x hx => by
    rcases List.mem_cons.mp hx with rfl | hx
    · kernel_rfl
    · rw [List.mem_singleton.mp hx]; kernel_rfl
  have hfix : ∀ x ∈ l.ccS, ∀ u h, sat x.d u h → u = x.v := fun x hx u h q => by
    rcases List.mem_cons.mp hx with rfl | hx
    · exact fix_is q
    · rw [List.mem_singleton.mp hx] at q ⊢; exact fix_val q
  refine enterClo (cc := l.ccS) (names := ["length"]) (fn_of_sat (fz _ (.head _))) rfl rfl rfl rfl (by kernel_rfl) (by kernel_rfl) (by kernel_rfl) (codeRec_of_sat (fz _ (.tail _ (.head _)))) R r ?_ hnd hv ?_ rfl (fun n hn => by rw [List.mem_singleton.mp hn]; kernel_rfl) ?_ hfree fun L s' i hL => ?_
  · intro x hx
    rcases List.mem_cons.mp hx with rfl | hx
    · exact sat_is (fz (l.dD, l.dv) (.tail _ (.tail _ (.tail _ (.tail _ (.head _))))))
    · rw [List.mem_singleton.mp hx]; exact sat_val
  · obtain ⟨v, rfl, _⟩ := sats1 hv
    exact .of_pure (by kernel_rfl)
  · have : ((defScope (lsAt 1)).names.all fun x => x.2 != .cell) = true := by kernel_rfl
    intro x hx
    simpa using List.all_eq_true.mp this x hx
  · let C : Cx := ⟨w, prog, A.deeper (cloEnv (srcFd (cloOf l.ccS) l.e.1 l.e.2.1 l.cs l.e.2.2.1) l.ccS L l.fs), cloEnv (srcFd (cloOf l.ccS) l.e.1 l.e.2.1 l.cs l.e.2.2.1) l.ccS L l.fs, L :: X, s0, l.F ++ F, ((l.a, intsP ns) :: ccOwn l.ccM) ++ O⟩
    show wpAny C.M C.A (execs (defBody (lsAt 1)) C.env) _ NoE s'
    refine (Bk.appendI (C := C) (ρ := rho ["length"] [.int n] (ccRho l.ccS)) (a := l.a) (ns := ns) (y := n) (O1 := []) rfl (by kernel_rfl) (by kernel_rfl) rfl (by omega) (.var (by kernel_rfl) (by kernel_rfl)) ?_) s' i
    refine .ret (d := .bytes b) (.item (k := ns.length) (.unis (d := l.dD) (v := l.dv) (.var (by kernel_rfl) (by kernel_rfl))) (.list _) (.cast (b := .nat ((ns.length + 1 - 1) % l.bs.length)) (.modN (.subN (.lenI (a := l.a) (ns := ns ++ [n]) (O1 := []) (.blt (by kernel_rfl) (by kernel_rfl) boot_len (by decide)) (by kernel_rfl) (by kernel_rfl) rfl (by simp) (by omega)) (.natLit rfl) (by omega))
      (.len (k := l.bs.length) (.blt (by kernel_rfl) (by kernel_rfl) boot_len (by decide)) (.unis (d := l.dD) (v := l.dv) (.var (by kernel_rfl) (by kernel_rfl))) (.list _) (List.length_map ..) (by omega)) (by omega)) (by rw [Nat.add_sub_cancel, Nat.mod_eq_of_lt hlt])) (bytes_at hb) (by rw [List.length_map]; omega)) fun v s'' hv' i' => ⟨sat_mono hide_drop hv', ?_⟩
    have k' := leaveClo (O' := (l.a, intsP (ns ++ [n])) :: (ccOwn l.ccM ++ O)) i' r hnd hfree (fun x hx => by
      rcases List.mem_cons.mp hx with rfl | hx
      · kernel_rfl
      · rw [List.mem_singleton.mp hx]; kernel_rfl) hfix
    exact k'
theorem mac_Clo (w : Wo) (prog : Program) (l : Lw) (ns : List Int) (x y : List UInt8) (hz : l.lead.length ≤ 100) : Clo w prog 1 (.ref l.fm) l.F (l.O ns) (l.O ns) [.bytes x, .bytes y] (.bytes (l.lead ++ List.replicate 28 0)) := fun A X F O s0 s vs R k hv => by
  have hlen := sats_length hv
  have p : (l.O ns ++ O).Perm (ccOwn l.ccM ++ ((ccOwn l.ccS ++ [(l.a, intsP ns)]) ++ O)) := by
    have e : l.O ns ++ O = (ccOwn l.ccS ++ [(l.a, intsP ns)]) ++ (ccOwn l.ccM ++ O) := by simp
    rw [e]
    exact List.perm_append_comm_assoc ..
  have r := k.perm p
  have fz := fun p hp => k.fz p (List.mem_append_left F hp)
  have hnd : (l.ccM.map (·.n)).Nodup := by show (["lead"] : List Str).Nodup; decide
  have hfree : ∀ x ∈ l.ccM, (defScope (lsAt 2)).names.lookup x.n = some NameKind.free := fun x hx => by
    rw [List.mem_singleton.mp hx]; kernel_rfl
  have hfix : ∀ x ∈ l.ccM, ∀ u h, sat x.d u h → u = x.v := fun x hx u h q => by
    rw [List.mem_singleton.mp hx] at q ⊢; exact fix_is q
  refine enterClo (cc := l.ccM) (names := ["key", "message"]) (fn_of_sat (fz _ (.tail _ (.tail _ (.head _))))) rfl rfl rfl rfl (by kernel_rfl) (by kernel_rfl) (by kernel_rfl) (codeRec_of_sat (fz _ (.tail _ (.tail _ (.tail _ (.head _)))))) R r ?_ hnd hv ?_ rfl (fun n hn => by
    rcases List.mem_cons.mp hn with rfl | hn
    · kernel_rfl
    · rw [List.mem_singleton.mp hn]; kernel_rfl) ?_ hfree fun L s' i hL => ?_
  · intro x hx
    rw [List.mem_singleton.mp hx]
    exact sat_is (fz (.bytes l.lead, l.lv) (.tail _ (.tail _ (.tail _ (.tail _ (.tail _ (.head _)))))))
  · obtain ⟨v, u, rfl, _⟩ := sats2 hv
    exact .of_pure (by kernel_rfl)
  · have : ((defScope (lsAt 2)).names.all fun x => x.2 != .cell) = true := by kernel_rfl
    intro x hx
    simpa using List.all_eq_true.mp this x hx
  · let fd := macFd (cloOf l.ccM) l.e.2.2.2.1 l.e.2.2.2.2.1 l.cm l.e.2.2.2.2.2
    let C : Cx := ⟨w, prog, A.deeper (cloEnv fd l.ccM L l.fm), cloEnv fd l.ccM L l.fm, L :: X, s0, l.F ++ F, (ccOwn l.ccS ++ [(l.a, intsP ns)]) ++ O⟩
    show wpAny C.M C.A (execs (defBody (lsAt 2)) C.env) _ NoE s'
    refine (Bk.ret (C := C) (ρ := rho ["key", "message"] [.bytes x, .bytes y] (ccRho l.ccM)) (d := .bytes (l.lead ++ List.replicate 28 0)) (.addB (.unis (d := .bytes l.lead) (v := l.lv) (.var (by kernel_rfl) (by kernel_rfl))) (.bytes1 (k := 28) (.blt (by kernel_rfl) (by kernel_rfl) boot_bytes (by decide)) (.natLit rfl) (by decide)) (by simp; omega)) fun v s'' hv' i' => ⟨sat_mono hide_drop hv', ?_⟩) s' i
    have k' := leaveClo (fd := fd) i' r hnd hfree (fun x hx => by rw [List.mem_singleton.mp hx]; kernel_rfl) hfix
    exact k'.perm p.symm
end Mine

-- S7
namespace Mine
section
variable {C : Cx} {ρ : List (Str × D)}
theorem EvO.takeB {value upper : Expr} {sp p : Pos} {b c : List UInt8} {k : Nat} {O' : Own} (h : EvO C ρ value (.bytes b) O') (hk : Ev (C.like C.X C.F O') ρ upper (.nat k)) (hz : b.length ≤ 1000) (hc : b.take k = c)
    (hs : ∀ b t r, subscripted (.Slice none (some upper) none sp) false (.bytes b t) (.ref r) = operate [.ref r, .bytes b t] (getItem (.bytes b t) (.ref r)) := by intros; with_unfolding_all rfl) (hg : ∀ b t r, letTemporaryGo value (.bytes b t) r = pure () := by intros; with_unfolding_all rfl) :
    EvO C ρ (.Subscript value (.Slice none (some upper) none sp) p) (.bytes c) O' := fun s x =>
  Subscript_ (wp_mono (h s x) fun v s1 q1 => by
    obtain ⟨t, rfl⟩ := of_bytes q1.1
    refine wpAny_Slice (wpAny_pure (wp_mono (hk s1 q1.2) fun i s2 q2 => wpAny_pure ?_))
    obtain ⟨t', rfl⟩ := of_int q2.v
    refine wp_mono (cut_tail (C := C.like C.X C.F O') (s0 := s2) q2.i (.refl _) .none (.int _ _) hz ?_ hs hg) fun v s3 z => ⟨z.v, z.i⟩
    show (b.drop 0).take (clipAt b.length k - 0) = c
    rw [clipAt_nat, ← hc, List.drop_zero, Nat.sub_zero]
    by_cases q : k ≤ b.length
    · rw [Nat.min_eq_left q]
    · rw [Nat.min_eq_right (by omega), List.take_of_length_le (Nat.le_refl _), List.take_of_length_le (by omega)])
theorem Bk.retO {e : Expr} {p : Pos} {r : List Stmt} {d : D} {O' : Own} {Q : Flow → Shared → Prop} (h : EvO C ρ e d O') (hq : ∀ v s', sat d v (C.hid s') → (C.like C.X C.F O').I ρ s' → Q (.ret v) s') : Bk C ρ (.Return (some e) p :: r) Q := fun s x =>
  wpAny_execs_cons (wpAny_Return_some (wp_mono (h s x) fun v s' q => hq v s' q.1 q.2))
end
section
variable {w : Wo} {X : List Addr} {F : List (D × Value)} {O O' : Own} {s0 s : Shared} {ρ : List (Str × D)}
/-- a frame of a def of the top is left -/
theorem leaveFn {env : Env} {X' : List Addr} {s'' : Shared} (i : In w env X' F O' s0 ρ s'') (t1 : 156 ∈ X) (t2 : 224 ∈ X) (hX : ∀ a ∈ X, a ∈ X') (hO : ∀ p ∈ O', p.1 ∈ X) : Sk w X F O' s0 s'' := i.sk.shrink t1 t2 hX hO
theorem frame_sub {env : Env} : ∀ a ∈ X, a ∈ frameX env X := fun a ha => .tail _ (List.mem_append_right _ ha)
end
theorem digest_fn (w : Wo) : FnObj w 168 (fnAt w 168) (bodyOf (fnAt w 168)) := ⟨by kernel_rfl, by kernel_rfl, by kernel_rfl, by kernel_rfl, by kernel_rfl, by kernel_rfl, by kernel_rfl, by kernel_rfl, ⟨167, codeVs w 167, 932, by kernel_rfl, by kernel_rfl, by kernel_rfl⟩⟩
theorem parks_fn {w : Wo} {f L : Addr} {s0 : Shared} (hL : s0.heap.objs.size ≤ L) (hc : ∀ x ∈ (fnEnv w f L).cells, L ≤ x.2) (hnd : ((fnEnv w f L).cells.map (·.1)).Nodup) : Parks (fnEnv w f L) s0 := ⟨hL, fun x hx => Nat.le_trans hL (hc x hx), hnd⟩
theorem lw_fn {l : Lw} {ns : List Int} {k : Nat} {d : D} {v : Value} (h : (l.F)[k]? = some (d, v)) {F : List (D × Value)} : (d, v) ∈ l.F ++ F := List.mem_append_left _ (List.mem_of_getElem? h)
theorem digest_Clo (w : Wo) (prog : Program) (l : Lw) (ns : List Int) (x y : List UInt8) (hz : l.lead.length = 4) : Clo w prog 2 (.ref 168) l.F (l.O ns) (l.O ns) [.bytes x, .bytes y, .val (.ref l.fm)] (.bytes l.lead) := fun A X F O s0 s vs R k hv => by
  refine enterSk (names := ["random_data", "shared_secret", "hmac_sha256"]) (digest_fn w) R k hv ((bind3 (by intros; kernel_rfl) : Binds w prog 168 _) vs s.heap k.base.inK (sats_length hv)) rfl (by kernel_rfl) (by kernel_rfl) fun L s' i hL => ?_
  let C : Cx := ⟨w, prog, A.deeper (fnEnv w 168 L), fnEnv w 168 L, frameX (fnEnv w 168 L) X, s0, l.F ++ F, l.O ns ++ O⟩
  refine (Bk.retO (C := C) (ρ := rho ["random_data", "shared_secret", "hmac_sha256"] [.bytes x, .bytes y, .val (.ref l.fm)] []) (d := .bytes l.lead) (O' := l.O ns ++ O) (.takeB (b := l.lead ++ List.replicate 28 0) (k := 4) (.clo (.var (by kernel_rfl) (by kernel_rfl)) (.cons (.var (d := .bytes x) (by kernel_rfl) (by kernel_rfl)) (.cons (.var (d := .bytes y) (by kernel_rfl) (by kernel_rfl)) .nil)) (mac_Clo w prog l ns x y (by omega))
    ⟨hL, fun x hx => (nomatch hx), List.Pairwise.nil⟩ (R.deeper _) (fun p hp => List.mem_append_left _ hp) rfl fun s i => ?_) (.glob (d := .nat 4) (v := .int 4 196) (by kernel_rfl) (by kernel_rfl) fun h => sat_int) (by simp; omega) (by rw [← hz, List.take_left])) fun v s'' hv' i' => ⟨sat_mono (hide_sub frame_sub) hv', leaveFn i' k.t1 k.t2 frame_sub fun p hp => (k.ow p hp).2.2⟩) s' i
  exact Callable.fn (fn_of_sat (i.fz _ (List.mem_append_left _ (.tail _ (.tail _ (.head _))))))
end Mine

-- S8
namespace Mine
section
variable {C : Cx} {ρ : List (Str × D)}
theorem Ev.addOwn {n : Str} {np p : Pos} {r : Expr} {a : Addr} {vs : List Value} {es ds : List D} {O1 O2 : Own} (hr : Has ρ n (.val (.ref a))) (hv : isVar C.env n = true) (hO : C.O = O1 ++ (a, listP vs) :: O2) (hF : ∀ q ∈ es.zip vs, q ∈ C.F) (hlen : vs.length = es.length)
    (h2 : Ev C ρ r (.list ds)) (hz : es.length + ds.length ≤ 1000) : Ev C ρ (.BinOp (.Name n np) .Add r p) (.list (es ++ ds)) :=
  (Ev.var hr hv).bin h2 fun s v u i h1 h2 => by
    have := of_val h1
    subst this
    obtain ⟨o, ho, k, rfl⟩ := own_at hO i
    obtain ⟨b, us, m, rfl, hb, h2⟩ := plain_of (a := 0) h2
    have h1 : sats es vs (C.hid s) := sats_zip hlen fun q hq => i.fz q (hF q hq)
    refine P.add_list ho hb ?_ (by rw [List.size_toArray, List.size_toArray, hlen, sats_length h2]; exact Nat.le_trans hz (by decide))
    refine ⟨?_, i.push _, .push _ _⟩
    have k := hide_le (w := C.w) i.t1 i.t2 (Kp.push s.heap { cls := .type "list", data := .seq (vs.toArray ++ us.toArray) })
    unfold sat
    exact ⟨_, vs ++ us, rfl, ⟨0, by rw [hide_new i.lt rfl]; simp⟩, sats_append (sats_mono k h1) (sats_mono k h2)⟩
/-- xs.append(e), xs a list that is the frame's own -/
theorem Bk.appendD {n : Str} {np ap p q : Pos} {nm : Str} {e : Expr} {a : Addr} {vs : List Value} {d : D} {O1 O2 : Own} {rest : List Stmt} {Q : Flow → Shared → Prop} (hn : nm = "append" := by rfl)
    (hr : Has ρ n (.val (.ref a))) (hv : isVar C.env n = true) (hO : C.O = O1 ++ (a, listP vs) :: O2) (hz : vs.length ≤ 1000) (he : Ev C ρ e d) (hk : ∀ v, Bk (C.like C.X ((d, v) :: C.F) (O1 ++ (a, listP (vs ++ [v])) :: O2)) ρ rest Q)
    (hi : interactive C.env = false := by rfl) (hsw : swapsWith (.Call (.Attribute (.Name n np) nm ap) [e] [] p) none (Pos.line q) C.env = pure false := by rfl)
    (hs : backTo p (starEach [e] C.env) = [(false, eval e C.env)] := by rfl) (hbase : attributeBase (.Name n np) nm C.env (eval (.Name n np) C.env) = eval (.Name n np) C.env := by rfl) (hline : (ap.endLine == p.line) = true := by rfl)
    (hfew : ((backTo p (starEach [e] C.env)).all (fun x => !x.1) && (backToKw p (keywordEach [] C.env)).all (fun x => x.1.isSome) && decide ([e].length + ([] : List Keyword).length + (if ([] : List Keyword).isEmpty then 0 else 1) < 30)) = true := by rfl) :
    Bk C ρ (.Expr (.Call (.Attribute (.Name n np) nm ap) [e] [] p) q :: rest) Q := fun s x => by
  subst hn
  refine wpAny_execs_cons (wpAny_Expr ?_ hi hsw)
  refine wpAny_Call_method hbase hfew hline F.plainAttrs_list F.slot_list_append F.type_list_append (wp_mono ((Ev.var hr hv) s x) fun v s1 q => ?_)
  have := of_val q.v
  subst this
  obtain ⟨o, ho, m, rfl⟩ := own_at hO q.i
  refine ⟨⟨_, ho, rfl⟩, fun b e => by cases e; exact ⟨_, ho, rfl⟩, ?_⟩
  rw [hs]
  refine callWith1 (wp_mono (he s1 q.i) fun v s2 y2 => ⟨Callable.builtin, ?_⟩)
  obtain ⟨o, ho, m, rfl⟩ := own_at hO y2.i
  refine wpAny_list_append_plain ⟨m, ho⟩ (fun h' hl' hs' => ?_) (by rw [List.size_toArray]; exact Nat.le_trans hz (by decide))
  obtain ⟨m', ho'⟩ := hl'
  have i3 : In C.w C.env C.X C.F (O1 ++ (a, listP vs) :: O2) C.s0 ρ s2 := hO ▸ y2.i
  have hX := (i3.ow (a, listP vs) (List.mem_append_right _ (.head _))).2.2.2.1
  have i4 := In.turn (t := s2.toks) (P' := listP (vs ++ [v])) i3 hs' ho' ⟨m', by simp⟩
  exact hk v _ (i4.fact (sat_mono (hide_same hX hs') y2.v))
/-- a for whose turns turn own objects and bring facts -/
theorem Bk.forX {n : Str} {np p : Pos} {iter : Expr} {body rest : List Stmt} {d0 : D} {ds : List D} {Q : Flow → Shared → Prop} (hi : Ev C ρ iter d0) (hsrc : Src C.w C.prog C.A d0 ds) (hc : canStore C.w.t C.env n = true)
    (I : Nat → List (Str × D) → List (D × Value) → Own → Prop) (h0 : I 0 ρ C.F C.O) (hX : ∀ i ρ F O, I i ρ F O → ∀ p ∈ O, p.1 ∈ C.X)
    (turn : ∀ i d ρ X F O Fs Os, ds[i]? = some d → I i ρ F O → Bk (C.like X (Fs ++ F) (Os ++ O)) ((n, d) :: ρ) body (fun f s => f = .next ∧ ∃ ρ' F' O', I (i + 1) ρ' F' O' ∧ (C.like X (Fs ++ F') (Os ++ O')).I ρ' s))
    (hr : ∀ ρ F O, I ds.length ρ F O → Bk (C.like C.X F O) ρ rest Q) (hs : ∀ x, foldedSetIterable iter C.env x = pure x := by intro _; rfl) : Bk C ρ (.For (.Name n np) iter body [] p :: rest) Q := fun s x => by
  refine wpAny_execs_cons (wpAny_For (wp_mono (hi s x) fun v s1 q => wp_mono (hsrc _ _ _ _ _ _ s1 v q.i q.v) fun it s2 y => ?_) hs)
  obtain ⟨X', Fs, Os, hX', _, T, i2, m⟩ := y
  refine codeAny_forLoop (fun n s => ∃ i ρ F O, i ≤ ds.length ∧ n = ds.length - i ∧ I i ρ F O ∧ In C.w C.env X' (Fs ++ F) (Os i ++ O) C.s0 ρ s) (fun n s hI => ?_) ds.length ⟨0, ρ, C.F, C.O, Nat.zero_le _, rfl, h0, i2⟩ (by intro _; rfl)
  obtain ⟨i, ρ, F, O, hi, hn, hI, x⟩ := hI
  cases hd : ds[i]? with
  | some d =>
    have hlt : i < ds.length := (List.getElem?_eq_some_iff.mp hd).1
    refine wp_any (T.next _ _ _ _ _ _ _ i d hd x) fun r s1 q => ?_
    obtain ⟨v, rfl, hv, x1⟩ := q
    refine wpAny_assign_Name (store_var x1 hc hv fun s' z' => ?_)
    refine wp_any (turn i d ρ X' F O Fs (Os (i + 1)) hd hI s' z') fun f s3 q => ?_
    obtain ⟨rfl, ρ', F', O', a, b⟩ := q
    exact ⟨n - 1, (step_lt hn hlt).1, i + 1, ρ', F', O', hlt, (step_lt hn hlt).2, a, b⟩
  | none =>
    have hge : ds.length ≤ i := List.getElem?_eq_none_iff.mp hd
    have : i = ds.length := Nat.le_antisymm hi hge
    subst this
    refine wp_any (T.done _ _ _ _ _ _ _ x) fun r s1 q => ?_
    obtain ⟨rfl, x1⟩ := q
    refine wpAny_execs_nil ?_
    refine hr ρ F O hI s1 ?_
    exact { x1 with
      ns := let ⟨m, a, b⟩ := x1.ns; ⟨m, a, fun n d e k => let ⟨v, y, z⟩ := b n d e k; ⟨v, y, sat_mono (hide_sub hX') z⟩⟩
      cl := fun n d e k => let ⟨c, v, a, b, z⟩ := x1.cl n d e k; ⟨c, v, a, b, sat_mono (hide_sub hX') z⟩
      locX := q.i.locX, celX := q.i.celX, t1 := q.i.t1, t2 := q.i.t2
      lt := fun b hb => x1.lt b (hX' b hb)
      fz := fun p hp => sat_mono (hide_sub hX') (x1.fz p hp)
      ow := fun p hp => let ⟨a, b, c, d, e⟩ := x1.ow p hp; ⟨a, b, c, hX _ _ _ _ hI p hp, e⟩ }
end
end Mine

-- S9
namespace Mine
noncomputable abbrev nsP (o : Obj) : Prop := ∃ (m : Str → Option Value) (es : Array DictEntry) (ep : Nat), o.data = .dict es ep ∧ StrKeys es ∧ ∀ name, nsFind es name = m name
section
variable {w : Wo} {env env' : Env} {X X' X2 : List Addr} {F F' Fs : List (D × Value)} {O O' Os : Own} {s0 s s1 s2 : Shared} {ρ ρ' : List (Str × D)} {prog : Program} {A : Around}
/-- an iterator begun outside, taken into the frame -/
theorem In.join (out : In w env X F O s0 ρ s1) (hX : ∀ a ∈ X, a ∈ X2) (hXn : ∀ a ∈ X2, a ∈ X ∨ s1.heap.objs.size ≤ a) (i : In w env' X2 Fs Os s1 [] s2) : In w env X2 (Fs ++ F) (Os ++ O) s0 ρ s2 := by
  have j := out.stepX i.mv i.tb hX hXn i.lt
  refine { j with fz := fun p hp => ?_, ow := fun p hp => ?_, owD := ?_ }
  · rcases List.mem_append.mp hp with hp | hp
    · exact i.fz p hp
    · exact j.fz p hp
  · rcases List.mem_append.mp hp with hp | hp
    · obtain ⟨a, _, b, c, _⟩ := i.ow p hp
      exact ⟨a, Ne.symm (Nat.ne_of_lt (Nat.lt_of_lt_of_le (out.lt _ out.locX) b)), Nat.le_trans out.mv.kp.size b, c, fun n c' e => Nat.ne_of_lt (Nat.lt_of_lt_of_le (out.lt _ (out.celX n c' e)) b)⟩
    · exact j.ow p hp
  · refine List.pairwise_append.mpr ⟨i.owD, out.owD, fun p hp q hq => ?_⟩
    exact Ne.symm (Nat.ne_of_lt (Nat.lt_of_lt_of_le (out.lt _ (out.ow q hq).2.2.2.1) (i.ow p hp).2.2.1))
/-- one frame is put by, another taken up, that shares the cells -/
theorem In.swapF {L : Addr} (i : In w env X F ((L, nsP) :: O) s0 ρ s) (hL : env'.locals = L) (hloc : s0.heap.objs.size ≤ env.locals) (hg : env'.globals = 3) (hb : env'.builtins = 0) (hk : env'.scope.kind = .function) (hf : env'.func = none)
    (hcells : ∀ n, env'.cells.lookup n = env.cells.lookup n) (hρ : ∀ n d, ρ'.lookup n = some d → ρ.lookup n = some d ∧ (env.kindOf n = some .cell ∨ env.kindOf n = some .free) ∧ env'.kindOf n ≠ some .local)
    (hρ2 : ∀ n d, ρ.lookup n = some d → (env.kindOf n = some .cell ∨ env.kindOf n = some .free) → ρ'.lookup n = some d ∧ (env'.kindOf n = some .cell ∨ env'.kindOf n = some .free)) :
    ∃ Fρ, In w env' X (Fρ ++ F) ((env.locals, fun o => s.heap.get? env.locals = some o) :: O) s0 ρ' s ∧
      ∀ F' O' s', In w env' X (Fρ ++ F') ((env.locals, fun o => s.heap.get? env.locals = some o) :: O') s0 ρ' s' → In w env X F' ((L, nsP) :: O') s0 ρ s' := by
  obtain ⟨⟨o, ho, m', es, ep, hr⟩, hne, hlo, hLX, hLc⟩ := i.ow _ (.head _)
  have hD := List.pairwise_cons.mp i.owD
  obtain ⟨m, hm, hx⟩ := i.ns
  obtain ⟨Fρ, hF1, hF2, _⟩ := facts_of (P := fun _ _ => True) hx (fun n d e k => let ⟨c, v, a, b, x⟩ := i.cl n d e k; ⟨v, trivial, x⟩) (ρ.map (·.1))
  refine ⟨Fρ, { i with
    kind := hk, glob := hg, bi := hb
    ns := ⟨m', hL ▸ ⟨o, es, ep, ho, hr⟩, fun n d e k => absurd k (hρ n d e).2.2⟩
    isc := fun n c e => i.isc n c (by rw [← hcells]; exact e)
    cl := fun n d e k => by
      obtain ⟨c, v, a, b⟩ := i.cl n d (hρ n d e).1 (hρ n d e).2.1
      exact ⟨c, v, by rw [hcells]; exact a, b⟩
    locX := hL ▸ hLX
    celX := fun n c e => i.celX n c (by rw [← hcells]; exact e)
    celT := fun n c e => i.celT n c (by rw [← hcells]; exact e)
    locN := fun _ _ => hL ▸ hlo
    locT := hL ▸ notTab_of_ge i.low hlo
    celN := fun e => by rw [hf] at e; cases e
    locC := fun n c e => by rw [hL]; exact hLc n c (by rw [← hcells]; exact e)
    celC := fun n n' c e e' => i.celC n n' c (by rw [← hcells]; exact e) (by rw [← hcells]; exact e')
    fz := fun p hp => by
      rcases List.mem_append.mp hp with hp | hp
      · exact hF1 p hp
      · exact i.fz p hp
    ow := fun p hp => by
      rcases List.mem_cons.mp hp with rfl | hp
      · obtain ⟨o, es, ep, e, _⟩ := hm
        exact ⟨⟨o, e, e⟩, hL ▸ Ne.symm hne, hloc, i.locX, fun n c e => i.locC n c (by rw [← hcells]; exact e)⟩
      · obtain ⟨a, _, b, c, d⟩ := i.ow p (.tail _ hp)
        exact ⟨a, hL ▸ Ne.symm (hD.1 p hp), b, c, fun n c e => d n c (by rw [← hcells]; exact e)⟩
    owD := List.pairwise_cons.mpr ⟨fun p hp => Ne.symm (i.ow p (.tail _ hp)).2.1, hD.2⟩ }, fun F' O' s' k => ?_⟩
  obtain ⟨⟨o1, h1, h2⟩, k2, k3, k4, k5⟩ := k.ow _ (.head _)
  have kD := List.pairwise_cons.mp k.owD
  obtain ⟨mk, ⟨ok, ek, pk, hk1, hk2⟩, _⟩ := k.ns
  exact { k with
    kind := i.kind, glob := i.glob, bi := i.bi
    ns := ⟨m, by
      obtain ⟨o, es, ep, e, r⟩ := hm
      have : o = o1 := Option.some.inj (e.symm.trans h2)
      subst this
      exact ⟨o, es, ep, h1, r⟩, fun n d e kd => by
      obtain ⟨v, a, b⟩ := hF2 n (lookup_names e) d e kd
      exact ⟨v, a, k.fz _ (List.mem_append_left _ b)⟩⟩
    isc := fun n c e => k.isc n c (by rw [hcells]; exact e)
    cl := fun n d e kd => by
      obtain ⟨a, b⟩ := hρ2 n d e kd
      obtain ⟨c, v, x, y⟩ := k.cl n d a b
      exact ⟨c, v, by rw [← hcells]; exact x, y⟩
    locX := i.locX
    celX := i.celX
    celT := i.celT
    locN := i.locN
    locT := i.locT
    celN := i.celN
    locC := i.locC
    celC := i.celC
    fz := fun p hp => k.fz p (List.mem_append_right _ hp)
    ow := fun p hp => by
      rcases List.mem_cons.mp hp with rfl | hp
      · exact ⟨⟨ok, hL ▸ hk1, mk, ek, pk, hk2⟩, hne, hlo, hLX, hLc⟩
      · obtain ⟨a, b, c, d, e⟩ := k.ow p (.tail _ hp)
        exact ⟨a, Ne.symm (kD.1 p hp), c, d, fun n c' q => e n c' (by rw [hcells]; exact q)⟩
    owD := List.pairwise_cons.mpr ⟨fun p hp => by
      have := (k.ow p (.tail _ hp)).2.1
      rw [hL] at this
      exact Ne.symm this, kD.2⟩ }
end
section
variable {C : Cx} {ρ ρ' : List (Str × D)}
noncomputable def celK (sc : Scope) (n : Str) : Bool := match sc.names.lookup n with | some .cell | some .free => true | _ => false
theorem celK_of {sc : Scope} {n : Str} (h : celK sc n = true) : sc.names.lookup n = some .cell ∨ sc.names.lookup n = some .free := by
  unfold celK at h
  split at h <;> first | (rename_i q; exact .inl q) | (rename_i q; exact .inr q) | cases h
noncomputable def notCel (env : Env) (n : Str) : Bool := match env.kindOf n with | some .cell | some .free => false | _ => true
theorem Bk.compO {elt iter : Expr} {scope : Scope} {pos spos : Pos} {n y : Str} {np py : Pos} {ds es : List D} {rest : List Stmt} {Q : Flow → Shared → Prop} {Ost : Nat → Own} {O1 : Own} (hi : IterEx C ρ iter (.Name n np) ds) (K : CompOk C scope) (P : Parks C.env C.s0)
    (hcl : ∀ x, (clo scope C.env).lookup x = C.env.cells.lookup x) (hρ : ∀ p ∈ ρ', Has ρ p.1 p.2 ∧ capt scope (relabel scope C.env) C.env p.1 = true)
    (hρ2 : ∀ p ∈ ρ, notCel C.env p.1 = true ∨ (Has ρ' p.1 p.2 ∧ celK (relabel scope C.env) p.1 = true)) (hlen : es.length = ds.length) (hz : es.length ≤ 1000) (hO : C.O = Ost 0 ++ O1) (hOX : ∀ i, ∀ p ∈ Ost i, ∃ q ∈ Ost 0, q.1 = p.1)
    (hn : ρ'.lookup n = none) (hc' : ∀ L, canStore C.w.t (compE C scope L) n = true)
    (turn : ∀ L X F R i d e, C.s0.heap.objs.size ≤ L → (∀ p ∈ C.F, p ∈ F) → ds[i]? = some d → es[i]? = some e → EvO ⟨C.w, C.prog, C.A, compE C scope L, X, C.s0, F, Ost i ++ R⟩ ((n, d) :: ρ') elt e (Ost (i + 1) ++ R))
    (hsw : swapsWith (.ListComp elt [⟨.Name n np, iter, [], 0⟩] scope pos) (some (.Name y py)) spos.line C.env = pure true) (hc : canStore C.w.t C.env y = true)
    (hr : ∀ a vs, a ∉ C.X → vs.length = es.length → Bk (C.like (a :: C.X) (es.zip vs ++ C.F) ((a, listP vs) :: (Ost ds.length ++ O1))) ((y, .val (.ref a)) :: ρ) rest Q)
    (hs : ∀ x, foldedSetIterable iter C.env x = pure x := by intro _; rfl) : Bk C ρ (.Assign [.Name y py] (.ListComp elt [⟨.Name n np, iter, [], 0⟩] scope pos) spos :: rest) Q := fun s x => by
  refine wpAny_execs_cons ?_
  rw [exec_Assign_Name_used _ _ _ _ hsw]
  refine wpAny_bind (wpAny_standAt (wpAny_bind ?_))
  show wpAny _ _ (do let _ ← comprehension (.ListComp elt [⟨.Name n np, iter, [], 0⟩] scope pos) scope C.env _ (newList []) false (eval iter C.env) (some (PySem.assign (.Name y py) C.env))) _ _ s
  refine wpAny_bind (wpAny_mono (wpAny_comprehension_free (use := some (PySem.assign (.Name y py) C.env)) (Q := fun _ s' => ∃ a vs, a ∉ C.X ∧ vs.length = es.length ∧ (C.like (a :: C.X) (es.zip vs ++ C.F) ((a, listP vs) :: (Ost ds.length ++ O1))).I ((y, .val (.ref a)) :: ρ) s') (E := NoE) rfl hs K.clos K.kind K.names (wp_mono (hi s x) fun v _ q => wp_mono q fun it s2 q => ?_)) (fun _ s' hq => ?_) fun _ _ e => e)
  case refine_2 =>
    obtain ⟨a, vs, h1, h2, h3⟩ := hq
    exact wpAny_pure (wpAny_pure (hr a vs h1 h2 s' h3))
  obtain ⟨s1, X2, Fs, Os, i1, m1, hX0, hXn, T, i2⟩ := q
  have j2 := In.join i1 hX0 hXn i2
  simp only [List.append_nil] at j2
  refine wpAny_newList ?_
  have j3 := j2.own { cls := .type "list", data := .seq ([] : List Value).toArray } (P := listP []) ⟨0, rfl⟩ rfl
  refine wpAny_newFunctionEnv K.noCell (fun _ h => (nomatch h)) (fun h' hn' hs' => ?_) K.kind
  have hL3 : ({ s2 with heap := s2.heap.push { cls := .type "list", data := .seq ([] : List Value).toArray } } : Shared).heap.objs.size = s2.heap.objs.size + 1 := Heap.size_push ..
  rw [hL3] at hn' hs' ⊢
  have haX : s2.heap.objs.size ∉ C.X := fun hm => Nat.lt_irrefl _ (Nat.lt_of_lt_of_le (i1.lt _ hm) i2.mv.kp.size)
  have hLX : s2.heap.objs.size + 1 ∉ C.X := fun hm => Nat.lt_irrefl _ (Nat.lt_of_lt_of_le (i1.lt _ hm) (Nat.le_succ_of_le i2.mv.kp.size))
  have hL0 : C.s0.heap.objs.size ≤ s2.heap.objs.size + 1 := Nat.le_succ_of_le j2.mv.kp.size
  have j4 : In C.w C.env ((s2.heap.objs.size + 1) :: s2.heap.objs.size :: X2) (Fs ++ C.F) ((s2.heap.objs.size + 1, nsP) :: (s2.heap.objs.size, listP []) :: (Os 0 ++ C.O)) C.s0 ρ { s2 with heap := h', toks := s2.toks + ([] : List (Str × Value)).length } := by
    have keep : Le (s2.heap.push { cls := .type "list", data := .seq ([] : List Value).toArray }) h' := fun b o e => by
      have hb := Heap.lt_size e
      rw [Heap.size_push] at hb
      exact hs'.extBut b o (Nat.ne_of_lt hb) (Heap.get?_push_of_some _ e)
    have hz' : h'.objs.size = s2.heap.objs.size + 2 := by rw [hs'.1, Heap.size_push, Heap.size_push]
    exact In.letFrame j3 (.heap _ h' _ keep (by rw [Heap.size_push, hz']; omega)) (j3.tb.le keep) (by rw [Heap.size_push]; exact Nat.le_refl _) hn'
  generalize s2.heap.objs.size + 1 = L at *
  generalize s2.heap.objs.size = a at *
  obtain ⟨Fρ, j5, back⟩ := j4.swapF (env' := compE C scope L) (ρ' := ρ') rfl P.loc i1.glob i1.bi K.kind rfl hcl (fun n d e => by
    obtain ⟨h1, h2⟩ := hρ (n, d) (lookup_mem e)
    unfold capt at h2
    simp only [Bool.and_eq_true] at h2
    refine ⟨h1, ?_, fun q => ?_⟩
    · have := h2.1.1
      split at this <;> first | (rename_i q; exact .inl q) | (rename_i q; exact .inr q) | cases this
    · have h3 := h2.2
      rw [show (relabel scope C.env).names.lookup n = some .local from q] at h3
      simp at h3) (fun n d e k => by
    rcases hρ2 (n, d) (lookup_mem e) with q | ⟨q1, q2⟩
    · unfold notCel at q
      rcases k with k | k <;> rw [k] at q <;> cases q
    · exact ⟨q1, celK_of q2⟩)
  show codeAny C.M C.A (.compStart (.ListComp elt [⟨.Name n np, iter, [], 0⟩] scope pos) 0 it (.ref a) (compE C scope L)) (compPost C.M C.A NoE _ _ (.ref a) L) _
  generalize ({ s2 with heap := h', toks := s2.toks + ([] : List (Str × Value)).length } : Shared) = s4 at *
  have i5 : In C.w (compE C scope L) (L :: a :: X2) (Fs ++ ((es.take 0).zip [] ++ (Fρ ++ C.F))) (Os 0 ++ (Ost 0 ++ ((a, listP []) :: (C.env.locals, fun o => s4.heap.get? C.env.locals = some o) :: O1))) C.s0 ρ' s4 := by
    refine (j5.facts fun p hp => ?_).perm ?_
    · simp only [List.mem_append, List.take_zero, List.zip_nil_left, List.not_mem_nil, false_or] at hp ⊢
      rcases hp with q | q | q
      · exact .inr (.inl q)
      · exact .inl q
      · exact .inr (.inr q)
    · rw [hO]
      have e : ∀ (x y : Addr × (Obj → Prop)) (A B D : Own), List.Perm (x :: y :: (A ++ (B ++ D))) (A ++ (B ++ (y :: x :: D))) := fun x y A B D => by
        refine (List.Perm.swap y x _).trans ?_
        have h1 : y :: x :: (A ++ (B ++ D)) = [y, x] ++ ((A ++ B) ++ D) := by simp
        have h2 : A ++ (B ++ (y :: x :: D)) = (A ++ B) ++ ([y, x] ++ D) := by simp
        rw [h1, h2]
        exact List.perm_append_comm_assoc ..
      exact e ..
  have hsn : ∀ d, ∀ n' d', ρ'.lookup n' = some d' → List.lookup n' ((n, d) :: ρ') = some d' := fun d n' d' e => by
    by_cases hq : n' = n
    · rw [hq, hn] at e; cases e
    · rw [List.lookup_cons, show (n' == n) = false by simpa using hq]; exact e
  have loop : ∀ s3, In C.w (compE C scope L) (L :: a :: X2) (Fs ++ ((es.take 0).zip [] ++ (Fρ ++ C.F))) (Os 0 ++ (Ost 0 ++ ((a, listP []) :: (C.env.locals, fun o => s4.heap.get? C.env.locals = some o) :: O1))) C.s0 ρ' s3 →
      codeAny C.M C.A (.compLoop (.ListComp elt [⟨.Name n np, iter, [], 0⟩] scope pos) 0 it (.ref a) (compE C scope L)) (compPost C.M C.A NoE (some (PySem.assign (.Name y py) C.env)) (fun _ s' => ∃ a vs, a ∉ C.X ∧ vs.length = es.length ∧ (C.like (a :: C.X) (es.zip vs ++ C.F) ((a, listP vs) :: (Ost ds.length ++ O1))).I ((y, .val (.ref a)) :: ρ) s') (.ref a) L) s3 := fun s3 i5 => by
    refine comp_loop (fun k s => ∃ i vs, i ≤ ds.length ∧ k = ds.length - i ∧ vs.length = i ∧ In C.w (compE C scope L) (L :: a :: X2) (Fs ++ ((es.take i).zip vs ++ (Fρ ++ C.F))) (Os i ++ (Ost i ++ ((a, listP vs) :: (C.env.locals, fun o => s4.heap.get? C.env.locals = some o) :: O1))) C.s0 ρ' s) (fun k s hI => ?_) ds.length s3 ⟨0, [], Nat.zero_le _, rfl, rfl, i5⟩
    obtain ⟨i, vs, hi, hk, hvs, x⟩ := hI
    cases hd : ds[i]? with
    | some d =>
      have hlt : i < ds.length := (List.getElem?_eq_some_iff.mp hd).1
      obtain ⟨e, he⟩ : ∃ e, es[i]? = some e := ⟨es[i]'(hlen ▸ hlt), List.getElem?_eq_getElem _⟩
      refine wp_mono (T.next _ _ _ _ _ _ _ i d hd x) fun r t1 q => ?_
      obtain ⟨v, rfl, q⟩ := q
      refine wp_mono q fun _ s2 q => ?_
      obtain ⟨hv, y1⟩ := q
      refine wpAny_assign_Name (store_var y1 (hc' L) hv fun s5 y5 => ?_)
      refine wp_mono (turn L (L :: a :: X2) (Fs ++ ((es.take i).zip vs ++ (Fρ ++ C.F))) (Os (i + 1) ++ ((a, listP vs) :: (C.env.locals, fun o => s4.heap.get? C.env.locals = some o) :: O1)) i d e hL0 (fun p hp => List.mem_append_right _ (List.mem_append_right _ (List.mem_append_right _ hp))) hd he s5 (y5.perm (List.perm_append_comm_assoc ..))) fun u s6 q => ?_
      obtain ⟨hu, z⟩ := q
      have z : In C.w (compE C scope L) (L :: a :: X2) (Fs ++ ((es.take i).zip vs ++ (Fρ ++ C.F))) ((Os (i + 1) ++ Ost (i + 1)) ++ ((a, listP vs) :: (C.env.locals, fun o => s4.heap.get? C.env.locals = some o) :: O1)) C.s0 ρ' s6 := by
        rw [List.append_assoc]
        exact (z.perm (List.perm_append_comm_assoc ..)).sub (hsn d)
      have hO : (a, listP vs) ∈ (Os (i + 1) ++ Ost (i + 1)) ++ ((a, listP vs) :: (C.env.locals, fun o => s4.heap.get? C.env.locals = some o) :: O1) := List.mem_append_right _ (.head _)
      obtain ⟨⟨o, ho, m, rfl⟩, _⟩ := z.ow _ hO
      refine wpAny_list_append_plain (items := vs.toArray) ⟨m, ho⟩ (fun h' hl' hs' => ?_) (by rw [List.size_toArray, hvs]; exact Nat.le_trans (Nat.le_of_lt hlt) (hlen ▸ Nat.le_trans hz (by decide)))
      obtain ⟨m', ho'⟩ := hl'
      have z' := In.turn (P' := listP (vs ++ [u])) (t := s6.toks) z hs' ho' ⟨m', by simp⟩
      refine ⟨k - 1, (step_lt hk hlt).1, i + 1, vs ++ [u], hlt, (step_lt hk hlt).2, by rw [List.length_append, hvs]; rfl, ?_⟩
      rw [zip_snoc hvs he, ← List.append_assoc (Os (i + 1))]
      refine (z'.fact (sat_mono (hide_same (z.ow _ hO).2.2.2.1 hs') hu)).facts fun p hp => ?_
      simp only [List.mem_append, List.mem_cons, List.not_mem_nil, or_false] at hp ⊢
      rcases hp with q | (q | q) | q | q
      · exact .inr (.inl q)
      · exact .inr (.inr (.inl q))
      · exact .inl q
      · exact .inr (.inr (.inr (.inl q)))
      · exact .inr (.inr (.inr (.inr q)))
    | none =>
      have hge : ds.length ≤ i := List.getElem?_eq_none_iff.mp hd
      have : i = ds.length := Nat.le_antisymm hi hge
      subst this
      refine wp_mono (T.done _ _ _ _ _ _ _ x) fun r s9 q => ?_
      obtain ⟨rfl, y1⟩ := q
      have b1 := back (es.zip vs ++ C.F) ((a, listP vs) :: (Ost ds.length ++ O1)) s9 ((y1.facts fun p hp => by
        rw [List.take_of_length_le (Nat.le_of_eq hlen)]
        simp only [List.mem_append] at hp ⊢
        rcases hp with q | q | q
        · exact .inr (.inl q)
        · exact .inl q
        · exact .inr (.inr q)).perm (by
        have e : ∀ (x y : Addr × (Obj → Prop)) (B D : Own), List.Perm (B ++ (y :: x :: D)) (x :: y :: (B ++ D)) := fun x y B D => by
          refine List.Perm.trans ?_ (List.Perm.swap x y _)
          have h1 : y :: x :: (B ++ D) = [y, x] ++ (B ++ D) := by simp
          have h2 : B ++ (y :: x :: D) = B ++ ([y, x] ++ D) := by simp
          rw [h1, h2]
          exact List.perm_append_comm_assoc ..
        exact e ..))
      refine wpAny_assign_Name (store_var b1 hc (sat_val (v := .ref a)) fun s' j' => ?_)
      obtain ⟨⟨o, ho, m', es', ep', r⟩, _⟩ := j'.ow _ (.head _)
      refine ⟨m', ⟨o, es', ep', ho, r⟩, fun h' hs' => ⟨a, vs, haX, hvs.trans hlen.symm, ?_⟩⟩
      have g := In.lose (OW := [(L, nsP)]) (t := s'.toks) j' (fun b o hb e => hs'.extBut b o (hb _ (.head _)) e) (Nat.le_of_eq hs'.1.symm)
      have hXs : ∀ b ∈ a :: C.X, b ∈ L :: a :: X2 := fun b hb => by
        rcases List.mem_cons.mp hb with q | q
        · exact q ▸ .tail _ (.head _)
        · exact .tail _ (.tail _ (hX0 b q))
      exact { g with
        ns := let ⟨m, x, y⟩ := g.ns; ⟨m, x, fun n d e k => let ⟨v, x, y⟩ := y n d e k; ⟨v, x, sat_mono (hide_sub hXs) y⟩⟩
        cl := fun n d e k => let ⟨c, v, x, y, z⟩ := g.cl n d e k; ⟨c, v, x, y, sat_mono (hide_sub hXs) z⟩
        locX := .tail _ i1.locX, celX := fun n c e => .tail _ (i1.celX n c e), t1 := .tail _ i1.t1, t2 := .tail _ i1.t2
        lt := fun b hb => g.lt b (hXs b hb)
        fz := fun p hp => sat_mono (hide_sub hXs) (g.fz p hp)
        ow := fun p hp => let ⟨x1, x2, x3, x4, x5⟩ := g.ow p hp; ⟨x1, x2, x3, by
          rcases List.mem_cons.mp hp with rfl | hp
          · exact .head _
          · refine .tail _ ?_
            rcases List.mem_append.mp hp with hp | hp
            · obtain ⟨q, hq, e⟩ := hOX _ p hp
              rw [← e]
              exact (i1.ow q (by rw [hO]; exact List.mem_append_left _ hq)).2.2.2.1
            · exact (i1.ow p (by rw [hO]; exact List.mem_append_right _ hp)).2.2.2.1, x5⟩ }
  exact codeAny_compStart_list (loop _ i5) (T.self _ _ _ _ _ _ _ 0 i5 _ _ (loop _ i5))
end
end Mine

-- S10
namespace Mine
theorem split_fn (w : Wo) : FnObj w 173 (fnAt w 173) (bodyOf (fnAt w 173)) := ⟨by kernel_rfl, by kernel_rfl, by kernel_rfl, by kernel_rfl, by kernel_rfl, by kernel_rfl, by kernel_rfl, by kernel_rfl, ⟨172, codeVs w 172, 941, by kernel_rfl, by kernel_rfl, by kernel_rfl⟩⟩
theorem Bk.perm {C : Cx} {ρ : List (Str × D)} {r : List Stmt} {Q : Flow → Shared → Prop} {O' : Own} (p : C.O.Perm O') (h : Bk (C.like C.X C.F O') ρ r Q) : Bk C ρ r Q := fun s x => h s (x.perm p)
theorem hcl_of {cl cells : List (Str × Addr)} {a b : Str} {u v : Addr} (h1 : cl = [(a, u), (b, v)]) (h2 : cells = [(b, v), (a, u)]) (hab : a ≠ b) (x : Str) : cl.lookup x = cells.lookup x := by
  rw [h1, h2, List.lookup_cons, List.lookup_cons, List.lookup_cons, List.lookup_cons]
  by_cases q : x = a
  · subst q
    have : (x == b) = false := by simpa using hab
    rw [this]
    try simp
  · have : (x == a) = false := by simpa using q
    rw [this]
    try simp
/-- the shares that are drawn, those that are given -/
noncomputable def shs0 (bs : List (List UInt8)) (n : Nat) : List (Nat × List UInt8) := (List.range n).map fun i => (i, bs.getD i [])
noncomputable def baseS (k : Nat) (lead rest secret : List UInt8) (bs : List (List UInt8)) : List (Nat × List UInt8) := shs0 bs k ++ [(254, lead ++ rest), (255, secret)]
noncomputable def restS (k n size : Nat) (base : List (Nat × List UInt8)) : List (Nat × List UInt8) := (List.range n).map fun i => (k + i, interp base (k + i) size)
noncomputable def splitS (k members size : Nat) (lead rest secret : List UInt8) (bs : List (List UInt8)) : List (Nat × List UInt8) := shs0 bs k ++ restS k (members - k) size (baseS k lead rest secret bs)
theorem shs0_len (bs : List (List UInt8)) (n : Nat) : (shs0 bs n).length = n := by simp [shs0]
theorem shs0_get {bs : List (List UInt8)} {n i : Nat} {e : D} (h : ((shs0 bs n).map shD)[i]? = some e) : i < n ∧ e = .share i (bs.getD i []) := by
  unfold shs0 at h
  rw [List.map_map, List.getElem?_map] at h
  by_cases q : i < n
  · rw [List.getElem?_range q] at h
    exact ⟨q, (Option.some.inj h).symm⟩
  · rw [List.getElem?_eq_none (by simpa using q)] at h
    cases h
theorem shs0_mem {bs : List (List UInt8)} {n : Nat} {p : Nat × List UInt8} (h : p ∈ shs0 bs n) : p.1 < n ∧ p.2 = bs.getD p.1 [] := by
  unfold shs0 at h
  obtain ⟨i, hi, rfl⟩ := List.mem_map.mp h
  exact ⟨List.mem_range.mp hi, rfl⟩
theorem base_len (k : Nat) (lead rest secret : List UInt8) (bs : List (List UInt8)) : (baseS k lead rest secret bs).length = k + 2 := by simp [baseS, shs0_len]
theorem base_fst (k : Nat) (lead rest secret : List UInt8) (bs : List (List UInt8)) : (baseS k lead rest secret bs).map (·.1) = List.range k ++ [254, 255] := by
  unfold baseS shs0
  rw [List.map_append, List.map_map]
  have : ((fun x => x.1) ∘ fun i => (i, bs.getD i [])) = (id : Nat → Nat) := rfl
  rw [this, List.map_id]
  rfl
theorem base_nodup {k : Nat} (hk : k ≤ 100) (lead rest secret : List UInt8) (bs : List (List UInt8)) : ((baseS k lead rest secret bs).map (·.1)).Nodup := by
  rw [base_fst, List.nodup_append]
  refine ⟨List.nodup_range, by decide, fun a ha b hb => ?_⟩
  have := List.mem_range.mp ha
  rcases List.mem_cons.mp hb with q | hb
  · omega
  · have := List.mem_singleton.mp hb; omega
theorem base_ok {k size x : Nat} {lead rest secret : List UInt8} {bs : List (List UInt8)} (hk : k ≤ 100) (hx : k ≤ x) (hx2 : x < 100) (h1 : ∀ i, i < k → (bs.getD i []).length = size) (h2 : (lead ++ rest).length = size) (h3 : secret.length = size) :
    ∀ p ∈ baseS k lead rest secret bs, p.1 < 256 ∧ p.2.length = size ∧ p.1 ≠ x := fun p hp => by
  rcases List.mem_append.mp hp with hp | hp
  · obtain ⟨a, b⟩ := shs0_mem hp
    exact ⟨by omega, by rw [b]; exact h1 _ a, by omega⟩
  · rcases List.mem_cons.mp hp with rfl | hp
    · exact ⟨(by decide : 254 < 256), h2, by show 254 ≠ x; omega⟩
    · rw [List.mem_singleton.mp hp]; exact ⟨(by decide : 255 < 256), h3, by show 255 ≠ x; omega⟩

theorem lw_own {l : Lw} {ns ms : List Int} {p : Addr × (Obj → Prop)} (h : p ∈ l.O ns) : ∃ q ∈ l.O ms, q.1 = p.1 := by
  rcases List.mem_append.mp h with h | h
  · exact ⟨p, List.mem_append_left _ h, rfl⟩
  · rcases List.mem_cons.mp h with rfl | h
    · exact ⟨(l.a, intsP ms), List.mem_append_right _ (.head _), rfl⟩
    · exact ⟨p, List.mem_append_right _ (.tail _ h), rfl⟩
theorem rep_snoc (k : Nat) (a : Int) : List.replicate k a ++ [a] = List.replicate (k + 1) a := (List.replicate_succ' ..).symm
theorem split_Clo (w : World) (prog : Program) (l : Lw) (k members size : Nat) (rest secret : List UInt8) (hk3 : k ≤ 3) (hm : k + 2 ≤ members) (hm16 : members ≤ 16) (hs : secret.length = size) (hs4 : 4 < size) (hs8 : size ≤ 8) (hlead : l.lead.length = 4) (hbs : l.bs.length = k + 1)
    (hbl : ∀ i, i < k → (l.bs.getD i []).length = size) (hrest : l.bs[k]? = some rest) (hrl : rest.length = size - 4) :
    Clo ⟨w, true⟩ prog 6 (.ref 173) l.F (l.O []) (l.O (List.replicate k (size : Int) ++ [((size - 4 : Nat) : Int)])) [.nat (k + 2), .nat members, .bytes secret, .val (.ref l.fs), .val (.ref l.fm)] (.list ((splitS k members size l.lead rest secret l.bs).map shD)) := fun A X F O s0 s vs R r hv => by
  refine enterSk (names := ["threshold", "share_count", "shared_secret", "random_bytes", "hmac_sha256"]) (split_fn _) R r hv ((bind5 (by intros; kernel_rfl) : Binds ⟨w, true⟩ prog 173 _) vs s.heap r.base.inK (sats_length hv)) rfl (by kernel_rfl) (by kernel_rfl) fun L s' i hL => ?_
  let C : Cx := ⟨⟨w, true⟩, prog, A.deeper (fnEnv ⟨w, true⟩ 173 L), fnEnv ⟨w, true⟩ 173 L, frameX (fnEnv ⟨w, true⟩ 173 L) X, s0, l.F ++ F, l.O [] ++ O⟩
  have hcells : C.env.cells = [(("random_bytes" : Str), L + 1 + 1), (("shared_secret" : Str), L + 1)] := by kernel_rfl
  have P : Parks C.env s0 := ⟨hL, fun x hx => by
    rw [hcells] at hx
    rcases List.mem_cons.mp hx with rfl | hx
    · exact Nat.le_trans hL (Nat.le_add_right L 2)
    · rw [List.mem_singleton.mp hx]; exact Nat.le_trans hL (Nat.le_add_right L 1), by rw [hcells]; show (["random_bytes", "shared_secret"] : List Str).Nodup; decide⟩
  have hci : ∀ (sc : Scope) L', sc.names = [((".0" : Str), NameKind.local), ("i", NameKind.local), ("RawShare", NameKind.globalImplicit), ("len", NameKind.globalImplicit), ("random_bytes", NameKind.free), ("shared_secret", NameKind.free)] → (compE C sc L').cells = [(("shared_secret" : Str), L + 1), (("random_bytes" : Str), L + 1 + 1)] := fun sc L' h => by
    show clo sc C.env = _
    unfold clo
    rw [h, hcells]
    kernel_rfl
  have RD : Room C.A 5 := R.deeper _
  show wpAny C.M C.A (execs (bodyOf (fnAt ⟨w, true⟩ 173)) C.env) _ NoE s'
  refine (?_ : Bk C (rho ["threshold", "share_count", "shared_secret", "random_bytes", "hmac_sha256"] [.nat (k + 2), .nat members, .bytes secret, .val (.ref l.fs), .val (.ref l.fm)] []) (bodyOf (fnAt ⟨w, true⟩ 173)) _) s' i
  refine .cons (.if_false (.cast (.lt (.var (d := .nat (k + 2)) (by kernel_rfl) (by kernel_rfl)) .int) (decide_eq_false (by omega)))) ?_
  refine .cons (.if_false (.cast (.gt (.var (d := .nat (k + 2)) (by kernel_rfl) (by kernel_rfl)) (.var (d := .nat members) (by kernel_rfl) (by kernel_rfl))) (decide_eq_false (by omega)))) ?_
  refine .cons (.if_false (.cast (.gt (.var (d := .nat members) (by kernel_rfl) (by kernel_rfl)) (.glob (d := .int 16) (v := .int 16 194) (by kernel_rfl) (by kernel_rfl) fun h => sat_int)) (decide_eq_false (by omega)))) ?_
  refine .cons (.if_false (.cast (.eq (.var (d := .nat (k + 2)) (by kernel_rfl) (by kernel_rfl)) .int) (by rw [beq_eq_false_iff_ne]; omega))) ?_
  refine .cons (.assign (d := .nat k) (.cast (.subN (.var (d := .nat (k + 2)) (by kernel_rfl) (by kernel_rfl)) (.natLit rfl) (Nat.le_add_left 2 k)) rfl) (by kernel_rfl)) ?_
  refine .compO (ρ' := [("shared_secret", .bytes secret), ("random_bytes", .val (.ref l.fs))]) (ds := rngD 0 k) (es := (shs0 l.bs k).map shD) (Ost := fun i => l.O (List.replicate i (size : Int))) (O1 := O)
    (.of (.range1 (k := k) (.blt (by kernel_rfl) (by kernel_rfl) boot_range (by decide)) (.var (by kernel_rfl) (by kernel_rfl))) (Src.range RD.hd (by omega) (Nat.zero_le _)).g) (.of (by kernel_rfl) (by kernel_rfl)) P (hcl_of (a := "shared_secret") (b := "random_bytes") (u := L + 1) (v := L + 1 + 1) (by kernel_rfl) hcells (by decide))
    (fun p hp => ?_) (fun p hp => ?_) (by rw [List.length_map, shs0_len, rngD_len]) (by rw [List.length_map, shs0_len]; omega) rfl (fun i p hp => ?_) (by kernel_rfl) (fun L => by kernel_rfl) (fun L' X' F' R' i d e hL' hF' hd he => ?_) (by kernel_rfl) (by kernel_rfl) fun a vs ha hvs => ?_
  · rcases List.mem_cons.mp hp with rfl | hp
    · exact ⟨by kernel_rfl, by kernel_rfl⟩
    · rw [List.mem_singleton.mp hp]; exact ⟨by kernel_rfl, by kernel_rfl⟩
  · rcases List.mem_cons.mp hp with rfl | hp
    · exact .inl (by kernel_rfl)
    rcases List.mem_cons.mp hp with rfl | hp
    · exact .inl (by kernel_rfl)
    rcases List.mem_cons.mp hp with rfl | hp
    · exact .inr ⟨by kernel_rfl, by kernel_rfl⟩
    rcases List.mem_cons.mp hp with rfl | hp
    · exact .inr ⟨by kernel_rfl, by kernel_rfl⟩
    rcases List.mem_cons.mp hp with rfl | hp
    · exact .inl (by kernel_rfl)
    · rw [List.mem_singleton.mp hp]; exact .inl (by kernel_rfl)
  · exact lw_own hp
  · obtain ⟨hik, rfl⟩ := rngD_get hd
    obtain ⟨_, rfl⟩ := shs0_get he
    rw [Nat.zero_add]
    have hb : l.bs[(List.replicate i (size : Int)).length]? = some (l.bs.getD i []) := by
      rw [List.length_replicate, List.getD_eq_getElem?_getD, List.getElem?_eq_getElem (by omega)]; rfl
    have := rep_snoc i (size : Int)
    rw [← this]
    refine .share (RD.less (by decide)) (.globV (by kernel_rfl) (by kernel_rfl)) (.var lk0 (by kernel_rfl)) (.clo (Fs := l.F) (Os := l.O (List.replicate i (size : Int))) (.var (lk (by kernel_rfl) (by kernel_rfl)) (by kernel_rfl)) (.cons (.lenB (.blt (by kernel_rfl) (by kernel_rfl) boot_len (by decide)) (.var (d := .bytes secret) (lk (by kernel_rfl) (by kernel_rfl)) (by kernel_rfl)) hs (by omega)) .nil) (source_Clo ⟨w, true⟩ prog l (List.replicate i (size : Int)) size _ hb (by omega)) ?_ (RD.less (by decide)) (fun p hp => hF' p (List.mem_append_left _ hp)) rfl fun s i => ?_)
    · exact ⟨hL', fun x hx => by
        rw [hci _ L' (by kernel_rfl)] at hx
        rcases List.mem_cons.mp hx with rfl | hx
        · exact Nat.le_trans hL (Nat.le_add_right L 1)
        · rw [List.mem_singleton.mp hx]; exact Nat.le_trans hL (Nat.le_add_right L 2), by rw [hci _ L' (by kernel_rfl)]; show (["shared_secret", "random_bytes"] : List Str).Nodup; decide⟩
    · exact Callable.fn (fn_of_sat (i.fz _ (hF' _ (List.mem_append_left _ (.head _)))))
  rw [rngD_len]
  rw [List.length_map, shs0_len] at hvs
  refine .perm (O' := l.O (List.replicate k (size : Int)) ++ (a, listP vs) :: O) List.perm_middle.symm ?_
  have hbk : l.bs[(List.replicate k (size : Int)).length]? = some rest := by rw [List.length_replicate]; exact hrest
  have hFl : ∀ p ∈ l.F, p ∈ ((shs0 l.bs k).map shD).zip vs ++ (l.F ++ F) := fun p hp => List.mem_append_right _ (List.mem_append_left _ hp)
  refine .assignO (.clo (Fs := l.F) (.var (d := .val (.ref l.fs)) (by kernel_rfl) (by kernel_rfl)) (.cons (.subN (.lenB (.blt (by kernel_rfl) (by kernel_rfl) boot_len (by decide)) (.var (d := .bytes secret) (by kernel_rfl) (by kernel_rfl)) hs (by omega)) (.glob (d := .nat 4) (v := .int 4 196) (by kernel_rfl) (by kernel_rfl) fun h => sat_int) (by omega)) .nil) (source_Clo ⟨w, true⟩ prog l _ _ _ hbk (by omega)) ⟨P.loc, P.cel, P.nd⟩ (RD.less (by decide)) hFl rfl
    fun s i => Callable.fn (fn_of_sat (i.fz _ (hFl _ (.head _))))) (by kernel_rfl) ?_
  refine .assignO (.clo (Fs := l.F) (.globV (by kernel_rfl) (by kernel_rfl)) (.cons (.var (d := .bytes rest) (by kernel_rfl) (by kernel_rfl)) (.cons (.var (d := .bytes secret) (by kernel_rfl) (by kernel_rfl)) (.cons (.var (d := .val (.ref l.fm)) (by kernel_rfl) (by kernel_rfl)) .nil))) (digest_Clo ⟨w, true⟩ prog l _ _ _ hlead) ⟨P.loc, P.cel, P.nd⟩ (RD.less (by decide)) hFl rfl
    fun s i => fnCallable (digest_fn _) i.base) (by kernel_rfl) ?_
  refine .cons (.assign (d := .list ((baseS k l.lead rest secret l.bs).map shD)) (.cast (.addOwn (a := a) (vs := vs) (es := (shs0 l.bs k).map shD) (by kernel_rfl) (by kernel_rfl) rfl (fun q hq => List.mem_append_left _ hq) (by rw [List.length_map, shs0_len]; exact hvs)
    (.list (.cons (.share (x := 254) (b := l.lead ++ rest) (RD.less (by decide)) (.globV (by kernel_rfl) (by kernel_rfl)) (.glob (d := .int 254) (v := .int 254 200) (by kernel_rfl) (by kernel_rfl) fun h => sat_int) (.addB (.var (by kernel_rfl) (by kernel_rfl)) (.var (by kernel_rfl) (by kernel_rfl)) (by omega)))
      (.cons (.share (x := 255) (b := secret) (RD.less (by decide)) (.globV (by kernel_rfl) (by kernel_rfl)) (.glob (d := .int 255) (v := .int 255 198) (by kernel_rfl) (by kernel_rfl) fun h => sat_int) (.var (by kernel_rfl) (by kernel_rfl))) .nil)) (by show 2 ≤ 1000; decide)) (by rw [List.length_map, shs0_len]; show k + 2 ≤ 1000; omega))
    (by unfold baseS; rw [List.map_append]; rfl)) (by kernel_rfl)) ?_
  have hbn := base_nodup (k := k) (by omega) l.lead rest secret l.bs
  have hrl2 : (l.lead ++ rest).length = size := by rw [List.length_append]; omega
  generalize hnsf : List.replicate k (size : Int) ++ [((size - 4 : Nat) : Int)] = nsf
  have hown : ∀ p ∈ l.O nsf ++ O, p.1 ∈ X := fun p hp => by
    rcases List.mem_append.mp hp with hp | hp
    · obtain ⟨q, hq, e⟩ := lw_own (ms := []) hp
      rw [← e]
      exact (r.ow q (List.mem_append_left _ hq)).2.2
    · exact (r.ow p (List.mem_append_right _ hp)).2.2
  refine (?_ : Bk ⟨C.w, C.prog, C.A, C.env, a :: C.X, C.s0, ((shs0 l.bs k).map shD).zip vs ++ (l.F ++ F), l.O nsf ++ (a, listP vs) :: O⟩ _ _ _)
  refine .forX (.range2 (j := k) (k := members) (.blt (by kernel_rfl) (by kernel_rfl) boot_range (by decide)) (.var (by kernel_rfl) (by kernel_rfl)) (.var (by kernel_rfl) (by kernel_rfl))) (Src.range RD.hd (by omega) (by omega)) (by kernel_rfl)
    (fun i ρ F1 O1 => ∃ vs', vs'.length = k + i ∧ (∀ q ∈ ((shs0 l.bs k ++ (restS k (members - k) size (baseS k l.lead rest secret l.bs)).take i).map shD).zip vs', q ∈ F1) ∧ (∀ p ∈ l.F ++ F, p ∈ F1) ∧ O1 = l.O nsf ++ (a, listP vs') :: O ∧ Has ρ "base_shares" (.list ((baseS k l.lead rest secret l.bs).map shD)) ∧ Has ρ "shares" (.val (.ref a)))
    ⟨vs, hvs, fun q hq => List.mem_append_left _ (by simpa using hq), fun p hp => List.mem_append_right _ hp, rfl, by kernel_rfl, by kernel_rfl⟩ (fun i ρ F1 O1 hI p hp => ?_) (fun i d ρ X' F1 O1 Fs Os hd hI => ?_) fun ρ F1 O1 hI => ?_
  · obtain ⟨vs', h1, h2, h3, rfl, h4, h5⟩ := hI
    rcases List.mem_append.mp hp with hp | hp
    · exact .tail _ (frame_sub _ (hown p (List.mem_append_left _ hp)))
    · rcases List.mem_cons.mp hp with rfl | hp
      · exact .head _
      · exact .tail _ (frame_sub _ (hown p (List.mem_append_right _ hp)))
  · obtain ⟨vs', h1, h2, h3, rfl, h4, h5⟩ := hI
    obtain ⟨hin, rfl⟩ := rngD_get hd
    refine .appendD (a := a) (vs := vs') (O1 := Os ++ l.O nsf) (O2 := O) rfl (lk (by kernel_rfl) h5) (by kernel_rfl) (List.append_assoc ..).symm (by omega) (d := shD (k + i, interp (baseS k l.lead rest secret l.bs) (k + i) size)) (.share (RD.less (by decide)) (.globV (by kernel_rfl) (by kernel_rfl)) (.var lk0 (by kernel_rfl)) (.call_fn (.globV (by kernel_rfl) (by kernel_rfl)) (.cons (.var (lk (by kernel_rfl) h4) (by kernel_rfl)) (.cons (.var lk0 (by kernel_rfl)) .nil))
      (interp_Fn w prog _ (k + i) size (by omega) (base_ok (by omega) (Nat.le_add_right k i) (by omega) hbl hrl2 hs) hbn (by rw [base_len]; omega) (by rw [base_len]; omega) (by omega)) RD fun s i => fnCallable (interp_fn _) i.base)) fun v => .nil fun s x => ⟨rfl, ("i", .nat (k + i)) :: ρ, (shD (k + i, interp (baseS k l.lead rest secret l.bs) (k + i) size), v) :: F1, l.O nsf ++ (a, listP (vs' ++ [v])) :: O, ⟨vs' ++ [v], by rw [List.length_append, h1]; rfl, fun q hq => ?_, fun p hp => .tail _ (h3 p hp), rfl, lk (by kernel_rfl) h4, lk (by kernel_rfl) h5⟩, ?_⟩
    · have he : ((shs0 l.bs k ++ restS k (members - k) size (baseS k l.lead rest secret l.bs)).map shD)[k + i]? = some (shD (k + i, interp (baseS k l.lead rest secret l.bs) (k + i) size)) := by
        rw [List.getElem?_map, List.getElem?_append_right (by rw [shs0_len]; omega), shs0_len, Nat.add_sub_cancel_left]
        unfold restS
        rw [List.getElem?_map, List.getElem?_range hin]
        rfl
      have e1 : ∀ j, (shs0 l.bs k ++ (restS k (members - k) size (baseS k l.lead rest secret l.bs)).take j).map shD = ((shs0 l.bs k ++ restS k (members - k) size (baseS k l.lead rest secret l.bs)).map shD).take (k + j) := fun j => by
        rw [← List.map_take, List.take_append, shs0_len, Nat.add_sub_cancel_left, List.take_of_length_le (l := shs0 l.bs k) (by rw [shs0_len]; omega)]
      rw [e1, ← Nat.add_assoc, zip_snoc h1 he] at hq
      rcases List.mem_append.mp hq with hq | hq
      · refine .tail _ (h2 q ?_)
        rw [e1]
        exact hq
      · rw [List.mem_singleton.mp hq]; exact .head _
    · have x' := x.facts (F' := Fs ++ ((shD (k + i, interp (baseS k l.lead rest secret l.bs) (k + i) size), v) :: F1)) fun p hp => ?_
      · show In _ _ _ _ _ _ _ _
        rw [← List.append_assoc Os (l.O nsf)]
        exact x'
      · simp only [List.mem_append, List.mem_cons] at hp ⊢
        rcases hp with q | q | q
        · exact .inr (.inl q)
        · exact .inl q
        · exact .inr (.inr q)
  · obtain ⟨vs', h1, h2, h3, rfl, h4, h5⟩ := hI
    rw [rngD_len] at h1 h2
    refine .ret (.var h5 (by kernel_rfl)) fun v s'' hv'' i' => ?_
    have := of_val hv''
    subst this
    obtain ⟨⟨o, ho, n, rfl⟩, _⟩ := i'.ow (a, listP vs') (List.mem_append_right _ (.head _))
    have haX : a ∉ X := fun h => ha (frame_sub _ h)
    have hXX : ∀ b ∈ X, b ∈ a :: C.X := fun b hb => .tail _ (frame_sub _ hb)
    rw [List.take_of_length_le (by simp [restS])] at h2
    refine ⟨?_, leaveFn (i'.weak ((List.Sublist.refl _).append (List.sublist_cons_self _ _)) h3) r.t1 r.t2 hXX hown⟩
    unfold sat
    refine ⟨a, vs', rfl, ⟨n, hideAll_get X ho haX⟩, sats_zip ?_ fun p hp => sat_mono (hide_sub hXX) (i'.fz p (h2 p hp))⟩
    rw [h1]
    simp [splitS, shs0_len, restS]
end Mine

-- S11
namespace Mine
theorem cell_uniq {h : Heap} {c : Addr} {v u : Value} (x : h.IsCell c (some v)) (y : h.IsCell c (some u)) : v = u := by
  obtain ⟨o, a, b⟩ := x
  obtain ⟨o', a', b'⟩ := y
  have : o = o' := Option.some.inj (a.symm.trans a')
  subst this
  rw [b] at b'
  cases b'
  rfl
section
variable {w : Wo} {env : Env} {X : List Addr} {F : List (D × Value)} {O : Own} {s0 s : Shared} {ρ : List (Str × D)}
/-- what a cell holds, by name -/
theorem In.pin {n : Str} {d : D} (i : In w env X F O s0 ρ s) (h : Has ρ n d) (hk : env.kindOf n = some .cell) : ∃ v, sat d v (hideAll s.heap X) ∧ In w env X ((d, v) :: F) O s0 ((n, .is d v) :: ρ) s := by
  obtain ⟨c, v, a, b, x⟩ := i.cl n d h (.inl hk)
  refine ⟨v, x, { i.fact x with
    ns := let ⟨m, y, z⟩ := i.ns; ⟨m, y, fun n' d' e k => ?_⟩
    cl := fun n' d' e k => ?_ }⟩
  · rcases lookup_cons_of e with ⟨rfl, rfl⟩ | ⟨hy, e⟩
    · rw [hk] at k; cases k
    · exact z n' d' e k
  · rcases lookup_cons_of e with ⟨rfl, rfl⟩ | ⟨hy, e⟩
    · exact ⟨c, v, a, b, sat_is x⟩
    · exact i.cl n' d' e k
/-- the frame is put by, its cells told by their values -/
theorem In.parkC {cc : List Cc} (i : In w env X F O s0 ρ s) (hL : s0.heap.objs.size ≤ env.locals) (hcG : ∀ x ∈ cc, s0.heap.objs.size ≤ x.c) (hcc : ∀ x ∈ cc, env.cells.lookup x.n = some x.c) (hcc2 : ∀ n c, env.cells.lookup n = some c → ∃ x ∈ cc, x.n = n)
    (hρ : ∀ x ∈ cc, Has ρ x.n x.d) (hkd : ∀ x ∈ cc, env.kindOf x.n = some .cell) (hfix : ∀ x ∈ cc, ∀ u h, sat x.d u h → u = x.v) (hnd : (cc.map (·.n)).Nodup) :
    ∃ Fρ, Sk w X (Fρ ++ F) (ccOwn cc ++ (env.locals, fun o => s.heap.get? env.locals = some o) :: O) s0 s ∧
      ∀ F' O' s0' s', s0'.heap.objs.size = s0.heap.objs.size → Sk w X (Fρ ++ F') (ccOwn cc ++ (env.locals, fun o => s.heap.get? env.locals = some o) :: O') s0' s' → In w env X F' O' s0' ρ s' := by
  obtain ⟨m, hm, hx⟩ := i.ns
  obtain ⟨Fρ, hF1, hF2, hF3⟩ := facts_of (P := fun n v => ∃ c, env.cells.lookup n = some c ∧ s.heap.IsCell c (some v)) hx (fun n d e k => let ⟨c, v, a, b, x⟩ := i.cl n d e k; ⟨v, ⟨c, a, b⟩, x⟩) (ρ.map (·.1))
  have cel : ∀ x ∈ cc, s.heap.IsCell x.c (some x.v) := fun x hx => by
    obtain ⟨c, v, a, b, z⟩ := i.cl x.n x.d (hρ x hx) (.inl (hkd x hx))
    have e1 : x.c = c := Option.some.inj ((hcc x hx).symm.trans a)
    have e2 := hfix x hx v _ z
    rw [e1, ← e2]; exact b
  refine ⟨Fρ, ?_, fun F' O' s0' s' hz k => ?_⟩
  · refine { i.sk with fz := fun p hp => ?_, ow := fun p hp => ?_, owD := ?_ }
    · rcases List.mem_append.mp hp with hp | hp
      · exact hF1 p hp
      · exact i.fz p hp
    · rcases List.mem_append.mp hp with hp | hp
      · obtain ⟨x, hx, rfl⟩ := List.mem_map.mp hp
        exact ⟨cel x hx, hcG x hx, i.celX _ _ (hcc x hx)⟩
      · rcases List.mem_cons.mp hp with rfl | hp
        · obtain ⟨o, es, ep, e, _⟩ := hm
          exact ⟨⟨o, e, e⟩, hL, i.locX⟩
        · exact i.sk.ow p hp
    · refine List.pairwise_append.mpr ⟨?_, List.pairwise_cons.mpr ⟨fun q hq => Ne.symm (i.ow q hq).2.1, i.owD⟩, fun p hp q hq => ?_⟩
      · refine List.pairwise_map.mpr (List.Pairwise.imp_of_mem (fun {x y} hx hy hne e => hne ?_) (List.pairwise_map.mp hnd))
        exact i.celC _ _ _ (hcc x hx) ((hcc y hy).trans (congrArg some e.symm))
      · obtain ⟨x, hx, rfl⟩ := List.mem_map.mp hp
        rcases List.mem_cons.mp hq with rfl | hq
        · exact i.locC _ _ (hcc x hx)
        · exact (i.ow q hq).2.2.2.2 _ _ (hcc x hx)
  · have hD := k.owD
    rw [List.pairwise_append, List.pairwise_cons] at hD
    have ccm : ∀ x ∈ cc, (x.c, cellV x.v) ∈ ccOwn cc := fun x hx => List.mem_map.mpr ⟨x, hx, rfl⟩
    have cel' : ∀ x ∈ cc, s'.heap.IsCell x.c (some x.v) := fun x hx => (k.ow _ (List.mem_append_left _ (ccm x hx))).1
    have ns' : s'.heap.Ns env.locals m := by
      obtain ⟨o, es, ep, e, r⟩ := hm
      obtain ⟨⟨o', e', q⟩, _⟩ := k.ow (env.locals, fun o => s.heap.get? env.locals = some o) (List.mem_append_right _ (.head _))
      have : o = o' := Option.some.inj (e.symm.trans q)
      subst this
      exact ⟨o, es, ep, e', r⟩
    exact { i with
      wd0 := k.wd0, tb := k.tb, mv := k.mv, low := k.low
      locN := fun _ _ => by rw [hz]; exact hL
      celN := fun _ n c _ e => by
        rw [hz]
        obtain ⟨x, hx, rfl⟩ := hcc2 n c e
        rw [← Option.some.inj ((hcc x hx).symm.trans e)]
        exact hcG x hx
      ns := ⟨m, ns', fun n d e kd => let ⟨v, a, b⟩ := hF2 n (lookup_names e) d e kd; ⟨v, a, k.fz _ (List.mem_append_left _ b)⟩⟩
      isc := fun n c e => by
        obtain ⟨x, hx, rfl⟩ := hcc2 n c e
        rw [← Option.some.inj ((hcc x hx).symm.trans e)]
        exact ⟨_, cel' x hx⟩
      cl := fun n d e kd => by
        obtain ⟨v, ⟨c, a, b⟩, x⟩ := hF3 n (lookup_names e) d e kd
        obtain ⟨y, hy, rfl⟩ := hcc2 n c a
        have e1 : y.c = c := Option.some.inj ((hcc y hy).symm.trans a)
        subst e1
        have := cell_uniq b (cel y hy)
        subst this
        exact ⟨y.c, y.v, a, cel' y hy, k.fz _ (List.mem_append_left _ x)⟩
      lt := k.lt
      fz := fun p hp => k.fz p (List.mem_append_right _ hp)
      ow := fun p hp => by
        obtain ⟨a, b, c⟩ := k.ow p (List.mem_append_right _ (.tail _ hp))
        refine ⟨a, Ne.symm (hD.2.1.1 p hp), b, c, fun n c' e => ?_⟩
        obtain ⟨x, hx, rfl⟩ := hcc2 n c' e
        rw [← Option.some.inj ((hcc x hx).symm.trans e)]
        exact hD.2.2 _ (ccm x hx) p (.tail _ hp)
      owD := hD.2.1.2 }
end
section
variable {C : Cx} {ρ ρ' : List (Str × D)}
theorem EvO.comp {elt target iter : Expr} {scope : Scope} {pos : Pos} {d0 : D} {ds es : List D} {O' : Own} (hi : EvO C ρ iter d0 O') (hsrc : SrcG C.w C.prog C.A target d0 ds) (K : CompOk C scope)
    (hρ : ∀ p ∈ ρ', Has ρ p.1 p.2 ∧ capt scope (relabel scope C.env) C.env p.1 = true) (hlen : es.length = ds.length) (hz : es.length ≤ sizeLine)
    (turn : ∀ (L : Addr) (X : List Addr) (F : List (D × Value)) (O : Own) (s0 : Shared) (i : Nat) (d e : D), ds[i]? = some d → es[i]? = some e → ∀ s v, (compC C scope L X F O s0).I ρ' s → sat d v (hideAll s.heap X) →
      wpAny C.M C.A (assign target (compE C scope L) v) (fun _ s2 => wpAny C.M C.A (eval elt (compE C scope L)) (fun x s3 => sat e x (hideAll s3.heap X) ∧ (compC C scope L X F O s0).I ρ' s3) NoE s2) NoE s)
    (hs : ∀ x, foldedSetIterable iter C.env x = pure x := by intro _; rfl) : EvO C ρ (.ListComp elt [⟨target, iter, [], 0⟩] scope pos) (.list es) O' := fun s x => by
  rw [eval_ListComp]
  refine wpAny_comprehension_free (use := none) rfl hs K.clos K.kind K.names (wp_mono (hi s x) fun v s1 q => wp_mono (hsrc _ _ _ _ _ _ s1 v q.2.rebase q.1) fun it s2 y => ?_)
  obtain ⟨X2, Fs, Os, hX0, hXn, T, i2, _⟩ := y
  refine comp_code (C := C.like C.X C.F O') q.2 hX0 hXn T i2 ⟨K.clos, K.kind, K.noCell, K.names⟩ hρ hlen hz turn fun a L s9 m vs mv tb ha hne hl hvs hL hn => ⟨m, hn, fun h' hs' => ?_⟩
  have j := q.2.letFrame mv tb hL hn
  exact ⟨sat_mono hide_drop (sat_mono (hide_same (.head _) hs') (compList q.2.lt ha hne hl hvs)), j.frameGone q.2 hs'⟩
/-- a call of a closure's user, from the frame whose cells the closures share -/
theorem EvO.cloC {n : Str} {np p : Pos} {es : List Expr} {k : Nat} {f : Value} {Fs : List (D × Value)} {Os Os' O O1 : Own} {ds : List D} {d : D} {cc : List Cc} (hf : Ev C ρ (.Name n np) (.val f)) (hs : Evs C ρ es ds) (H : Clo C.w C.prog k f Fs Os Os' ds d) (R : Room C.A k) (hF : ∀ p ∈ Fs, p ∈ C.F)
    (hO : ∀ q, (ccOwn cc ++ q :: C.O).Perm (Os ++ (q :: O))) (hO' : ∀ q, (Os' ++ (q :: O)).Perm (ccOwn cc ++ q :: O1)) (hL : C.s0.heap.objs.size ≤ C.env.locals) (hcG : ∀ x ∈ cc, C.s0.heap.objs.size ≤ x.c) (hcc : ∀ x ∈ cc, C.env.cells.lookup x.n = some x.c) (hcc2 : ∀ n c, C.env.cells.lookup n = some c → ∃ x ∈ cc, x.n = n)
    (hρ : ∀ x ∈ cc, Has ρ x.n x.d) (hkd : ∀ x ∈ cc, C.env.kindOf x.n = some .cell) (hfix : ∀ x ∈ cc, ∀ u h, sat x.d u h → u = x.v) (hnd : (cc.map (·.n)).Nodup)
    (hc : ∀ s, C.I ρ s → Callable C.M f s.heap) : EvO C ρ (.Call (.Name n np) es [] p) d O1 := fun s x =>
  wpAny_Call_ofName (wp_mono (hf s x) fun v s1 p1 => by
    have := of_val p1.v
    subst this
    refine call_args (first := []) hs p1.i fun vs s2 p2 => ⟨hc s2 p2.i, ?_⟩
    obtain ⟨Fρ, k1, back⟩ := In.parkC p2.i hL hcG hcc hcc2 hρ hkd hfix hnd
    have k2 : Sk C.w C.X (Fs ++ (Fρ ++ C.F)) (Os ++ (_ :: O)) C.s0 s2 := (k1.perm (hO _)).facts fun p hp => by
      rcases List.mem_append.mp hp with hp | hp
      · exact List.mem_append_right _ (hF p hp)
      · exact hp
    refine wp_mono (H C.A C.X _ _ C.s0 s2 vs R k2 p2.v) fun v s' q => ⟨q.1, back C.F O1 C.s0 s' rfl ((q.2.perm (hO' _)).facts fun p hp => List.mem_append_right _ hp)⟩)
end
theorem codeAmong_other {pos : Pos} {a b : Int} {c : Value} (hne : (a == pos.line && b == pos.col) = false) : ∀ (l : List Value), TriplesOk l → codeAmong pos (l ++ [rawInt a, rawInt b, c]) = codeAmong pos l := fun l h => by
  fun_induction TriplesOk l with
  | case1 => simp [codeAmong, rawInt, hne]
  | case2 a' t b' u x rest ih =>
    simp only [List.cons_append, codeAmong]
    rw [ih h]
  | case3 l h1 h2 => exact h.elim
end Mine

-- S12
namespace Mine
theorem ls_fn (w : Wo) : FnObj w 227 (fnAt w 227) (bodyOf (fnAt w 227)) := ⟨by kernel_rfl, by kernel_rfl, by kernel_rfl, by kernel_rfl, by kernel_rfl, by kernel_rfl, by kernel_rfl, by kernel_rfl, ⟨226, codeVs w 226, 1014, by kernel_rfl, by kernel_rfl, by kernel_rfl⟩⟩
noncomputable abbrev memD (p : Nat × List UInt8) : D := .tup [.int p.1, .bytes p.2]
/-- what is known of the table of code of _law_split -/
noncomputable def Hit (ps : Array Value) (F : List (D × Value)) (pos : Pos) (q : Str) : Prop := codeAmong pos ps.toList = none ∨ ∃ cv, codeAmong pos ps.toList = some cv ∧ (D.obj (codeQ q), cv) ∈ F
structure Known (ps : Array Value) (F : List (D × Value)) : Prop where
  ok : TriplesOk ps.toList
  s : Hit ps F (defPos (lsAt 1)) srcQ
  m : Hit ps F (defPos (lsAt 2)) macQ
theorem among_def {ps ps' : Array Value} {pos pos' : Pos} {cv : Value} (ok : TriplesOk ps.toList) (h1 : codeAmong pos ps.toList = none → ps' = ps ++ #[rawInt pos.line, rawInt pos.col, cv]) (h2 : ∀ cv', codeAmong pos ps.toList = some cv' → ps' = ps ∧ cv = cv') (hne : ((pos.line : Int) == (pos'.line : Int) && (pos.col : Int) == (pos'.col : Int)) = false) :
    codeAmong pos' ps'.toList = codeAmong pos' ps.toList := by
  cases h : codeAmong pos ps.toList with
  | none =>
    rw [h1 h, show (ps ++ #[rawInt pos.line, rawInt pos.col, cv]).toList = ps.toList ++ [rawInt pos.line, rawInt pos.col, cv] by simp]
    exact codeAmong_other hne _ ok
  | some c => rw [(h2 c h).1]
theorem perm5 (x1 x2 x3 q y : Addr × (Obj → Prop)) (O : Own) : List.Perm (x1 :: x2 :: x3 :: q :: y :: O) (x1 :: x2 :: y :: x3 :: q :: O) := ((List.perm_middle (l₁ := [x3, q]) (a := y) (l₂ := O)).cons x2).cons x1
theorem ls_body (w : Wo) : bodyOf (fnAt w 227) = [lsAt 0, .FunctionDef (defName (lsAt 1)) (defArgs (lsAt 1)) (defBody (lsAt 1)) [] none [] (defScope (lsAt 1)) none (defName (lsAt 1)) (defPos (lsAt 1)), .FunctionDef (defName (lsAt 2)) (defArgs (lsAt 2)) (defBody (lsAt 2)) [] none [] (defScope (lsAt 2)) none (defName (lsAt 2)) (defPos (lsAt 2)), lsAt 3] := by kernel_rfl
theorem lawsplit (w : World) (prog : Program) {A : Around} {X : List Addr} {F : List (D × Value)} {O : Own} {s0 s : Shared} {vs : List Value} {ps : Array Value} {k members size : Nat} {rest secret lead : List UInt8} {bs : List (List UInt8)} (hk3 : k ≤ 3) (hm : k + 2 ≤ members) (hm16 : members ≤ 16) (hs : secret.length = size) (hs4 : 4 < size) (hs8 : size ≤ 8) (hlead : lead.length = 4) (hbs : bs.length = k + 1)
    (hbl : ∀ i, i < k → (bs.getD i []).length = size) (hrest : bs[k]? = some rest) (hrl : rest.length = size - 4)
    (R : Room A 7) (r : Sk ⟨w, true⟩ X F O s0 s) (h0 : s0.heap.get? 224 = some (tabObj ps)) (kn : Known ps F) (hv : sats [.nat (k + 2), .nat members, .bytes secret, .list (bs.map .bytes), .bytes lead] vs (hideAll s.heap X)) :
    wpAny (model prog w) A (call (.ref 227) vs) (fun v s' => sat (.list ((splitS k members size lead rest secret bs).map memD)) v (hideAll s'.heap X) ∧ ∃ ps' s0' F', Tb24 s0 s0' ps' ∧ Known ps' F' ∧ (∀ p ∈ F, p ∈ F') ∧ Sk ⟨w, true⟩ X F' O s0' s') NoE s := by
  refine enterSk (names := ["least", "members", "secret", "drawn", "lead"]) (ls_fn _) R r hv ((bind5 (by intros; kernel_rfl) : Binds ⟨w, true⟩ prog 227 _) vs s.heap r.base.inK (sats_length hv)) rfl (by kernel_rfl) (by kernel_rfl) fun L s' i hL => ?_
  have hcells : (fnEnv ⟨w, true⟩ 227 L).cells = [(("asked" : Str), L + 1 + 1 + 1), ("lead", L + 1 + 1), ("drawn", L + 1)] := by kernel_rfl
  have hcG : ∀ n c, (fnEnv ⟨w, true⟩ 227 L).cells.lookup n = some c → s0.heap.objs.size ≤ c := fun n c e => by
    have := lookup_mem e
    rw [hcells] at this
    rcases List.mem_cons.mp this with q | this
    · obtain ⟨rfl, rfl⟩ := Prod.mk.inj q; exact Nat.le_trans hL (Nat.le_add_right L 3)
    · rcases List.mem_cons.mp this with q | this
      · obtain ⟨rfl, rfl⟩ := Prod.mk.inj q; exact Nat.le_trans hL (Nat.le_add_right L 2)
      · obtain ⟨rfl, rfl⟩ := Prod.mk.inj (List.mem_singleton.mp this); exact Nat.le_trans hL (Nat.le_add_right L 1)
  obtain ⟨dv, hdv, i1⟩ := i.pin (n := "drawn") (d := .list (bs.map .bytes)) (by kernel_rfl) (by kernel_rfl)
  obtain ⟨lv, hlv, i2⟩ := i1.pin (n := "lead") (d := .bytes lead) (by kernel_rfl) (by kernel_rfl)
  let C : Cx := ⟨⟨w, true⟩, prog, A.deeper (fnEnv ⟨w, true⟩ 227 L), fnEnv ⟨w, true⟩ 227 L, frameX (fnEnv ⟨w, true⟩ 227 L) X, s0, (.bytes lead, lv) :: (.list (bs.map .bytes), dv) :: F, O⟩
  have RD : Room C.A 6 := R.deeper _
  refine (?_ : Bk C (("lead", .is (.bytes lead) lv) :: ("drawn", .is (.list (bs.map .bytes)) dv) :: rho ["least", "members", "secret", "drawn", "lead"] [.nat (k + 2), .nat members, .bytes secret, .list (bs.map .bytes), .bytes lead] []) (bodyOf (fnAt ⟨w, true⟩ 227)) _) s' i2
  rw [ls_body]
  refine .own .nil (by kernel_rfl) fun a => ?_
  refine .def_ (qual := srcQ) (ps := ps) (clos := [("drawn", L + 1), ("asked", L + 1 + 1 + 1)]) (by kernel_rfl) hL hcG h0 kn.ok (by kernel_rfl) (by kernel_rfl) (by kernel_rfl) (by kernel_rfl) (by kernel_rfl) (by kernel_rfl) ?_ fun fs cs doc1 pm1 ctv1 ps1 g1 g2 ok1 am1 => ?_
  · rcases kn.s with q | ⟨cv, q1, q2⟩
    · exact .inl q
    · exact .inr ⟨cv, q1, .tail _ (.tail _ q2)⟩
  have x1 : Tb24 s0 (tabS s0 ps1) ps1 := tabS_ok h0 ok1
  have a1 := among_def (pos' := defPos (lsAt 2)) kn.ok g1 g2 (by kernel_rfl)
  refine .def_ (qual := macQ) (ps := ps1) (clos := [("lead", L + 1 + 1)]) (by kernel_rfl) (x1.size ▸ hL) (fun n c e => x1.size ▸ hcG n c e) x1.tab ok1 (by kernel_rfl) (by kernel_rfl) (by kernel_rfl) (by kernel_rfl) (by kernel_rfl) (by kernel_rfl) ?_ fun fm cm doc2 pm2 ctv2 ps2 g3 g4 ok2 am2 => ?_
  · rw [a1]
    rcases kn.m with q | ⟨cv, q1, q2⟩
    · exact .inl q
    · exact .inr ⟨cv, q1, .tail _ (.tail _ (.tail _ (.tail _ q2)))⟩
  have x2 : Tb24 (tabS s0 ps1) (tabS (tabS s0 ps1) ps2) ps2 := tabS_ok x1.tab ok2
  have a2 := among_def (pos' := defPos (lsAt 1)) ok1 g3 g4 (by kernel_rfl)
  let l : Lw := ⟨a, L + 1 + 1 + 1, L + 1, L + 1 + 1, dv, lv, fs, fm, cs, cm, (doc1, pm1, ctv1, doc2, pm2, ctv2), bs, lead⟩
  have hc3 : ∀ x ∈ l.ccS ++ l.ccM, x = ⟨"drawn", L + 1, .is l.dD dv, dv⟩ ∨ x = ⟨"asked", L + 1 + 1 + 1, .val (.ref a), .ref a⟩ ∨ x = ⟨"lead", L + 1 + 1, .is (.bytes lead) lv, lv⟩ := fun x hx => by
    rcases List.mem_cons.mp hx with q | hx
    · exact .inl q
    · rcases List.mem_cons.mp hx with q | hx
      · exact .inr (.inl q)
      · exact .inr (.inr (List.mem_singleton.mp hx))
  refine .retO (d := .list ((splitS k members size lead rest secret bs).map memD)) (O' := (a, intsP (List.replicate k (size : Int) ++ [((size - 4 : Nat) : Int)])) :: O) (.comp (ρ' := []) (d0 := .list ((splitS k members size lead rest secret bs).map shD)) (.cloC (cc := l.ccS ++ l.ccM) (O := O) (.globV (by kernel_rfl) (by kernel_rfl))
    (.cons (.var (d := .nat (k + 2)) (by kernel_rfl) (by kernel_rfl)) (.cons (.var (d := .nat members) (by kernel_rfl) (by kernel_rfl)) (.cons (.var (d := .bytes secret) (by kernel_rfl) (by kernel_rfl)) (.cons (.var (d := .val (.ref fs)) (by kernel_rfl) (by kernel_rfl)) (.cons (.var (d := .val (.ref fm)) (by kernel_rfl) (by kernel_rfl)) .nil)))))
    (split_Clo w prog l k members size rest secret hk3 hm hm16 hs hs4 hs8 hlead hbs hbl hrest hrl) RD ?_ (fun q => perm5 ..) (fun q => (perm5 ..).symm) ?_ ?_ ?_ ?_ ?_ ?_ ?_ ?_ fun s i => fnCallable (split_fn _) i.base) (Src.list RD.hd).g (.of (by kernel_rfl) (by kernel_rfl)) (fun _ h => (nomatch h)) (by simp) ?_ fun L' X' F' O' s0' i d e hd he s v i' hv => ?_) fun v s'' hv'' i' => ?_
  · intro p hp
    rcases List.mem_cons.mp hp with rfl | hp
    · exact .tail _ (.tail _ (.head _))
    rcases List.mem_cons.mp hp with rfl | hp
    · exact .tail _ (.tail _ (.tail _ (.head _)))
    rcases List.mem_cons.mp hp with rfl | hp
    · exact .head _
    rcases List.mem_cons.mp hp with rfl | hp
    · exact .tail _ (.head _)
    rcases List.mem_cons.mp hp with rfl | hp
    · exact .tail _ (.tail _ (.tail _ (.tail _ (.tail _ (.head _)))))
    · rw [List.mem_singleton.mp hp]
      exact .tail _ (.tail _ (.tail _ (.tail _ (.head _))))
  · show (tabS (tabS s0 ps1) ps2).heap.objs.size ≤ L
    rw [x2.size, x1.size]
    exact hL
  · intro x hx
    show (tabS (tabS s0 ps1) ps2).heap.objs.size ≤ x.c
    rw [x2.size, x1.size]
    rcases hc3 x hx with rfl | rfl | rfl
    · exact Nat.le_trans hL (Nat.le_add_right L 1)
    · exact Nat.le_trans hL (Nat.le_add_right L 3)
    · exact Nat.le_trans hL (Nat.le_add_right L 2)
  · intro x hx
    rcases hc3 x hx with rfl | rfl | rfl <;> kernel_rfl
  · intro n c e
    have := lookup_mem e
    rw [show C.env.cells = _ from hcells] at this
    rcases List.mem_cons.mp this with q | this
    · obtain ⟨rfl, rfl⟩ := Prod.mk.inj q
      exact ⟨_, .tail _ (.head _), rfl⟩
    · rcases List.mem_cons.mp this with q | this
      · obtain ⟨rfl, rfl⟩ := Prod.mk.inj q
        exact ⟨_, .tail _ (.tail _ (.head _)), rfl⟩
      · obtain ⟨rfl, rfl⟩ := Prod.mk.inj (List.mem_singleton.mp this)
        exact ⟨_, .head _, rfl⟩
  · intro x hx
    rcases hc3 x hx with rfl | rfl | rfl <;> kernel_rfl
  · intro x hx
    rcases hc3 x hx with rfl | rfl | rfl <;> kernel_rfl
  · intro x hx u h q
    rcases hc3 x hx with rfl | rfl | rfl
    · exact fix_is q
    · exact fix_val q
    · exact fix_is q
  · show (["drawn", "asked", "lead"] : List Str).Nodup
    decide
  · rw [List.length_map, sizeLine_eq]
    simp [splitS, shs0_len, restS]
    omega
  · obtain ⟨p, hp, rfl, _, _⟩ := shs_get hd
    rw [List.getElem?_map, hp] at he
    cases he
    refine turn_name (by kernel_rfl) (by kernel_rfl) ?_ s v i' hv
    exact .tuple (.cons (.shareX (RD.less (by decide)) (.var lk0 (by kernel_rfl))) (.cons (.shareD (RD.less (by decide)) (.var lk0 (by kernel_rfl))) .nil)) (by show 2 ≤ 1000; decide)
  · have hXX : ∀ b ∈ X, b ∈ a :: C.X := fun b hb => .tail _ (frame_sub _ hb)
    refine ⟨sat_mono (hide_sub hXX) hv'', ps2, tabS (tabS s0 ps1) ps2, (.obj (codeQ macQ), cm) :: (.obj (codeQ srcQ), cs) :: F, x1.trans x2, ⟨ok2, .inr ⟨cs, a2.trans am1, .tail _ (.head _)⟩, .inr ⟨cm, am2, .head _⟩⟩, fun p hp => .tail _ (.tail _ hp), ?_⟩
    refine leaveFn (i'.weak (List.sublist_cons_self _ _) fun p hp => ?_) r.t1 r.t2 hXX fun p hp => (r.ow p hp).2.2
    rcases List.mem_cons.mp hp with rfl | hp
    · exact .tail _ (.head _)
    · rcases List.mem_cons.mp hp with rfl | hp
      · exact .tail _ (.tail _ (.tail _ (.head _)))
      · exact .tail _ (.tail _ (.tail _ (.tail _ (.tail _ (.tail _ hp)))))
end Mine

-- S13
namespace Mine
open SeqAt
/-- ints or truth values -/
noncomputable def pyOf : D → Option PyData
  | .int i => some (.int i)
  | .bool b => some (.bool b)
  | _ => none
theorem reads_of {h h' : Heap} : ∀ {ds : List D} {ps : List PyData} {vs : List Value}, ds.map pyOf = ps.map some → sats ds vs h → ReadsAll h' vs ps []
  | [], ps, vs, e, x => by
    unfold sats at x
    subst x
    cases ps with
    | nil => exact .nil
    | cons => cases e
  | d :: ds, [], _, e, _ => by cases e
  | d :: ds, p :: ps, _, e, x => by
    unfold sats at x
    obtain ⟨v, r, rfl, hv, hr⟩ := x
    obtain ⟨e1, e2⟩ := List.cons.inj e
    have h2 := reads_of (h' := h') e2 hr
    have h1 : Reads h' v p [] := by
      cases d with
      | int i =>
        obtain ⟨t, rfl⟩ := of_int hv
        cases e1
        exact .int _ _
      | bool b =>
        have := of_bool hv
        subst this
        cases e1
        exact .bool _
      | _ => cases e1
    exact ReadsAll.cons h1 h2
theorem lay_of : ∀ {ds : List D} {ps : List PyData}, ds.map pyOf = ps.map some → PyData.canLayAll0 ps = true ∧ PyData.depthAll ps ≤ 1
  | [], [], _ => ⟨by simp [PyData.canLayAll0], by simp [PyData.depthAll]⟩
  | d :: ds, p :: ps, e => by
    obtain ⟨e1, e2⟩ := List.cons.inj e
    obtain ⟨h1, h2⟩ := lay_of e2
    cases d with
    | int i =>
      cases e1
      exact ⟨by simp [PyData.canLayAll0, PyData.canLay0, h1], by simp only [PyData.depthAll, PyData.depth]; omega⟩
    | bool b =>
      cases e1
      exact ⟨by simp [PyData.canLayAll0, PyData.canLay0, h1], by simp only [PyData.depthAll, PyData.depth]; omega⟩
    | _ => cases e1
  | [], _ :: _, e => by cases e
  | _ :: _, [], e => by cases e
theorem mul_listP {prog : Program} {w : World} {A : Around} {E : Value → Shared → Prop} {s : Shared} {l : Addr} {items : Array Value} {k : Nat} {x : Int} {u : Tok} {Q : Value → Shared → Prop}
    (hl : s.heap.get? l = some { cls := .type "list", dict := none, data := .seq items k, slots := #[] }) (hlo : -(2 ^ 63 : Int) ≤ x) (hhi : x < 2 ^ 63) (hsz : items.size * x.toNat ≤ 2 ^ 24)
    (h : Q (.ref s.heap.objs.size) { s with heap := s.heap.push { cls := .type "list", data := .seq (List.foldl (fun x1 x2 => x1 ++ x2) #[] (List.replicate (if items.isEmpty = true then 0 else x.toNat) items)) } }) :
    wpAny (model prog w) A (binaryOp .Mult (.ref l) (.int x u)) Q E s :=
  wpAny_binaryOp_repeat_ref (T := "list") (U := "int") (by decide) ⟨_, hl, rfl⟩ (fun s' => typeIs_int s' x u) noFill_list_mul F.fills_int_mul F.slot_int_rmul repeat_list F.slot_int_index.lookup
    (call_meets F.slot_int_rmul (typeIs_int s x u) F.entry_int_rmul (F.args_int_rmul_2 _ _) (int___rmul___int_list x u l items k)
      ⟨hl, rfl, ⟨_, hl, rfl⟩, call_meets F.slot_list_mul ⟨_, hl, rfl⟩ F.entry_list_mul (F.args_list_mul_2 _ _)
        (AutoListH.list___mul___list_int_3 l items k x u (by simp [Builtin.List.listFitsIndex]; omega) (by omega) (by simp [Builtin.List.listTooLong, sizeLine]; omega))
        ⟨hl, h⟩⟩)
theorem rep_foldl (v : Value) : ∀ (k : Nat) (acc : Array Value), List.foldl (fun x1 x2 => x1 ++ x2) acc (List.replicate k #[v]) = acc ++ (List.replicate k v).toArray
  | 0, acc => by simp
  | k + 1, acc => by
    rw [List.replicate_succ, List.foldl_cons, rep_foldl v k, List.replicate_succ]
    apply Array.ext'
    simp
theorem sats_rep {h : Heap} {d : D} {v : Value} (x : sat d v h) : ∀ k, sats (List.replicate k d) (List.replicate k v) h
  | 0 => sats_nil
  | k + 1 => sats_cons x (sats_rep x k)
section
variable {C : Cx} {ρ : List (Str × D)}
/-- a list is not unlike its like -/
theorem Tr.neSame {l r : Expr} {p : Pos} {ds : List D} {ps : List PyData} {k : Nat} (R : Room C.A k) (hp : ds.map pyOf = ps.map some) (hl : Ev C ρ l (.list ds)) (hr : Ev C ρ r (.list ds)) (hm : behindInMarks .NotEq r = false := by with_unfolding_all rfl) : Tr C ρ (.Compare l [.NotEq] [r] p) false :=
  .cmp hl hr (fun s v u i h1 h2 => by
    obtain ⟨a, vs, n, rfl, ha, h1⟩ := plain_of (a := 0) h1
    obtain ⟨b, us, m, rfl, hb, h2⟩ := plain_of (a := 0) h2
    obtain ⟨c1, c2⟩ := lay_of hp
    have c3 : PyData.canLay0 (.list ps) = true := by simp only [PyData.canLay0]; exact c1
    refine compareNe_reads (Reads.list ha rfl rfl (by simpa using reads_of hp h1)) (Reads.list hb rfl rfl (by simpa using reads_of hp h2)) c3 c3 ?_ ?_
    · have h3 : PyData.depth (.list ps) ≤ 2 := by simp only [PyData.depth]; omega
      have := R.un
      have : cLine = 9900 := by decide
      omega
    · rw [eqv_refl _ c3]
      exact Po.now i sat_bool) hm
theorem Tr.or2 {a b : Expr} {p : Pos} (ha : Tr C ρ a false) (hb : Tr C ρ b false) : Tr C ρ (.BoolOp .Or [a, b] p) false := fun s x =>
  wpAny_isTrue_BoolOp (wpAny_allTrue_Or_cons (wp_mono (ha s x) fun r s1 q => by
    obtain ⟨rfl, i, m⟩ := q
    refine wpAny_allTrue_Or_cons (wp_mono (hb s1 i) fun r s2 q => ?_)
    obtain ⟨rfl, i2, m2⟩ := q
    exact wpAny_allTrue_Or_nil ⟨rfl, i2, m.trans m2⟩))
theorem Ev.itemT {value slice : Expr} {p : Pos} {e : D} {ds : List D} {k : Nat} (h : Ev C ρ value (.tup ds)) (hi : Ev C ρ slice (.nat k)) (hk : ds[k]? = some e) (hz : ds.length ≤ 1000)
    (hs : ∀ a k u, subscripted slice false (.ref a) (.int k u) = operate [.ref a, .int k u] (getItem (.ref a) (.int k u)) := by intros; with_unfolding_all rfl) :
    Ev C ρ (.Subscript value slice p) e := fun s x =>
  Subscript_ (wp_mono (h s x) fun v s1 q1 => wp_mono (hi s1 q1.i) fun i s2 q2 => by
    obtain ⟨t, rfl⟩ := of_int q2.v
    have hv := q2.le q1.v
    unfold sat at hv
    obtain ⟨a, vs, n, rfl, ho, hss⟩ := hv
    obtain ⟨u, hu, hsu⟩ := sats_get hss hk
    have hlt : k < ds.length := (List.getElem?_eq_some_iff.mp hk).1
    have e40 : (2 : Int) ^ 63 = 9223372036854775808 := by decide
    refine item_tupleT ⟨_, of_hideAll _ ho, rfl, n, rfl⟩ (by omega) (by omega) (j := k) ?_ hu ⟨hsu, q2.i, q1.m.trans q2.m⟩ (hs _ _ _)
    have := sats_length hss
    unfold seqIndex?
    simp
    omega)
theorem Ev.mulB {l r : Expr} {p : Pos} {b : Bool} {k : Nat} (hl : Ev C ρ l (.list [.bool b])) (hr : Ev C ρ r (.nat k)) (hz : k ≤ 1000) : Ev C ρ (.BinOp l .Mult r p) (.list (List.replicate k (.bool b))) :=
  hl.bin hr fun s v u i h1 h2 => by
    obtain ⟨a, vs, n, rfl, ha, h1⟩ := plain_of (a := 0) h1
    obtain ⟨t, rfl⟩ := of_int h2
    obtain ⟨v, rfl, hv⟩ := sats1 h1
    have := of_bool hv
    subst this
    have e63 : (2 : Int) ^ 63 = 9223372036854775808 := by decide
    refine mul_listP ha (by omega) (by omega) (by rw [Int.toNat_natCast]; show 1 * k ≤ _; rw [Nat.one_mul]; exact Nat.le_trans hz (by decide)) ⟨?_, i.push _, .push _ _⟩
    unfold sat
    refine ⟨_, List.replicate k (.bool b), rfl, ⟨0, ?_⟩, sats_rep sat_bool k⟩
    rw [hide_new i.lt rfl, Int.toNat_natCast]
    show some _ = some _
    rw [show (if (#[Value.bool b]).isEmpty = true then 0 else k) = k from rfl, show ([Value.bool b].toArray) = #[Value.bool b] from rfl, rep_foldl]
    simp
end
end Mine

-- S14
namespace Mine
theorem Sk.of {w : Wo} {X : List Addr} {s : Shared} (r : Rdy w X s) : Sk w X [] [] s s :=
  ⟨r.base, r.tb, .refl s, r.t1, r.t2, r.lt, r.low, fun _ h => (nomatch h), fun _ h => (nomatch h), .nil⟩
section
variable {C : Cx} {ρ : List (Str × D)}
theorem Bk.ownX {n : Str} {np p : Pos} {e : Expr} {P : Obj → Prop} {rest : List Stmt} {Q : Flow → Shared → Prop} (h : EvN C ρ e P) (hc : canStore C.w.t C.env n = true)
    (hr : ∀ a, a ∉ C.X → Bk (C.like (a :: C.X) C.F ((a, P) :: C.O)) ((n, .val (.ref a)) :: ρ) rest Q) (hs : swapsWith e (some (.Name n np)) p.line C.env = pure false := by rfl) : Bk C ρ (.Assign [.Name n np] e p :: rest) Q := fun s x =>
  wpAny_execs_cons (wpAny_Assign_Name (wp_mono (h s x) fun v s1 q => by
    obtain ⟨a, o, rfl, ha, ho, hP⟩ := q.n
    exact store_var (x.mine q.m q.i.tb ha ho hP) hc sat_val fun s' i => hr a (fun hm => Nat.lt_irrefl _ (Nat.lt_of_lt_of_le (x.lt _ hm) ha)) s' i) hs)
/-- a list of ints that was the frame's own turns no more -/
theorem Bk.settle {n : Str} {a : Addr} {ns : List Int} {X0 : List Addr} {O1 O2 : Own} {rest : List Stmt} {Q : Flow → Shared → Prop} (hX : C.X = a :: X0) (ha : a ∉ X0) (hO : C.O = O1 ++ (a, intsP ns) :: O2) (hr : Has ρ n (.val (.ref a)))
    (h : Bk (C.like X0 C.F (O1 ++ O2)) ((n, .list (ns.map .int)) :: ρ) rest Q) : Bk C ρ rest Q := fun s i => by
  have me : (a, intsP ns) ∈ C.O := by rw [hO]; exact List.mem_append_right _ (.head _)
  obtain ⟨⟨o, ho, vs, m, hi, rfl⟩, hL, hN, _, hC⟩ := i.ow _ me
  have hs : sat (.list (ns.map .int)) (.ref a) (hideAll s.heap X0) := by
    unfold sat
    exact ⟨a, vs, rfl, ⟨m, hideAll_get _ ho ha⟩, sats_of_ints hi⟩
  have inX : ∀ b, b ∈ C.X → b ≠ a → b ∈ X0 := fun b hb hne => by
    rw [hX] at hb
    rcases List.mem_cons.mp hb with q | q
    · exact absurd q hne
    · exact q
  have hsub : ∀ b ∈ X0, b ∈ C.X := fun b hb => by rw [hX]; exact .tail _ hb
  have ne233 : ∀ b : Nat, b < 233 → b ≠ a := fun b hb q => by
    have h1 : C.s0.heap.objs.size ≤ a := hN
    have := i.low
    omega
  have hD := i.owD
  rw [hO, List.pairwise_append, List.pairwise_cons] at hD
  have neO : ∀ p ∈ O1 ++ O2, p.1 ≠ a := fun p hp => by
    rcases List.mem_append.mp hp with hp | hp
    · exact hD.2.2 p hp _ (.head _)
    · exact Ne.symm (hD.2.1.1 p hp)
  have subO : ∀ p ∈ O1 ++ O2, p ∈ C.O := fun p hp => by
    rw [hO]
    rcases List.mem_append.mp hp with hp | hp
    · exact List.mem_append_left _ hp
    · exact List.mem_append_right _ (.tail _ hp)
  refine h s { i with
    ns := let ⟨m, x, y⟩ := i.ns; ⟨m, x, fun n' d e k => ?_⟩
    cl := fun n' d e k => ?_
    locX := inX _ i.locX (Ne.symm hL)
    celX := fun n c e => inX _ (i.celX n c e) (hC n c e)
    t1 := inX _ i.t1 (ne233 _ (by decide))
    t2 := inX _ i.t2 (ne233 _ (by decide))
    lt := fun b hb => i.lt b (hsub b hb)
    fz := fun p hp => sat_mono (hide_sub hsub) (i.fz p hp)
    ow := fun p hp => let ⟨x1, x2, x3, x4, x5⟩ := i.ow p (subO p hp); ⟨x1, x2, x3, inX _ x4 (neO p hp), x5⟩
    owD := List.pairwise_append.mpr ⟨hD.1, hD.2.1.2, fun p hp q hq => hD.2.2 p hp q (.tail _ hq)⟩ }
  · rcases lookup_cons_of e with ⟨rfl, rfl⟩ | ⟨hy, e⟩
    · obtain ⟨v, z1, z2⟩ := y n' _ hr k
      have := of_val z2
      subst this
      exact ⟨_, z1, hs⟩
    · obtain ⟨v, z1, z2⟩ := y n' d e k
      exact ⟨v, z1, sat_mono (hide_sub hsub) z2⟩
  · rcases lookup_cons_of e with ⟨rfl, rfl⟩ | ⟨hy, e⟩
    · obtain ⟨c, v, z1, z2, z3⟩ := i.cl n' _ hr k
      have := of_val z3
      subst this
      exact ⟨c, _, z1, z2, hs⟩
    · obtain ⟨c, v, z1, z2, z3⟩ := i.cl n' d e k
      exact ⟨c, v, z1, z2, sat_mono (hide_sub hsub) z3⟩
theorem Known.mono {ps : Array Value} {F F' : List (D × Value)} (k : Known ps F) (h : ∀ p ∈ F, p ∈ F') : Known ps F' :=
  ⟨k.ok, k.s.imp id fun ⟨cv, a, b⟩ => ⟨cv, a, h _ b⟩, k.m.imp id fun ⟨cv, a, b⟩ => ⟨cv, a, h _ b⟩⟩
/-- y = _law_split(..) -/
theorem Bk.split {w : World} {y n : Str} {np p q py : Pos} {es : List Expr} {ps : Array Value} {k members size : Nat} {rst secret lead : List UInt8} {bs : List (List UInt8)} {rest : List Stmt} {Q : Flow → Shared → Prop} (hw : C.w = ⟨w, true⟩)
    (hk3 : k ≤ 3) (hm : k + 2 ≤ members) (hm16 : members ≤ 16) (hs : secret.length = size) (hs4 : 4 < size) (hs8 : size ≤ 8) (hlead : lead.length = 4) (hbs : bs.length = k + 1) (hbl : ∀ i, i < k → (bs.getD i []).length = size) (hrest : bs[k]? = some rst) (hrl : rst.length = size - 4)
    (hf : Ev C ρ (.Name n np) (.val (.ref 227))) (he : Evs C ρ es [.nat (k + 2), .nat members, .bytes secret, .list (bs.map .bytes), .bytes lead]) (P : Parks C.env C.s0) (R : Room C.A 7) (h0 : C.s0.heap.get? 224 = some (tabObj ps)) (kn : Known ps C.F) (hc : canStore C.w.t C.env y = true)
    (hr : ∀ ps' s0' F', Tb24 C.s0 s0' ps' → Known ps' F' → Bk { C with s0 := s0', F := F' } ((y, .list ((splitS k members size lead rst secret bs).map memD)) :: ρ) rest Q)
    (hsw : swapsWith (.Call (.Name n np) es [] p) (some (.Name y py)) q.line C.env = pure false := by rfl) : Bk C ρ (.Assign [.Name y py] (.Call (.Name n np) es [] p) q :: rest) Q := fun s x =>
  wpAny_execs_cons (wpAny_Assign_Name (wpAny_Call_ofName (wp_mono (hf s x) fun v s1 p1 => by
    have := of_val p1.v
    subst this
    refine call_args (first := []) he p1.i fun vs s2 p2 => ⟨fnCallable (ls_fn _) p2.i.base, ?_⟩
    obtain ⟨Fρ, Oe, k1, back⟩ := In.park p2.i P.loc P.cel P.nd
    have k1' := k1
    rw [hw] at k1'
    have H := lawsplit w C.prog hk3 hm hm16 hs hs4 hs8 hlead hbs hbl hrest hrl R k1' h0 (kn.mono fun p hp => List.mem_append_right _ hp) p2.v
    show wpAny (model C.prog C.w.w) _ _ _ _ _
    rw [hw]
    refine wp_mono H fun v s' z => ?_
    obtain ⟨hv, ps', s0', F', x1, x2, x3, x4⟩ := z
    have x4' : Sk C.w C.X (Fρ ++ F') (Oe ++ C.O) s0' s' := by
      rw [hw]
      exact x4.facts fun p hp => by
        rcases List.mem_append.mp hp with hp | hp
        · exact x3 p (List.mem_append_left _ hp)
        · exact hp
    have := store_var (prog := C.prog) (A := C.A) (E := NoE) (Q := fun _ s'' => wpAny C.M C.A (execs rest C.env) Q NoE s'') (back F' C.O s0' s' x1.size x4') hc hv fun s'' i => hr ps' s0' F' x1 x2 s'' i
    exact this)) hsw)
end
theorem old_of {w : World} {s1 s0' s' : Shared} {ps : Array Value} (x : Tb24 s1 s0' ps) (m : Mv ⟨w, true⟩ s0' s') (t1 : s1.heap.get? 156 = some (tabObj #[])) (t2 : s1.heap.get? 224 = some (tabObj #[])) (tb1 : Tb s1.heap) (tb : Tb s'.heap) : OldK s1.heap s'.heap := by
  have keep : ∀ b o, b ≠ 156 → b ≠ 224 → s1.heap.get? b = some o → s'.heap.get? b = some o := fun b o h1 h2 e => m.kp.all b o (fun _ => by unfold isTab; simpa using h1) (x.all b o h2 e)
  have g1 : ∃ qs, s'.heap.get? 156 = some (tabObj qs) := let ⟨qs, a, _⟩ := tb.t1; ⟨qs, a.2⟩
  have g2 : s'.heap.get? 224 = some (tabObj ps) := m.kp.all 224 _ (fun _ => by rfl) x.tab
  have c1 : isCodeTable s1.heap 156 := let ⟨qs, a, _⟩ := tb1.t1; a.isCodeTable
  have c2 : isCodeTable s1.heap 224 := let ⟨qs, a, _⟩ := tb1.t2; a.isCodeTable
  refine ⟨fun b o e => ?_, fun b o e => ?_⟩
  · by_cases h1 : b = 156
    · subst h1
      obtain ⟨qs, hq⟩ := g1
      have : o = tabObj #[] := Option.some.inj (e.symm.trans t1)
      subst this
      exact .inr (.inl ⟨c1, rfl, #[], qs, rfl, by rw [Array.empty_append]; exact hq⟩)
    · by_cases h2 : b = 224
      · subst h2
        have : o = tabObj #[] := Option.some.inj (e.symm.trans t2)
        subst this
        exact .inr (.inl ⟨c2, rfl, #[], ps, rfl, by rw [Array.empty_append]; exact g2⟩)
      · exact .inl (keep b o h1 h2 e)
  · by_cases h1 : b = 156
    · subst h1
      obtain ⟨qs, hq⟩ := g1
      exact ⟨_, hq⟩
    · by_cases h2 : b = 224
      · subst h2
        exact ⟨_, g2⟩
      · exact ⟨o, keep b o h1 h2 e⟩
end Mine

-- S15
namespace Mine
noncomputable def spread : Int := 16395309179817738009521987751666139093583423331470737840399399094199505546377
noncomputable def lanesN (ns : List Int) (p s : Nat) : Nat := ((numI ns p * spread).fmod ((256 ^ s : Nat) : Int)).toNat
noncomputable def kk (ns : List Int) : Nat := ((numI ns 0).fmod 4).toNat
noncomputable def memb (ns : List Int) : Nat := kk ns + 2 + ((numI ns 1).fmod 3).toNat
noncomputable def sizeN (ns : List Int) : Nat := 5 + (((numI ns 2).fdiv 3).fmod 4).toNat
noncomputable def secretN (ns : List Int) : Nat := lanesN ns 3 (sizeN ns)
noncomputable def otherN (ns : List Int) : Nat := secretN ns ^^^ max 1 (lanesN ns 4 (sizeN ns))
noncomputable def restN (ns : List Int) : Nat := lanesN ns 5 (sizeN ns - 4)
noncomputable def leadN (ns : List Int) : Nat := lanesN ns 6 4
noncomputable def digestN (ns : List Int) : Nat := leadN ns * 256 ^ (sizeN ns - 4) + restN ns
noncomputable def tailN (ns : List Int) : List Nat := (List.range (kk ns)).map fun i => lanesN ns (7 + i) (sizeN ns)
noncomputable def kidx (ns : List Int) (i : Nat) (l : List Nat) : Nat := ((numI ns (10 + i)).fmod (l.length : Int)).toNat
noncomputable def kst (ns : List Int) (m : Nat) : Nat → List Nat × List Nat
  | 0 => (List.range m, [])
  | i + 1 => ((kst ns m i).1.eraseIdx (kidx ns i (kst ns m i).1), (kst ns m i).2 ++ [(kst ns m i).1.getD (kidx ns i (kst ns m i).1) 0])
noncomputable def knownN (ns : List Int) : List Nat := (kst ns (memb ns) (kk ns + 1)).2
noncomputable def liftN (ns : List Int) : Nat := times (secretN ns ^^^ otherN ns) (inverse (reach 255 (knownN ns)))
noncomputable def drawnN (ns : List Int) : List Nat := (List.range (kk ns)).map fun x => curve (secretN ns) (digestN ns) (tailN ns) x
noncomputable def turnedN (ns : List Int) : List Nat := (List.range (kk ns)).map fun x => (drawnN ns).getD x 0 ^^^ times (liftN ns) (reach x (knownN ns))
noncomputable def octN (s x : Nat) : List UInt8 := oct s (x % 256 ^ s)
noncomputable def freshN (ns : List Int) : List UInt8 := octN (sizeN ns) (digestN ns ^^^ times (liftN ns) (reach 254 (knownN ns)))
noncomputable def bs1 (ns : List Int) : List (List UInt8) := (drawnN ns).map (octN (sizeN ns)) ++ [octN (sizeN ns - 4) (restN ns)]
noncomputable def bs2 (ns : List Int) : List (List UInt8) := (turnedN ns).map (octN (sizeN ns)) ++ [(freshN ns).drop 4]
noncomputable def oneN (ns : List Int) : List (Nat × List UInt8) := splitS (kk ns) (memb ns) (sizeN ns) (octN 4 (leadN ns)) (octN (sizeN ns - 4) (restN ns)) (octN (sizeN ns) (secretN ns)) (bs1 ns)
noncomputable def twoN (ns : List Int) : List (Nat × List UInt8) := splitS (kk ns) (memb ns) (sizeN ns) ((freshN ns).take 4) ((freshN ns).drop 4) (octN (sizeN ns) (otherN ns)) (bs2 ns)
noncomputable def sameB (a b : List UInt8) : List Bool := List.zipWith (fun x y => x == y) a b
noncomputable def alikeN (ns : List Int) : List Bool := sameB (octN (sizeN ns) (secretN ns)) (octN (sizeN ns) (otherN ns))
/-- what the law asks -/
def LawOk (ns : List Int) : Prop := ∀ x, x < memb ns → sameB ((oneN ns).getD x (0, [])).2 ((twoN ns).getD x (0, [])).2 = if (knownN ns).any (· == x) then List.replicate (sizeN ns) true else alikeN ns

theorem kk_le (ns : List Int) : kk ns ≤ 3 := by
  unfold kk
  have h1 := Int.fmod_nonneg_of_pos (numI ns 0) (b := 4) (by decide)
  have h2 := Int.fmod_lt_of_pos (numI ns 0) (b := 4) (by decide)
  omega
theorem memb_le (ns : List Int) : kk ns + 2 ≤ memb ns ∧ memb ns ≤ kk ns + 4 := by
  unfold memb
  have h1 := Int.fmod_nonneg_of_pos (numI ns 1) (b := 3) (by decide)
  have h2 := Int.fmod_lt_of_pos (numI ns 1) (b := 3) (by decide)
  omega
theorem size_le (ns : List Int) : 5 ≤ sizeN ns ∧ sizeN ns ≤ 8 := by
  unfold sizeN
  have h1 := Int.fmod_nonneg_of_pos ((numI ns 2).fdiv 3) (b := 4) (by decide)
  have h2 := Int.fmod_lt_of_pos ((numI ns 2).fdiv 3) (b := 4) (by decide)
  omega
theorem lanes_lt (ns : List Int) (p s : Nat) : lanesN ns p s < 256 ^ s := by
  unfold lanesN
  have hp : 0 < 256 ^ s := Nat.pow_pos (by decide)
  have h1 := Int.fmod_nonneg_of_pos (numI ns p * spread) (b := ((256 ^ s : Nat) : Int)) (by omega)
  have h2 := Int.fmod_lt_of_pos (numI ns p * spread) (b := ((256 ^ s : Nat) : Int)) (by omega)
  omega
theorem p256_le {s : Nat} (h : s ≤ 8) : 256 ^ s ≤ 2 ^ 64 := by
  have : (2 : Nat) ^ 64 = 256 ^ 8 := by decide
  rw [this]
  exact Nat.pow_le_pow_right (by decide) h
theorem lanes64 (ns : List Int) (p : Nat) {s : Nat} (h : s ≤ 8) : lanesN ns p s < 2 ^ 64 := Nat.lt_of_lt_of_le (lanes_lt ns p s) (p256_le h)
theorem digest_lt (ns : List Int) : digestN ns < 256 ^ sizeN ns := by
  obtain ⟨h5, h8⟩ := size_le ns
  have h1 : leadN ns < 256 ^ 4 := lanes_lt ..
  have h2 : restN ns < 256 ^ (sizeN ns - 4) := lanes_lt ..
  have e : 256 ^ sizeN ns = 256 ^ 4 * 256 ^ (sizeN ns - 4) := by rw [← Nat.pow_add]; congr 1; omega
  unfold digestN
  rw [e]
  calc leadN ns * 256 ^ (sizeN ns - 4) + restN ns < leadN ns * 256 ^ (sizeN ns - 4) + 256 ^ (sizeN ns - 4) := Nat.add_lt_add_left h2 _
    _ = (leadN ns + 1) * 256 ^ (sizeN ns - 4) := by rw [Nat.add_mul, Nat.one_mul]
    _ ≤ 256 ^ 4 * 256 ^ (sizeN ns - 4) := Nat.mul_le_mul_right _ h1
theorem secret64 (ns : List Int) : secretN ns < 2 ^ 64 := lanes64 ns 3 (size_le ns).2
theorem digest64 (ns : List Int) : digestN ns < 2 ^ 64 := Nat.lt_of_lt_of_le (digest_lt ns) (p256_le (size_le ns).2)
theorem other_lt (ns : List Int) : otherN ns < 256 ^ sizeN ns := by
  have e : 256 ^ sizeN ns = 2 ^ (8 * sizeN ns) := by rw [Nat.pow_mul]
  have h1 := lanes_lt ns 3 (sizeN ns)
  have h2 := lanes_lt ns 4 (sizeN ns)
  have h5 := (size_le ns).1
  unfold otherN secretN
  rw [e] at h1 h2 ⊢
  refine Nat.xor_lt_two_pow h1 ?_
  rw [Nat.max_def]
  split
  · exact h2
  · have : 2 ^ 1 ≤ 2 ^ (8 * sizeN ns) := Nat.pow_le_pow_right (by decide) (by omega)
    omega
theorem diff64 (ns : List Int) : secretN ns ^^^ otherN ns < 2 ^ 64 := Nat.xor_lt_two_pow (secret64 ns) (Nat.lt_of_lt_of_le (other_lt ns) (p256_le (size_le ns).2))
theorem lift64 (ns : List Int) : liftN ns < 2 ^ 64 := times_lt (diff64 ns)
theorem octN_len (s x : Nat) : (octN s x).length = s := oct_length ..
theorem tail_get {ns : List Int} {i : Nat} {e : D} {f : Nat → Nat} {n : Nat} (h : (nats ((List.range n).map f))[i]? = some e) : i < n ∧ e = .nat (f i) := by
  obtain ⟨k, h1, rfl⟩ := nats_get h
  rw [List.getElem?_map] at h1
  by_cases q : i < n
  · rw [List.getElem?_range q] at h1
    cases h1
    exact ⟨q, rfl⟩
  · rw [List.getElem?_eq_none (by simpa using q)] at h1
    cases h1
theorem kst_len (ns : List Int) (m : Nat) : ∀ i, i ≤ m → (kst ns m i).1.length = m - i ∧ (kst ns m i).2.length = i
  | 0, _ => ⟨by simp [kst], by simp [kst]⟩
  | i + 1, h => by
    obtain ⟨h1, h2⟩ := kst_len ns m i (by omega)
    have hp : (0 : Int) < ((kst ns m i).1.length : Int) := by rw [h1]; omega
    have h3 := Int.fmod_nonneg_of_pos (numI ns (10 + i)) hp
    have h4 := Int.fmod_lt_of_pos (numI ns (10 + i)) hp
    have h5 : kidx ns i (kst ns m i).1 < (kst ns m i).1.length := by unfold kidx; omega
    refine ⟨?_, ?_⟩
    · show ((kst ns m i).1.eraseIdx (kidx ns i (kst ns m i).1)).length = _
      rw [List.length_eraseIdx, if_pos h5, h1]
      omega
    · show ((kst ns m i).2 ++ _).length = _
      rw [List.length_append, h2]
      rfl
theorem kidx_lt {ns : List Int} {m i : Nat} (h : i < m) : kidx ns i (kst ns m i).1 < (kst ns m i).1.length := by
  obtain ⟨h1, _⟩ := kst_len ns m i (Nat.le_of_lt h)
  have hp : (0 : Int) < ((kst ns m i).1.length : Int) := by rw [h1]; omega
  have h3 := Int.fmod_nonneg_of_pos (numI ns (10 + i)) hp
  have h4 := Int.fmod_lt_of_pos (numI ns (10 + i)) hp
  unfold kidx
  omega
theorem rng_of (m : Nat) : rngI 0 m = ofN (List.range m) := by unfold rngI ofN; simp
theorem ofN_erase (l : List Nat) (j : Nat) : (ofN l).eraseIdx j = ofN (l.eraseIdx j) := by
  unfold ofN
  induction l generalizing j with
  | nil => rfl
  | cons a l ih =>
    cases j with
    | zero => rfl
    | succ j => simp only [List.map_cons, List.eraseIdx_cons_succ, ih]
theorem ofN_snoc (l : List Nat) (x : Nat) : ofN l ++ [(x : Int)] = ofN (l ++ [x]) := by unfold ofN; simp
theorem ofN_nats (l : List Nat) : (ofN l).map D.int = nats l := by unfold ofN nats; rw [List.map_map]; rfl
theorem split_fst (k m size : Nat) (hk : k ≤ m) (lead rst secret : List UInt8) (bs : List (List UInt8)) : (splitS k m size lead rst secret bs).map (·.1) = List.range m := by
  unfold splitS shs0 restS
  rw [List.map_append, List.map_map, List.map_map]
  have e1 : ((fun x => x.1) ∘ fun i => (i, bs.getD i [])) = (id : Nat → Nat) := rfl
  rw [e1, List.map_id]
  apply List.ext_getElem?
  intro i
  by_cases h : i < k
  · rw [List.getElem?_append_left (by simpa using h), List.getElem?_range h, List.getElem?_range (by omega)]
  · rw [List.getElem?_append_right (by simpa using h)]
    simp only [List.length_range, List.getElem?_map]
    by_cases h2 : i < m
    · rw [List.getElem?_range (by omega), List.getElem?_range h2]
      simp
      omega
    · rw [List.getElem?_eq_none (by simp; omega), List.getElem?_eq_none (by simp; omega)]
      rfl
theorem split_len (k m size : Nat) (hk : k ≤ m) (lead rst secret : List UInt8) (bs : List (List UInt8)) : (splitS k m size lead rst secret bs).length = m := by
  have := congrArg List.length (split_fst k m size hk lead rst secret bs)
  simpa using this
section
variable {C : Cx} {ρ : List (Str × D)}
theorem Ev.modI {l r : Expr} {p : Pos} {a b : Int} (hl : Ev C ρ l (.int a)) (hr : Ev C ρ r (.int b)) (hb : 0 < b) : Ev C ρ (.BinOp l .Mod r p) (.nat (a.fmod b).toNat) :=
  (hl.mod hr (by omega)).cast (by
    show D.int _ = D.int _
    rw [Int.toNat_of_nonneg (Int.fmod_nonneg_of_pos _ hb)])
theorem num_bits {ns : List Int} (hB : ∀ n ∈ ns, Builtin.Int.intBits n ≤ 1048576) {p : Nat} (hp : p ≤ 1000) : Builtin.Int.intBits (numI ns p) ≤ 1048577 := by
  unfold numI
  have h1 : Builtin.Int.intBits (ns.getD (p % ns.length) 0) ≤ 1048576 := by
    rw [List.getD_eq_getElem?_getD]
    cases h : ns[p % ns.length]? with
    | none => exact Nat.zero_le _
    | some n => exact hB n (List.mem_of_getElem? h)
  have h2 : Builtin.Int.intBits (7 * (p : Int)) ≤ 64 := intBits_le_64 (by omega) (by omega)
  have h3 := PySem.intBits_add_le h1 h2
  exact Nat.le_trans h3 (by decide)
theorem Ev.num {fn : Str} {fp p : Pos} {e1 e2 : Expr} {ns : List Int} {i : Nat} (hz : ns.length < 2 ^ 40) (R : Room C.A 1) (hf : Ev C ρ (.Name fn fp) (.val (.ref 187))) (h1 : Ev C ρ e1 (.scr ns)) (h2 : Ev C ρ e2 (.nat i))
    (he1 : starEach [e1, e2] C.env = (false, eval e1 C.env) :: starEach [e2] C.env := by rfl) (he : starEach [e2] C.env = (false, eval e2 C.env) :: starEach [] C.env := by rfl) : Ev C ρ (.Call (.Name fn fp) [e1, e2] [] p) (.int (numI ns i)) :=
  .call_fn hf (.cons h1 (.cons h2 .nil he) he1) (number_Fn C.w C.prog ns i hz) R fun s x => fnCallable (number_fn C.w) x.base
/-- _law_number(script, i) * _law_spread % 256 ** size -/
theorem Ev.lanes {e b e3 es : Expr} {mp pp q : Pos} {ns : List Int} {i s : Nat} (hB : ∀ n ∈ ns, Builtin.Int.intBits n ≤ 1048576) (hi : i ≤ 1000) (hn : Ev C ρ e (.int (numI ns i))) (h3 : Ev C ρ e3 (.int spread)) (hb : Ev C ρ b (.nat 256)) (hs : Ev C ρ es (.nat s)) (hs8 : s ≤ 8) :
    Ev C ρ (.BinOp (.BinOp e .Mult e3 mp) .Mod (.BinOp b .Pow es pp) q) (.nat (lanesN ns i s)) :=
  .modI (.mul hn h3 (.of_le (num_bits hB hi) (show Builtin.Int.intBits spread ≤ 254 by decide +kernel) (by decide))) (.p256 hb hs hs8) (by have : 0 < 256 ^ s := Nat.pow_pos (by decide); omega)
theorem Ev.octs {fn : Str} {fp p : Pos} {e1 e2 : Expr} {x s : Nat} (hs : s ≤ 8) (R : Room C.A 1) (hf : Ev C ρ (.Name fn fp) (.val (.ref 194))) (h1 : Ev C ρ e1 (.nat x)) (h2 : Ev C ρ e2 (.nat s))
    (he1 : starEach [e1, e2] C.env = (false, eval e1 C.env) :: starEach [e2] C.env := by rfl) (he : starEach [e2] C.env = (false, eval e2 C.env) :: starEach [] C.env := by rfl) : Ev C ρ (.Call (.Name fn fp) [e1, e2] [] p) (.bytes (octN s x)) :=
  .call_fn hf (.cons h1 (.cons h2 .nil he) he1) (octets_Fn C.w C.prog x s hs) R fun s x => fnCallable (octets_fn C.w) x.base
theorem Ev.tms {fn : Str} {fp p : Pos} {e1 e2 : Expr} {x s : Nat} (hx : x < 2 ^ 64) (R : Room C.A 2) (hf : Ev C ρ (.Name fn fp) (.val (.ref 201))) (h1 : Ev C ρ e1 (.nat x)) (h2 : Ev C ρ e2 (.nat s))
    (he1 : starEach [e1, e2] C.env = (false, eval e1 C.env) :: starEach [e2] C.env := by rfl) (he : starEach [e2] C.env = (false, eval e2 C.env) :: starEach [] C.env := by rfl) : Ev C ρ (.Call (.Name fn fp) [e1, e2] [] p) (.nat (times x s)) :=
  .call_fn hf (.cons h1 (.cons h2 .nil he) he1) (times_Fn C.w C.prog x s hx) R fun s x => fnCallable (times_fn C.w) x.base
theorem Ev.rch {fn : Str} {fp p : Pos} {e1 e2 : Expr} {x : Nat} {ks : List Nat} (R : Room C.A 3) (hf : Ev C ρ (.Name fn fp) (.val (.ref 215))) (h1 : Ev C ρ e1 (.nat x)) (h2 : Ev C ρ e2 (.list (nats ks)))
    (he1 : starEach [e1, e2] C.env = (false, eval e1 C.env) :: starEach [e2] C.env := by rfl) (he : starEach [e2] C.env = (false, eval e2 C.env) :: starEach [] C.env := by rfl) : Ev C ρ (.Call (.Name fn fp) [e1, e2] [] p) (.nat (reach x ks)) :=
  .call_fn hf (.cons h1 (.cons h2 .nil he) he1) (reach_Fn C.w C.prog x ks) R fun s x => fnCallable (reach_fn C.w) x.base
theorem Bk.sub {ρ' : List (Str × D)} {r : List Stmt} {Q : Flow → Shared → Prop} (h : ∀ n d, Has ρ' n d → Has ρ n d) (k : Bk C ρ' r Q) : Bk C ρ r Q := fun s x => k s (x.sub h)
end
end Mine

-- S16
namespace Mine
theorem law_fn (w : Wo) : FnObj w 232 (fnAt w 232) (bodyOf (fnAt w 232)) := ⟨by kernel_rfl, by kernel_rfl, by kernel_rfl, by kernel_rfl, by kernel_rfl, by kernel_rfl, by kernel_rfl, by kernel_rfl, ⟨231, codeVs w 231, 1020, by kernel_rfl, by kernel_rfl, by kernel_rfl⟩⟩
theorem boot_max' : bootBuiltins "max" = some (.builtin "max") := by decide +kernel
theorem boot_list' : bootBuiltins "list" = some (.type "list") := by decide +kernel
noncomputable def lawAt (i : Nat) : Stmt := match stAt 29 with | .FunctionDef _ _ body _ _ _ _ _ _ _ => body.getD i default | _ => default
noncomputable abbrev lawC (w : World) (prog : Program) (A : Around) (L : Addr) (X : List Addr) (F : List (D × Value)) (O : Own) (s0 : Shared) : Cx := ⟨⟨w, true⟩, prog, A, fnEnv ⟨w, true⟩ 232 L, X, s0, F, O⟩
section
variable {w : World} {prog : Program} {A : Around} {L : Addr} {X : List Addr} {F : List (D × Value)} {O : Own} {s0 : Shared} {ρ : List (Str × D)} {rest : List Stmt} {Q : Flow → Shared → Prop} {ns : List Int}
/-- the members that are known, one by one -/
theorem law_known (hz : ns.length < 2 ^ 40) (hB : ∀ n ∈ ns, Builtin.Int.intBits n ≤ 1048576) (RD : Room A 7) {ak af : Addr} (hX : ak ∈ X ∧ af ∈ X) (h1 : Has ρ "script" (.scr ns)) (h2 : Has ρ "free" (.val (.ref af))) (h3 : Has ρ "known" (.val (.ref ak))) (h4 : Has ρ "least" (.nat (kk ns + 2))) (hk : ρ.lookup ("k" : Str) = none)
    (h : Bk (lawC w prog A L X F [(ak, intsP (ofN (knownN ns))), (af, intsP (ofN (kst ns (memb ns) (kk ns + 1)).1))] s0) ρ rest Q) : Bk (lawC w prog A L X F [(ak, intsP (ofN [])), (af, intsP (ofN (List.range (memb ns))))] s0) ρ (lawAt 11 :: rest) Q := by
  obtain ⟨hm1, hm2⟩ := memb_le ns
  have hk3 := kk_le ns
  refine .forX (.range1 (k := kk ns + 1) (.blt (by kernel_rfl) (by kernel_rfl) boot_range (by decide)) (.cast (.subN (a := kk ns + 2) (b := 1) (.var h4 (by kernel_rfl)) (.natLit rfl) (Nat.le_add_left 1 _)) rfl)) (Src.range RD.hd (by omega) (Nat.zero_le _)) (by kernel_rfl)
    (fun i ρ' F' O' => (∀ n d, Has ρ n d → Has ρ' n d) ∧ (∀ p ∈ F, p ∈ F') ∧ O' = [(ak, intsP (ofN (kst ns (memb ns) i).2)), (af, intsP (ofN (kst ns (memb ns) i).1))])
    ⟨fun _ _ h => h, fun _ h => h, rfl⟩ (fun i ρ F O hI p hp => ?_) (fun i d ρ' X' F' O' Fs Os hd hI => ?_) fun ρ' F' O' hI => ?_
  · obtain ⟨_, _, rfl⟩ := hI
    rcases List.mem_cons.mp hp with rfl | hp
    · exact hX.1
    · rw [List.mem_singleton.mp hp]; exact hX.2
  · obtain ⟨hρ, hF, rfl⟩ := hI
    obtain ⟨hi, rfl⟩ := rngD_get hd
    obtain ⟨l1, l2⟩ := kst_len ns (memb ns) i (by omega)
    have hlt := kidx_lt (ns := ns) (m := memb ns) (i := i) (by omega)
    have hlf : (ofN (kst ns (memb ns) i).1).length = (kst ns (memb ns) i).1.length := List.length_map ..
    have hlk : (ofN (kst ns (memb ns) i).2).length = i := (List.length_map ..).trans l2
    have hge : (ofN (kst ns (memb ns) i).1)[kidx ns i (kst ns (memb ns) i).1]? = some ((((kst ns (memb ns) i).1.getD (kidx ns i (kst ns (memb ns) i).1) 0 : Nat)) : Int) := by
      show (List.map _ _)[_]? = _
      rw [List.getElem?_map, List.getElem?_eq_getElem hlt, List.getD_eq_getElem?_getD, List.getElem?_eq_getElem hlt]
      rfl
    rw [Nat.zero_add]
    intro s x
    refine wpAny_execs_cons (wpAny_Expr (own_append (a := ak) (ns := ofN (kst ns (memb ns) i).2) (y := (((kst ns (memb ns) i).1.getD (kidx ns i (kst ns (memb ns) i).1) 0 : Nat) : Int)) (O1 := Os) (O2 := [(af, intsP (ofN (kst ns (memb ns) i).1))]) (O1' := Os) (O2' := [(af, intsP ((ofN (kst ns (memb ns) i).1).eraseIdx (kidx ns i (kst ns (memb ns) i).1)))])
      rfl (lk (by kernel_rfl) (hρ _ _ h3)) (by kernel_rfl) rfl (by rw [hlk]; omega) (fun t z => wp_mono (own_pop (a := af) (ns := ofN (kst ns (memb ns) i).1) (k := kidx ns i (kst ns (memb ns) i).1) (O1 := Os ++ [(ak, intsP (ofN (kst ns (memb ns) i).2))]) (O2 := []) rfl (lk (by kernel_rfl) (hρ _ _ h2)) (by kernel_rfl) (by simp) (by rw [hlf]; omega)
        (.modI (.num hz (RD.less (by decide)) (.globV (by kernel_rfl) (by kernel_rfl)) (.var (lk (by kernel_rfl) (hρ _ _ h1)) (by kernel_rfl)) (.addN (.natLit rfl) (.var lk0 (by kernel_rfl)))) (.lenI (a := af) (ns := ofN (kst ns (memb ns) i).1) (O1 := Os ++ [(ak, intsP (ofN (kst ns (memb ns) i).2))]) (O2 := []) (.blt (by kernel_rfl) (by kernel_rfl) boot_len (by decide)) (lk (by kernel_rfl) (hρ _ _ h2)) (by kernel_rfl) (by simp) hlf (by omega)) (by omega)) hge rfl rfl rfl rfl z)
          fun v s' q => ⟨q.1, by have := q.2; simpa using this⟩) (fun s' j => ?_) rfl rfl rfl rfl x) rfl rfl)
    refine wpAny_execs_nil ⟨rfl, ("k", .nat i) :: ρ', F', _, ⟨fun n d h => ?_, hF, ?_⟩, j⟩
    · refine lk ?_ (hρ n d h)
      rw [beq_eq_false_iff_ne]
      rintro rfl
      have h' : ρ.lookup ("k" : Str) = some d := h
      rw [hk] at h'
      cases h'
    · rw [ofN_erase, ofN_snoc]
      rfl
  · obtain ⟨hρ, hF, rfl⟩ := hI
    rw [rngD_len]
    exact .sub hρ fun s i => h s (i.facts hF)
/-- lengths -/
theorem foldl_len (size : Nat) (f : Nat × List UInt8 → Nat) : ∀ (l : List (Nat × List UInt8)) (r : List UInt8), (∀ p ∈ l, p.2.length = size) → r.length = size → (l.foldl (fun r p => stepB (f p) p.2 r) r).length = size
  | [], r, _, hr => hr
  | p :: l, r, hl, hr => foldl_len size f l _ (fun q hq => hl q (.tail _ hq)) ((stepB_len (f p) p.2 r).trans (hl p (.head _)))
theorem interp_eq (x size : Nat) (base : List (Nat × List UInt8)) : interp base x size = base.foldl (fun r p => stepB (basis (base.map (·.1)) x p.1) p.2 r) (List.replicate size 0) := by
  delta interp
  with_reducible rfl
theorem interp_len (x size : Nat) (base : List (Nat × List UInt8)) (h : ∀ p ∈ base, p.2.length = size) : (interp base x size).length = size := by
  rw [interp_eq]
  have := foldl_len size (fun p => basis (base.map (·.1)) x p.1) base (List.replicate size 0) h (List.length_replicate ..)
  with_reducible exact this
theorem split_ok {k m size : Nat} {lead rst secret : List UInt8} {bs : List (List UInt8)} (hk : k ≤ m) (h1 : ∀ i, i < k → (bs.getD i []).length = size) (h2 : (lead ++ rst).length = size) (h3 : secret.length = size) : ∀ p ∈ splitS k m size lead rst secret bs, p.2.length = size := fun p hp => by
  rcases List.mem_append.mp hp with hp | hp
  · obtain ⟨a, b⟩ := shs0_mem hp
    rw [b]
    exact h1 _ a
  · unfold restS at hp
    obtain ⟨i, _, rfl⟩ := List.mem_map.mp hp
    refine interp_len _ _ _ fun q hq => ?_
    rcases List.mem_append.mp hq with hq | hq
    · obtain ⟨a, b⟩ := shs0_mem hq
      rw [b]; exact h1 _ a
    · rcases List.mem_cons.mp hq with rfl | hq
      · exact h2
      · rw [List.mem_singleton.mp hq]; exact h3
theorem bs1_ok (ns : List Int) : (bs1 ns).length = kk ns + 1 ∧ (∀ i, i < kk ns → ((bs1 ns).getD i []).length = sizeN ns) ∧ (bs1 ns)[kk ns]? = some (octN (sizeN ns - 4) (restN ns)) := by
  have hl : ((drawnN ns).map (octN (sizeN ns))).length = kk ns := by simp [drawnN]
  unfold bs1
  refine ⟨by rw [List.length_append, hl]; rfl, fun i hi => ?_, ?_⟩
  · rw [List.getD_eq_getElem?_getD, List.getElem?_append_left (by rw [hl]; exact hi), List.getElem?_map, List.getElem?_eq_getElem (by simpa [drawnN] using hi)]
    exact octN_len ..
  · rw [List.getElem?_append_right (by rw [hl]; exact Nat.le_refl _), hl, Nat.sub_self]
    rfl
theorem bs2_ok (ns : List Int) : (bs2 ns).length = kk ns + 1 ∧ (∀ i, i < kk ns → ((bs2 ns).getD i []).length = sizeN ns) ∧ (bs2 ns)[kk ns]? = some ((freshN ns).drop 4) := by
  have hl : ((turnedN ns).map (octN (sizeN ns))).length = kk ns := by simp [turnedN]
  unfold bs2
  refine ⟨by rw [List.length_append, hl]; rfl, fun i hi => ?_, ?_⟩
  · rw [List.getD_eq_getElem?_getD, List.getElem?_append_left (by rw [hl]; exact hi), List.getElem?_map, List.getElem?_eq_getElem (by simpa [turnedN] using hi)]
    exact octN_len ..
  · rw [List.getElem?_append_right (by rw [hl]; exact Nat.le_refl _), hl, Nat.sub_self]
    rfl
theorem one_ok (ns : List Int) : ∀ p ∈ oneN ns, p.2.length = sizeN ns := by
  have h5 := size_le ns
  exact split_ok (by have := memb_le ns; omega) (bs1_ok ns).2.1 (by rw [List.length_append, octN_len, octN_len]; omega) (octN_len ..)
theorem two_ok (ns : List Int) : ∀ p ∈ twoN ns, p.2.length = sizeN ns := by
  have h5 := size_le ns
  exact split_ok (by have := memb_le ns; omega) (bs2_ok ns).2.1 (by rw [List.length_append, List.length_take, List.length_drop]; unfold freshN; rw [octN_len]; omega) (octN_len ..)
theorem one_len (ns : List Int) : (oneN ns).length = memb ns := split_len _ _ _ (by have := memb_le ns; omega) ..
theorem two_len (ns : List Int) : (twoN ns).length = memb ns := split_len _ _ _ (by have := memb_le ns; omega) ..
theorem get_of {l : List (Nat × List UInt8)} {i : Nat} (h : i < l.length) : l[i]? = some (l.getD i (0, [])) := by
  rw [List.getD_eq_getElem?_getD, List.getElem?_eq_getElem h]; rfl
theorem same_get {a b : List UInt8} {j : Nat} {c1 c2 : UInt8} {e : D} (h1 : a[j]? = some c1) (h2 : b[j]? = some c2) (h : ((sameB a b).map D.bool)[j]? = some e) : e = .bool (c1 == c2) := by
  unfold sameB at h
  rw [List.getElem?_map, List.getElem?_zipWith, h1, h2] at h
  exact (Option.some.inj h).symm
theorem u8_eq (a b : UInt8) : ((a.toNat : Int) == (b.toNat : Int)) = (a == b) := by
  rw [Bool.eq_iff_iff, beq_iff_eq, beq_iff_eq]
  constructor
  · intro h
    exact UInt8.toNat_inj.mp (Int.ofNat.inj h)
  · rintro rfl; rfl
theorem any_of (l : List Nat) (i : Nat) : (ofN l).any (· == (i : Int)) = l.any (· == i) := by
  unfold ofN
  rw [List.any_map]
  congr 1
  funext x
  show ((x : Int) == (i : Int)) = (x == i)
  rw [Bool.eq_iff_iff, beq_iff_eq, beq_iff_eq]
  exact ⟨fun h => Int.ofNat.inj h, fun h => by rw [h]⟩
theorem bools_py (l : List Bool) : (l.map D.bool).map pyOf = (l.map PyData.bool).map some := by
  rw [List.map_map, List.map_map]; rfl
theorem law_last (hLaw : LawOk ns) (RD : Room A 7) (h1 : Has ρ "members" (.nat (memb ns))) (h2 : Has ρ "size" (.nat (sizeN ns))) (h3 : Has ρ "known" (.list (nats (knownN ns)))) (h4 : Has ρ "one" (.list ((oneN ns).map memD))) (h5 : Has ρ "two" (.list ((twoN ns).map memD))) (h6 : Has ρ "alike" (.list ((alikeN ns).map .bool)))
    (hx : ρ.lookup ("x" : Str) = none) (hs : ρ.lookup ("same" : Str) = none) (h : Bk (lawC w prog A L X F O s0) ρ rest Q) : Bk (lawC w prog A L X F O s0) ρ (lawAt 20 :: rest) Q := by
  obtain ⟨hm1, hm2⟩ := memb_le ns
  obtain ⟨hs5, hs8⟩ := size_le ns
  have hk3 := kk_le ns
  refine .for_ (.range1 (k := memb ns) (.blt (by kernel_rfl) (by kernel_rfl) boot_range (by decide)) (.var h1 (by kernel_rfl))) (Src.range RD.hd (by omega) (Nat.zero_le _)) (by kernel_rfl)
    (fun i ρ' => ∀ n d, Has ρ n d → Has ρ' n d) (fun _ _ h => h) (fun i d ρ' X' F' O' hd hρ => ?_) fun ρ' hρ => .sub hρ h
  obtain ⟨hi, rfl⟩ := rngD_get hd
  rw [Nat.zero_add]
  have hi : i < memb ns := hi
  have o1 := get_of (l := oneN ns) (i := i) (by rw [one_len]; exact hi)
  have o2 := get_of (l := twoN ns) (i := i) (by rw [two_len]; exact hi)
  have z1 := one_ok ns _ (List.mem_of_getElem? o1)
  have z2 := two_ok ns _ (List.mem_of_getElem? o2)
  have hl := hLaw i hi
  generalize (oneN ns).getD i (0, []) = p1 at *
  generalize (twoN ns).getD i (0, []) = p2 at *
  have hlen : (sameB p1.2 p2.2).length = sizeN ns := by unfold sameB; rw [List.length_zipWith, z1, z2]; simp
  refine .cons (.comp (ρ' := []) (ds := pairD p1.2 p2.2) (es := (sameB p1.2 p2.2).map .bool) (.zip RD.hd (.blt (by kernel_rfl) (by kernel_rfl) boot_zip (by decide))
    (.itemT (k := 1) (ds := [.int p1.1, .bytes p1.2]) (.item (k := i) (e := memD p1) (.var (lk (by kernel_rfl) (hρ _ _ h4)) (by kernel_rfl)) (.list _) (.var lk0 (by kernel_rfl)) (by rw [List.getElem?_map, o1]; rfl) (by rw [List.length_map, one_len]; omega)) (.natLit rfl) rfl (by show 2 ≤ 1000; decide))
    (.itemT (k := 1) (ds := [.int p2.1, .bytes p2.2]) (.item (k := i) (e := memD p2) (.var (lk (by kernel_rfl) (hρ _ _ h5)) (by kernel_rfl)) (.list _) (.var lk0 (by kernel_rfl)) (by rw [List.getElem?_map, o2]; rfl) (by rw [List.length_map, two_len]; omega)) (.natLit rfl) rfl (by show 2 ≤ 1000; decide)) (z1.trans z2.symm)) (.of (by kernel_rfl) (by kernel_rfl))
    (fun _ h => (nomatch h)) (by rw [List.length_map, hlen]; simp [pairD, z1, z2]) (by rw [sizeLine_eq, List.length_map, hlen]; omega) (fun L' X' F' O' s0' j d e hd he s v i' hv => ?_) (by kernel_rfl) (by kernel_rfl)) ?_
  · obtain ⟨c1, c2, g1, g2, rfl⟩ := pairD_get hd
    have := same_get g1 g2 he
    subst this
    exact turn_pair RD.hd (by kernel_rfl) (by kernel_rfl) (by kernel_rfl) (by kernel_rfl) (.cast (.eqI (.var (lk (by kernel_rfl) lk0) (by kernel_rfl)) (.var lk0 (by kernel_rfl))) (by rw [u8_eq])) s v i' hv
  refine .cons (.if_false (.neSame (ps := (sameB p1.2 p2.2).map PyData.bool) RD (bools_py _) (.var lk0 (by kernel_rfl)) (.ite (.inL (k := (i : Int)) (ns := ofN (knownN ns)) (.var (lk (by kernel_rfl) lk0) (by kernel_rfl)) (.var (lk (by kernel_rfl) (lk (by kernel_rfl) (hρ _ _ h3))) (by kernel_rfl)) (by rw [ofN_nats]; exact .list _)) (fun hc => ?_) fun hc => ?_))) ?_
  · rw [any_of] at hc
    rw [hl, if_pos hc, List.map_replicate]
    exact .mulB (.list (.cons .true_ .nil) (by show 1 ≤ 1000; decide)) (.var (lk (by kernel_rfl) (lk (by kernel_rfl) (hρ _ _ h2))) (by kernel_rfl)) (by omega)
  · rw [any_of] at hc
    rw [hl, hc]
    exact .var (lk (by kernel_rfl) (lk (by kernel_rfl) (hρ _ _ h6))) (by kernel_rfl)
  refine .nil fun s x => ⟨rfl, _, fun n d h => ?_, x⟩
  have n1 : n ≠ "x" := by
    rintro rfl
    have h' : ρ.lookup ("x" : Str) = some d := h
    rw [hx] at h'; cases h'
  have n2 : n ≠ "same" := by
    rintro rfl
    have h' : ρ.lookup ("same" : Str) = some d := h
    rw [hs] at h'; cases h'
  exact lk (by rw [beq_eq_false_iff_ne]; exact n2) (lk (by rw [beq_eq_false_iff_ne]; exact n1) (hρ n d h))
end
end Mine

-- S17
namespace Mine
theorem reach_fold (x : Nat) : ∀ (ks : List Nat) (t : Nat), t < 2 ^ 64 → ks.foldl (fun t p => times t (x ^^^ p)) t < 2 ^ 64
  | [], _, h => h
  | p :: ks, t, h => reach_fold x ks (times t (x ^^^ p)) (times_lt h)
theorem reach_lt (x : Nat) (ks : List Nat) : reach x ks < 2 ^ 64 := reach_fold x ks 1 (by decide)
section
variable {w : World} {prog : Program} {A : Around} {L : Addr} {X : List Addr} {F : List (D × Value)} {O : Own} {s0 : Shared} {ρ : List (Str × D)} {rest : List Stmt} {Q : Flow → Shared → Prop} {ns : List Int}
theorem law_head (hz : ns.length < 2 ^ 40) (hB : ∀ n ∈ ns, Builtin.Int.intBits n ≤ 1048576) (RD : Room A 7)
    (h : Bk (lawC w prog A L X F O s0) [("tail", .list (nats (tailN ns))), ("digest", .nat (digestN ns)), ("lead", .nat (leadN ns)), ("rest", .nat (restN ns)), ("other", .nat (otherN ns)), ("secret", .nat (secretN ns)), ("size", .nat (sizeN ns)), ("members", .nat (memb ns)), ("least", .nat (kk ns + 2)), ("script", .scr ns)] rest Q) :
    Bk (lawC w prog A L X F O s0) [("script", .scr ns)] (lawAt 0 :: lawAt 1 :: lawAt 2 :: lawAt 3 :: lawAt 4 :: lawAt 5 :: lawAt 6 :: lawAt 7 :: lawAt 8 :: rest) Q := by
  obtain ⟨hm1, hm2⟩ := memb_le ns
  obtain ⟨hs1, hs2⟩ := size_le ns
  have hk3 := kk_le ns
  let C := lawC w prog A L X F O s0
  have num : ∀ {ρ : List (Str × D)} {fp p : Pos} {e1 e2 : Expr} {i : Nat}, Ev C ρ e1 (.scr ns) → Ev C ρ e2 (.nat i) → (starEach [e1, e2] C.env = (false, eval e1 C.env) :: starEach [e2] C.env) → (starEach [e2] C.env = (false, eval e2 C.env) :: starEach [] C.env) → Ev C ρ (.Call (.Name "_law_number" fp) [e1, e2] [] p) (.int (numI ns i)) :=
    fun h1 h2 q1 q2 => .num hz (RD.less (by decide)) (.globV (by kernel_rfl) (by kernel_rfl)) h1 h2 q1 q2
  have lanes : ∀ {ρ : List (Str × D)} {sp : Pos} {e b es : Expr} {mp pp q : Pos} {i z : Nat}, i ≤ 1000 → Ev C ρ e (.int (numI ns i)) → Ev C ρ b (.nat 256) → Ev C ρ es (.nat z) → z ≤ 8 → Ev C ρ (.BinOp (.BinOp e .Mult (.Name "_law_spread" sp) mp) .Mod (.BinOp b .Pow es pp) q) (.nat (lanesN ns i z)) :=
    fun hi hn hb hs h8 => .lanes hB hi hn (.glob (d := .int spread) (v := .int spread 954) (by kernel_rfl) (by kernel_rfl) fun h => sat_int) hb hs h8
  refine .cons (.assign (d := .nat (kk ns + 2)) (.cast (.addN (a := 2) (b := kk ns) (.natLit rfl) (.modI (b := 4) (num (.var (by kernel_rfl) (by kernel_rfl)) (.natLit (n := 0) rfl) rfl rfl) .int (by decide))) (by rw [Nat.add_comm])) (by kernel_rfl)) ?_
  refine .cons (.assign (d := .nat (memb ns)) (.cast (.addN (a := kk ns + 2) (.var (by kernel_rfl) (by kernel_rfl)) (.modI (b := 3) (num (.var (by kernel_rfl) (by kernel_rfl)) (.natLit (n := 1) rfl) rfl rfl) .int (by decide))) rfl) (by kernel_rfl)) ?_
  refine .cons (.assign (d := .nat (sizeN ns)) (.cast (.addN (a := 5) (.natLit rfl) (.modI (b := 4) (.fdiv (b := 3) (num (.var (by kernel_rfl) (by kernel_rfl)) (.natLit (n := 2) rfl) rfl rfl) .int (by decide) (by decide +kernel)) .int (by decide))) rfl) (by kernel_rfl)) ?_
  refine .cons (.assign (d := .nat (secretN ns)) (lanes (i := 3) (by decide) (num (.var (by kernel_rfl) (by kernel_rfl)) (.natLit rfl) rfl rfl) (.natLit rfl) (.var (by kernel_rfl) (by kernel_rfl)) hs2) (by kernel_rfl)) ?_
  refine .cons (.assign (d := .nat (otherN ns)) (.xorN (.var (by kernel_rfl) (by kernel_rfl)) (.max RD.hd (.blt (by kernel_rfl) (by kernel_rfl) boot_max' (by decide)) (.natLit rfl) (lanes (i := 4) (by decide) (num (.var (by kernel_rfl) (by kernel_rfl)) (.natLit rfl) rfl rfl) (.natLit rfl) (.var (by kernel_rfl) (by kernel_rfl)) hs2))) (by kernel_rfl)) ?_
  refine .cons (.assign (d := .nat (restN ns)) (lanes (i := 5) (by decide) (num (.var (by kernel_rfl) (by kernel_rfl)) (.natLit rfl) rfl rfl) (.natLit rfl) (.subN (.var (by kernel_rfl) (by kernel_rfl)) (.natLit rfl) (Nat.le_trans (by decide) hs1)) (Nat.le_trans (Nat.sub_le _ _) hs2)) (by kernel_rfl)) ?_
  refine .cons (.assign (d := .nat (leadN ns)) (lanes (i := 6) (by decide) (num (.var (by kernel_rfl) (by kernel_rfl)) (.natLit rfl) rfl rfl) (.natLit rfl) (.natLit rfl) (by decide)) (by kernel_rfl)) ?_
  refine .cons (.assign (d := .nat (digestN ns)) (.addN (.mulN (.var (by kernel_rfl) (by kernel_rfl)) (.p256 (.natLit rfl) (.subN (.var (by kernel_rfl) (by kernel_rfl)) (.natLit rfl) (Nat.le_trans (by decide) hs1)) (Nat.le_trans (Nat.sub_le _ _) hs2)) (lanes64 ns 6 (by decide))) (.var (by kernel_rfl) (by kernel_rfl))) (by kernel_rfl)) ?_
  refine .cons (.assign (d := .list (nats (tailN ns))) (.comp (ρ' := [("size", .nat (sizeN ns)), ("script", .scr ns)]) (ds := rngD 0 (kk ns)) (es := nats (tailN ns)) (.of (.range1 (k := kk ns) (.blt (by kernel_rfl) (by kernel_rfl) boot_range (by decide)) (.cast (.subN (a := kk ns + 2) (b := 2) (.var (by kernel_rfl) (by kernel_rfl)) (.natLit rfl) (Nat.le_add_left ..)) rfl)) (Src.range RD.hd (Nat.lt_of_le_of_lt hk3 (by decide)) (Nat.zero_le _)).g) (.of (by kernel_rfl) (by kernel_rfl))
    (fun p hp => ?_) (by rw [rngD_len]; simp [nats, tailN]) (by rw [sizeLine_eq]; simp [nats, tailN]; omega) (fun L' X' F' O' s0' i d e hd he s v i' hv => ?_)) (by kernel_rfl)) h
  · rcases List.mem_cons.mp hp with rfl | hp
    · exact ⟨by kernel_rfl, by kernel_rfl⟩
    · rw [List.mem_singleton.mp hp]; exact ⟨by kernel_rfl, by kernel_rfl⟩
  · obtain ⟨_, rfl⟩ := rngD_get hd
    obtain ⟨hi, rfl⟩ := tail_get (ns := ns) (f := fun i => lanesN ns (7 + i) (sizeN ns)) he
    rw [Nat.zero_add] at hv
    have h7 : 7 + i ≤ 1000 := by omega
    exact turn_name (by kernel_rfl) (by kernel_rfl) (.lanes hB h7 (.num hz (RD.less (by decide)) (.globV (by kernel_rfl) (by kernel_rfl)) (.var (d := .scr ns) (lk (by kernel_rfl) (by kernel_rfl)) (by kernel_rfl)) (.addN (.natLit rfl) (.var lk0 (by kernel_rfl)))) (.glob (d := .int spread) (v := .int spread 954) (by kernel_rfl) (by kernel_rfl) fun h => sat_int) (.natLit rfl) (.var (lk (by kernel_rfl) (by kernel_rfl)) (by kernel_rfl)) hs2) s v i' hv
/-- what is drawn, and what is turned -/
theorem law_mid (RD : Room A 7) {d1 d2 : D} {n1 n2 : Str} (e1 : n1 = "known") (e2 : n2 = "free")
    (h : Bk (lawC w prog A L X F O s0) (("fresh", .bytes (freshN ns)) :: ("turned", .list (nats (turnedN ns))) :: ("drawn", .list (nats (drawnN ns))) :: ("lift", .nat (liftN ns)) :: (n1, .list (nats (knownN ns))) :: (n1, d1) :: (n2, d2) :: [("tail", .list (nats (tailN ns))), ("digest", .nat (digestN ns)), ("lead", .nat (leadN ns)), ("rest", .nat (restN ns)), ("other", .nat (otherN ns)), ("secret", .nat (secretN ns)), ("size", .nat (sizeN ns)), ("members", .nat (memb ns)), ("least", .nat (kk ns + 2)), ("script", .scr ns)]) rest Q) :
    Bk (lawC w prog A L X F O s0) ((n1, .list (nats (knownN ns))) :: (n1, d1) :: (n2, d2) :: [("tail", .list (nats (tailN ns))), ("digest", .nat (digestN ns)), ("lead", .nat (leadN ns)), ("rest", .nat (restN ns)), ("other", .nat (otherN ns)), ("secret", .nat (secretN ns)), ("size", .nat (sizeN ns)), ("members", .nat (memb ns)), ("least", .nat (kk ns + 2)), ("script", .scr ns)]) (lawAt 12 :: lawAt 13 :: lawAt 14 :: lawAt 15 :: rest) Q := by
  subst e1 e2
  obtain ⟨hm1, hm2⟩ := memb_le ns
  obtain ⟨hs1, hs2⟩ := size_le ns
  have hk3 := kk_le ns
  have ht : ∀ l ∈ tailN ns, l < 2 ^ 64 := fun l hl => by
    obtain ⟨i, _, rfl⟩ := List.mem_map.mp hl
    exact lanes64 ns _ hs2
  refine .cons (.assign (d := .nat (liftN ns)) (.tms (diff64 ns) (RD.less (by decide)) (.globV (by kernel_rfl) (by kernel_rfl)) (.xorN (.var (by kernel_rfl) (by kernel_rfl)) (.var (by kernel_rfl) (by kernel_rfl))) (.call_fn (.globV (by kernel_rfl) (by kernel_rfl)) (.cons (.rch (RD.less (by decide)) (.globV (by kernel_rfl) (by kernel_rfl)) (.natLit rfl) (.var (by kernel_rfl) (by kernel_rfl))) .nil) (inverse_Fn _ prog _ ?_) (RD.less (by decide)) fun s x => fnCallable (inverse_fn _) x.base)) (by kernel_rfl)) ?_
  · exact reach_lt 255 (knownN ns)
  refine .cons (.assign (d := .list (nats (drawnN ns))) (.comp (ρ' := [("secret", .nat (secretN ns)), ("digest", .nat (digestN ns)), ("tail", .list (nats (tailN ns)))]) (ds := rngD 0 (kk ns)) (es := nats (drawnN ns)) (.of (.range1 (k := kk ns) (.blt (by kernel_rfl) (by kernel_rfl) boot_range (by decide)) (.cast (.subN (a := kk ns + 2) (b := 2) (.var (by kernel_rfl) (by kernel_rfl)) (.natLit rfl) (Nat.le_add_left ..)) rfl)) (Src.range RD.hd (Nat.lt_of_le_of_lt hk3 (by decide)) (Nat.zero_le _)).g) (.of (by kernel_rfl) (by kernel_rfl))
    (fun p hp => ?_) (by rw [rngD_len]; simp [nats, drawnN]) (by rw [sizeLine_eq]; simp [nats, drawnN]; omega) (fun L' X' F' O' s0' i d e hd he s v i' hv => ?_)) (by kernel_rfl)) ?_
  · rcases List.mem_cons.mp hp with rfl | hp
    · exact ⟨by kernel_rfl, by kernel_rfl⟩
    · rcases List.mem_cons.mp hp with rfl | hp
      · exact ⟨by kernel_rfl, by kernel_rfl⟩
      · rw [List.mem_singleton.mp hp]; exact ⟨by kernel_rfl, by kernel_rfl⟩
  · obtain ⟨_, rfl⟩ := rngD_get hd
    obtain ⟨hi, rfl⟩ := tail_get (ns := ns) (f := fun x => curve (secretN ns) (digestN ns) (tailN ns) x) he
    rw [Nat.zero_add] at hv
    exact turn_name (by kernel_rfl) (by kernel_rfl) (.call_fn (.globV (by kernel_rfl) (by kernel_rfl)) (.cons (.var (lk (by kernel_rfl) (by kernel_rfl)) (by kernel_rfl)) (.cons (.var (lk (by kernel_rfl) (by kernel_rfl)) (by kernel_rfl)) (.cons (.var (lk (by kernel_rfl) (by kernel_rfl)) (by kernel_rfl)) (.cons (.var lk0 (by kernel_rfl)) .nil)))) (curve_Fn _ prog _ _ _ _ (secret64 ns) (digest64 ns) ht) (RD.less (by decide)) fun s x => fnCallable (curve_fn _) x.base) s v i' hv
  refine .cons (.comp (ρ' := [("drawn", .list (nats (drawnN ns))), ("lift", .nat (liftN ns)), ("known", .list (nats (knownN ns)))]) (ds := rngD 0 (kk ns)) (es := nats (turnedN ns)) (.of (.range1 (k := kk ns) (.blt (by kernel_rfl) (by kernel_rfl) boot_range (by decide)) (.cast (.subN (a := kk ns + 2) (b := 2) (.var (by kernel_rfl) (by kernel_rfl)) (.natLit rfl) (Nat.le_add_left ..)) rfl)) (Src.range RD.hd (Nat.lt_of_le_of_lt hk3 (by decide)) (Nat.zero_le _)).g) (.of (by kernel_rfl) (by kernel_rfl))
    (fun p hp => ?_) (by rw [rngD_len]; simp [nats, turnedN]) (by rw [sizeLine_eq]; simp [nats, turnedN]; omega) (fun L' X' F' O' s0' i d e hd he s v i' hv => ?_) (by kernel_rfl) (by kernel_rfl)) ?_
  · rcases List.mem_cons.mp hp with rfl | hp
    · exact ⟨by kernel_rfl, by kernel_rfl⟩
    · rcases List.mem_cons.mp hp with rfl | hp
      · exact ⟨by kernel_rfl, by kernel_rfl⟩
      · rw [List.mem_singleton.mp hp]; exact ⟨by kernel_rfl, by kernel_rfl⟩
  · obtain ⟨_, rfl⟩ := rngD_get hd
    obtain ⟨hi, rfl⟩ := tail_get (ns := ns) (f := fun x => (drawnN ns).getD x 0 ^^^ times (liftN ns) (reach x (knownN ns))) he
    rw [Nat.zero_add] at hv
    have hg : (nats (drawnN ns))[i]? = some (.nat ((drawnN ns).getD i 0)) := by
      unfold nats drawnN
      rw [List.getElem?_map, List.getD_eq_getElem?_getD, List.getElem?_map, List.getElem?_range hi]
      rfl
    exact turn_name (by kernel_rfl) (by kernel_rfl) (.xorN (.item (.var (d := .list (nats (drawnN ns))) (lk (by kernel_rfl) (by kernel_rfl)) (by kernel_rfl)) (.list _) (.var lk0 (by kernel_rfl)) hg (by simp [nats, drawnN]; omega)) (.tms (lift64 ns) (RD.less (by decide)) (.globV (by kernel_rfl) (by kernel_rfl)) (.var (lk (by kernel_rfl) (by kernel_rfl)) (by kernel_rfl)) (.rch (RD.less (by decide)) (.globV (by kernel_rfl) (by kernel_rfl)) (.var lk0 (by kernel_rfl)) (.var (lk (by kernel_rfl) (by kernel_rfl)) (by kernel_rfl))))) s v i' hv
  refine .cons (.assign (d := .bytes (freshN ns)) (.octs hs2 (RD.less (by decide)) (.globV (by kernel_rfl) (by kernel_rfl)) (.xorN (.var (by kernel_rfl) (by kernel_rfl)) (.tms (lift64 ns) (RD.less (by decide)) (.globV (by kernel_rfl) (by kernel_rfl)) (.var (by kernel_rfl) (by kernel_rfl)) (.rch (RD.less (by decide)) (.globV (by kernel_rfl) (by kernel_rfl)) (.natLit rfl) (.var (by kernel_rfl) (by kernel_rfl))))) (.var (by kernel_rfl) (by kernel_rfl))) (by kernel_rfl)) h
end
end Mine

-- S18
namespace Mine
theorem cells_ge {m : Nat} : ∀ (names : List (Str × NameKind)) (n : Nat) (acc : List (Str × Addr)), (∀ x ∈ acc, m ≤ x.2) → m ≤ n → ∀ x ∈ cellsFrom n names acc, m ≤ x.2
  | [], n, acc, ha, hn, x, hx => ha x hx
  | (y, kd) :: r, n, acc, ha, hn, x, hx => by
    unfold cellsFrom at hx
    split at hx
    · exact cells_ge r (n + 1) _ (fun z hz => by
        rcases List.mem_cons.mp hz with rfl | hz
        · exact hn
        · exact ha z hz) (Nat.le_succ_of_le hn) x hx
    · exact cells_ge r n acc ha hn x hx
theorem law_parks {w : World} {L : Addr} {s0 : Shared} (h : s0.heap.objs.size ≤ L) : Parks (fnEnv ⟨w, true⟩ 232 L) s0 :=
  ⟨h, fun x hx => Nat.le_trans h (cells_ge (m := L) _ _ [] (fun _ h => (nomatch h)) (Nat.le_succ L) x hx), cellsFrom_names (fnAt ⟨w, true⟩ 232).scope.names 0 (L + 1) [] [] rfl ▸ of_decide_eq_true (by kernel_rfl)⟩
section
variable {w : World} {prog : Program} {A : Around} {L : Addr} {X : List Addr} {F : List (D × Value)} {O : Own} {s0 : Shared} {ρ : List (Str × D)} {rest : List Stmt} {Q : Flow → Shared → Prop} {ns : List Int}
theorem law_one {ps : Array Value} (RD : Room A 7) (hL : s0.heap.objs.size ≤ L) (h0 : s0.heap.get? 224 = some (tabObj ps)) (kn : Known ps F) (h1 : Has ρ "least" (.nat (kk ns + 2))) (h2 : Has ρ "members" (.nat (memb ns))) (h3 : Has ρ "size" (.nat (sizeN ns))) (h4 : Has ρ "secret" (.nat (secretN ns))) (h5 : Has ρ "drawn" (.list (nats (drawnN ns)))) (h6 : Has ρ "rest" (.nat (restN ns))) (h7 : Has ρ "lead" (.nat (leadN ns)))
    (h : ∀ ps' s0' F', Tb24 s0 s0' ps' → Known ps' F' → Bk (lawC w prog A L X F' O s0') (("one", .list ((oneN ns).map memD)) :: ρ) rest Q) : Bk (lawC w prog A L X F O s0) ρ (lawAt 16 :: rest) Q := by
  obtain ⟨hm1, hm2⟩ := memb_le ns
  obtain ⟨hs1, hs2⟩ := size_le ns
  have hk3 := kk_le ns
  obtain ⟨b1, b2, b3⟩ := bs1_ok ns
  have hdl : (drawnN ns).length = kk ns := by simp [drawnN]
  refine .split (w := w) rfl hk3 hm1 (by omega) (octN_len (sizeN ns) (secretN ns)) (by omega) hs2 (octN_len 4 (leadN ns)) b1 b2 b3 (octN_len ..) (.globV (by kernel_rfl) (by kernel_rfl)) (.cons (.var h1 (by kernel_rfl)) (.cons (.var h2 (by kernel_rfl)) (.cons (.octs hs2 (RD.less (by decide)) (.globV (by kernel_rfl) (by kernel_rfl)) (.var h4 (by kernel_rfl)) (.var h3 (by kernel_rfl)))
    (.cons (.cast (.addL (.comp (ρ' := [("size", .nat (sizeN ns))]) (ds := nats (drawnN ns)) (es := (drawnN ns).map fun l => .bytes (octN (sizeN ns) l)) (.of (.var h5 (by kernel_rfl)) (Src.list RD.hd).g) (.of (by kernel_rfl) (by kernel_rfl)) (fun p hp => by rw [List.mem_singleton.mp hp]; exact ⟨h3, by kernel_rfl⟩) (by simp [nats]) (by rw [sizeLine_eq, List.length_map, hdl]; omega) (fun L' X' F' O' s0' i d e hd he s v i' hv => ?_))
      (.list (ds := [.bytes (octN (sizeN ns - 4) (restN ns))]) (.cons (.octs (by omega) (RD.less (by decide)) (.globV (by kernel_rfl) (by kernel_rfl)) (.var h6 (by kernel_rfl)) (.subN (.var h3 (by kernel_rfl)) (.natLit rfl) (Nat.le_trans (by decide) hs1))) .nil) (by show 1 ≤ 1000; decide)) (by rw [List.length_map, hdl]; show kk ns + 1 ≤ 1000; omega)) (by unfold bs1; simp)) (.cons (.octs (by decide) (RD.less (by decide)) (.globV (by kernel_rfl) (by kernel_rfl)) (.var h7 (by kernel_rfl)) (.natLit rfl)) .nil)))))
    (law_parks hL) RD h0 kn (by kernel_rfl) h
  obtain ⟨l, hl, rfl⟩ := nats_get hd
  rw [List.getElem?_map, hl] at he
  cases he
  exact turn_name (by kernel_rfl) (by kernel_rfl) (.octs hs2 (RD.less (by decide)) (.globV (by kernel_rfl) (by kernel_rfl)) (.var lk0 (by kernel_rfl)) (.var (lk (by kernel_rfl) (by kernel_rfl)) (by kernel_rfl))) s v i' hv
theorem law_two {ps : Array Value} (RD : Room A 7) (hL : s0.heap.objs.size ≤ L) (h0 : s0.heap.get? 224 = some (tabObj ps)) (kn : Known ps F) (h1 : Has ρ "least" (.nat (kk ns + 2))) (h2 : Has ρ "members" (.nat (memb ns))) (h3 : Has ρ "size" (.nat (sizeN ns))) (h4 : Has ρ "other" (.nat (otherN ns))) (h5 : Has ρ "turned" (.list (nats (turnedN ns)))) (h6 : Has ρ "fresh" (.bytes (freshN ns)))
    (h : ∀ ps' s0' F', Tb24 s0 s0' ps' → Known ps' F' → Bk (lawC w prog A L X F' O s0') (("two", .list ((twoN ns).map memD)) :: ρ) rest Q) : Bk (lawC w prog A L X F O s0) ρ (lawAt 17 :: rest) Q := by
  obtain ⟨hm1, hm2⟩ := memb_le ns
  obtain ⟨hs1, hs2⟩ := size_le ns
  have hk3 := kk_le ns
  obtain ⟨b1, b2, b3⟩ := bs2_ok ns
  have hdl : (turnedN ns).length = kk ns := by simp [turnedN]
  have hfl : (freshN ns).length = sizeN ns := octN_len ..
  refine .split (w := w) rfl hk3 hm1 (by omega) (octN_len (sizeN ns) (otherN ns)) (by omega) hs2 (lead := (freshN ns).take 4) (by rw [List.length_take, hfl]; omega) b1 b2 b3 (by rw [List.length_drop, hfl]) (.globV (by kernel_rfl) (by kernel_rfl)) (.cons (.var h1 (by kernel_rfl)) (.cons (.var h2 (by kernel_rfl)) (.cons (.octs hs2 (RD.less (by decide)) (.globV (by kernel_rfl) (by kernel_rfl)) (.var h4 (by kernel_rfl)) (.var h3 (by kernel_rfl)))
    (.cons (.cast (.addL (.comp (ρ' := [("size", .nat (sizeN ns))]) (ds := nats (turnedN ns)) (es := (turnedN ns).map fun l => .bytes (octN (sizeN ns) l)) (.of (.var h5 (by kernel_rfl)) (Src.list RD.hd).g) (.of (by kernel_rfl) (by kernel_rfl)) (fun p hp => by rw [List.mem_singleton.mp hp]; exact ⟨h3, by kernel_rfl⟩) (by simp [nats]) (by rw [sizeLine_eq, List.length_map, hdl]; omega) (fun L' X' F' O' s0' i d e hd he s v i' hv => ?_))
      (.list (ds := [.bytes ((freshN ns).drop 4)]) (.cons (.dropB (.var h6 (by kernel_rfl)) (.natLit rfl) (by rw [hfl]; omega) rfl) .nil) (by show 1 ≤ 1000; decide)) (by rw [List.length_map, hdl]; show kk ns + 1 ≤ 1000; omega)) (by unfold bs2; simp)) (.cons (.takeB (.var h6 (by kernel_rfl)) (.natLit rfl) (by rw [hfl]; omega) rfl) .nil)))))
    (law_parks hL) RD h0 kn (by kernel_rfl) h
  obtain ⟨l, hl, rfl⟩ := nats_get hd
  rw [List.getElem?_map, hl] at he
  cases he
  exact turn_name (by kernel_rfl) (by kernel_rfl) (.octs hs2 (RD.less (by decide)) (.globV (by kernel_rfl) (by kernel_rfl)) (.var lk0 (by kernel_rfl)) (.var (lk (by kernel_rfl) (by kernel_rfl)) (by kernel_rfl))) s v i' hv
theorem xs_get {l : List (Nat × List UInt8)} {m i : Nat} {d e : D} (hf : l.map (·.1) = List.range m) (hd : (l.map memD)[i]? = some d) (he : ((List.range m).map fun (i : Nat) => D.int (i : Int))[i]? = some e) : ∃ b, d = .tup [.int (i : Int), .bytes b] ∧ e = .int (i : Int) := by
  rw [List.getElem?_map] at hd he
  obtain ⟨p, hp, rfl⟩ := Option.map_eq_some_iff.mp hd
  obtain ⟨j, hj, rfl⟩ := Option.map_eq_some_iff.mp he
  have h1 : (l.map (·.1))[i]? = some p.1 := by rw [List.getElem?_map, hp]; rfl
  rw [hf, hj] at h1
  have h2 : j = i := by
    have hlt : i < m := by
      have := (List.getElem?_eq_some_iff.mp hj).1
      simpa using this
    rw [List.getElem?_range hlt] at hj
    exact (Option.some.inj hj).symm
  subst h2
  have h3 : p.1 = j := (Option.some.inj h1).symm
  exact ⟨p.2, by rw [← h3], rfl⟩
theorem law_check (RD : Room A 7) (h1 : Has ρ "members" (.nat (memb ns))) (h2 : Has ρ "one" (.list ((oneN ns).map memD))) (h3 : Has ρ "two" (.list ((twoN ns).map memD))) (h4 : Has ρ "size" (.nat (sizeN ns))) (h5 : Has ρ "secret" (.nat (secretN ns))) (h6 : Has ρ "other" (.nat (otherN ns)))
    (h : Bk (lawC w prog A L X F O s0) (("alike", .list ((alikeN ns).map .bool)) :: ρ) rest Q) : Bk (lawC w prog A L X F O s0) ρ (lawAt 18 :: lawAt 19 :: rest) Q := by
  obtain ⟨hm1, hm2⟩ := memb_le ns
  obtain ⟨hs1, hs2⟩ := size_le ns
  have hk3 := kk_le ns
  have f1 : (oneN ns).map (·.1) = List.range (memb ns) := split_fst _ _ _ (by omega) ..
  have f2 : (twoN ns).map (·.1) = List.range (memb ns) := split_fst _ _ _ (by omega) ..
  have hrg : ∀ {np p q : Pos} {e : Expr} {fp : Pos}, Ev (lawC w prog A L X F O s0) ρ e (.nat (memb ns)) → starEach [e] (fnEnv ⟨w, true⟩ 232 L) = (false, eval e (fnEnv ⟨w, true⟩ 232 L)) :: starEach [] (fnEnv ⟨w, true⟩ 232 L) → Ev (lawC w prog A L X F O s0) ρ (.Call (.Name "list" np) [.Call (.Name "range" fp) [e] [] q] [] p) (.list ((List.range (memb ns)).map fun (i : Nat) => .int (i : Int))) := fun he hse =>
    .cast (EvN.ev (.range RD.hd (.blt (by kernel_rfl) (by kernel_rfl) boot_list' (by decide)) (.range1 (.blt (by kernel_rfl) (by kernel_rfl) boot_range (by decide)) he hse) (Nat.zero_le _) (by omega))) (by
      show D.list ((rngI 0 (memb ns)).map .int) = _
      rw [rng_of, ofN_nats]
      rfl)
  have hpy : ((List.range (memb ns)).map fun (i : Nat) => D.int (i : Int)).map pyOf = ((List.range (memb ns)).map fun (i : Nat) => PyData.int (i : Int)).map some := by rw [List.map_map, List.map_map]; rfl
  refine .cons (.if_false (.or2 (.neSame RD hpy (.comp (ρ' := []) (ds := (oneN ns).map memD) (.of (.var h2 (by kernel_rfl)) (SrcG.list RD.hd)) (.of (by kernel_rfl) (by kernel_rfl)) (fun _ h => (nomatch h)) (by rw [List.length_map, List.length_map, List.length_range, one_len]) (by rw [sizeLine_eq, List.length_map, List.length_range]; omega) fun L' X' F' O' s0' i d e hd he s v i' hv => ?_) (hrg (.var h1 (by kernel_rfl)) rfl))
    (.neSame RD hpy (.comp (ρ' := []) (ds := (twoN ns).map memD) (.of (.var h3 (by kernel_rfl)) (SrcG.list RD.hd)) (.of (by kernel_rfl) (by kernel_rfl)) (fun _ h => (nomatch h)) (by rw [List.length_map, List.length_map, List.length_range, two_len]) (by rw [sizeLine_eq, List.length_map, List.length_range]; omega) fun L' X' F' O' s0' i d e hd he s v i' hv => ?_) (hrg (.var h1 (by kernel_rfl)) rfl)))) ?_
  · obtain ⟨b, rfl, rfl⟩ := xs_get f1 hd he
    exact turn_pair RD.hd (by kernel_rfl) (by kernel_rfl) (by kernel_rfl) (by kernel_rfl) (.var (lk (by kernel_rfl) lk0) (by kernel_rfl)) s v i' hv
  · obtain ⟨b, rfl, rfl⟩ := xs_get f2 hd he
    exact turn_pair RD.hd (by kernel_rfl) (by kernel_rfl) (by kernel_rfl) (by kernel_rfl) (.var (lk (by kernel_rfl) lk0) (by kernel_rfl)) s v i' hv
  refine .cons (.comp (ρ' := []) (ds := pairD (octN (sizeN ns) (secretN ns)) (octN (sizeN ns) (otherN ns))) (es := (alikeN ns).map .bool) (.zip RD.hd (.blt (by kernel_rfl) (by kernel_rfl) boot_zip (by decide)) (.octs hs2 (RD.less (by decide)) (.globV (by kernel_rfl) (by kernel_rfl)) (.var h5 (by kernel_rfl)) (.var h4 (by kernel_rfl))) (.octs hs2 (RD.less (by decide)) (.globV (by kernel_rfl) (by kernel_rfl)) (.var h6 (by kernel_rfl)) (.var h4 (by kernel_rfl))) (by rw [octN_len, octN_len])) (.of (by kernel_rfl) (by kernel_rfl))
    (fun _ h => (nomatch h)) (by simp [alikeN, sameB, pairD, octN_len]) (by rw [sizeLine_eq]; simp [alikeN, sameB, octN_len]; omega) (fun L' X' F' O' s0' j d e hd he s v i' hv => ?_) (by kernel_rfl) (by kernel_rfl)) h
  obtain ⟨c1, c2, g1, g2, rfl⟩ := pairD_get hd
  have := same_get g1 g2 he
  subst this
  exact turn_pair RD.hd (by kernel_rfl) (by kernel_rfl) (by kernel_rfl) (by kernel_rfl) (.cast (.eqI (.var (lk (by kernel_rfl) lk0) (by kernel_rfl)) (.var lk0 (by kernel_rfl))) (by rw [u8_eq])) s v i' hv
end
end Mine

-- S19
namespace Mine
theorem EvN.cast {C : Cx} {ρ : List (Str × D)} {e : Expr} {P P' : Obj → Prop} (h : EvN C ρ e P) (q : P = P') : EvN C ρ e P' := q ▸ h
theorem law_body (w : Wo) : bodyOf (fnAt w 232) = [lawAt 0, lawAt 1, lawAt 2, lawAt 3, lawAt 4, lawAt 5, lawAt 6, lawAt 7, lawAt 8, lawAt 9, lawAt 10, lawAt 11, lawAt 12, lawAt 13, lawAt 14, lawAt 15, lawAt 16, lawAt 17, lawAt 18, lawAt 19, lawAt 20, lawAt 21] := by kernel_rfl
theorem law_walk (w : World) (prog : Program) {A : Around} {X : List Addr} {s : Shared} {vs : List Value} {ns : List Int} (hz : ns.length < 2 ^ 40) (hB : ∀ n ∈ ns, Builtin.Int.intBits n ≤ 1048576) (hLaw : LawOk ns)
    (R : Room A 8) (r : Sk ⟨w, true⟩ X [] [] s s) (h156 : s.heap.get? 156 = some (tabObj #[])) (h224 : s.heap.get? 224 = some (tabObj #[])) (hv : sats [.scr ns] vs (hideAll s.heap X)) :
    wpAny (model prog w) A (call (.ref 232) vs) (fun v s' => v = .bool true ∧ OldK s.heap s'.heap ∧ s'.os = s.os ∧ (AllBare s.gens → AllBare s'.gens)) NoE s := by
  refine enterSk (names := ["script"]) (law_fn _) R r hv ((bind1 (by intros; kernel_rfl) : Binds ⟨w, true⟩ prog 232 _) vs s.heap r.base.inK (sats_length hv)) rfl (by kernel_rfl) (by kernel_rfl) fun L s' i hL => ?_
  have RD : Room (A.deeper (fnEnv ⟨w, true⟩ 232 L)) 7 := R.deeper _
  obtain ⟨hm1, hm2⟩ := memb_le ns
  have hk3 := kk_le ns
  refine (?_ : Bk (lawC w prog (A.deeper (fnEnv ⟨w, true⟩ 232 L)) L (frameX (fnEnv ⟨w, true⟩ 232 L) X) [] [] s) [("script", .scr ns)] (bodyOf (fnAt ⟨w, true⟩ 232)) _) s' i
  rw [law_body]
  refine law_head hz hB RD ?_
  refine .ownX (P := intsP (ofN (List.range (memb ns)))) (.cast (.range RD.hd (.blt (by kernel_rfl) (by kernel_rfl) boot_list' (by decide)) (.range1 (k := memb ns) (.blt (by kernel_rfl) (by kernel_rfl) boot_range (by decide)) (.var (by kernel_rfl) (by kernel_rfl))) (Nat.zero_le _) (by omega)) (congrArg (fun l o => intsP l o) (rng_of (memb ns)))) (by kernel_rfl) fun af haf => ?_
  refine .ownX (P := intsP (ofN [])) .nil (by kernel_rfl) fun ak hak => ?_
  refine law_known hz hB RD (ak := ak) (af := af) ⟨.head _, .tail _ (.head _)⟩ (by kernel_rfl) (by kernel_rfl) (by kernel_rfl) (by kernel_rfl) (by kernel_rfl) ?_
  refine .settle (n := "known") (a := ak) (ns := ofN (knownN ns)) (O1 := []) rfl hak rfl (by kernel_rfl) ?_
  rw [ofN_nats]
  show Bk (lawC w prog (A.deeper (fnEnv ⟨w, true⟩ 232 L)) L (af :: frameX (fnEnv ⟨w, true⟩ 232 L) X) [] [(af, intsP (ofN (kst ns (memb ns) (kk ns + 1)).1))] s) _ _ _
  refine law_mid (ns := ns) RD rfl rfl ?_
  refine law_one (ns := ns) RD hL h224 ⟨trivial, .inl rfl, .inl rfl⟩ (by kernel_rfl) (by kernel_rfl) (by kernel_rfl) (by kernel_rfl) (by kernel_rfl) (by kernel_rfl) (by kernel_rfl) fun ps1 s1 F1 x1 k1 => ?_
  refine law_two (ns := ns) RD (x1.size ▸ hL) x1.tab k1 (by kernel_rfl) (by kernel_rfl) (by kernel_rfl) (by kernel_rfl) (by kernel_rfl) (by kernel_rfl) fun ps2 s2 F2 x2 k2 => ?_
  refine law_check (ns := ns) RD (by kernel_rfl) (by kernel_rfl) (by kernel_rfl) (by kernel_rfl) (by kernel_rfl) (by kernel_rfl) ?_
  refine law_last hLaw RD (by kernel_rfl) (by kernel_rfl) (by kernel_rfl) (by kernel_rfl) (by kernel_rfl) (by kernel_rfl) (by kernel_rfl) (by kernel_rfl) ?_
  have x12 := x1.trans x2
  exact .ret (.true_ (b := true)) fun v s'' hv' j => ⟨of_bool hv', old_of x12 j.mv h156 h224 r.tb j.tb, j.mv.os.trans x12.os, fun hb => j.mv.gens (x12.gens ▸ hb)⟩
end Mine

-- HW
namespace Mine
theorem m0_is (P : Params) : (((boot_heap P).isNs mainGlobals && (Array.mk [] : Array GenState).size == 0, (boot_heap P).objs.size, (boot_heap P).nsMap mainGlobals "__annotations__") : Bool × Nat × Option Value) = (true, 11, some (.ref 6)) := by kernel_rfl
theorem left_of_run {p q : Program} {loose : List Str} {Xt : Shared → Bool} {α : Type} {Yf : Shared → α} {Ya : World → α} {N : Nat}
    (open_ : ∀ w : World, (fencedOpening treeTable p w N).map (fun s => (s.heap, s.gens, s.drawn, s.toks)) = some (boot_heap w.params, Array.mk [], boot_drawn, boot_toks))
    (run : ∀ (w : World) (os : OsState), (topRun treeTable p w 11 (some (.ref 6)) N ⟨boot_heap w.params, Array.mk [], boot_drawn, boot_toks, os⟩ (topStub p)).map (fun s => ((staticsOk (importedModules p.main.body) (boot_heap w.params) s.heap && namesBound p s.heap && gensDone s && laidKept (boot_heap w.params) s.heap),
        openSeen q loose (importedModules p.main.body) Xt true s, Yf s)) = some (true, openGood q loose, Ya w)) : LeftO p q loose Xt Yf Ya N true := fun w => by
  obtain ⟨⟨h, gs, d, k, os⟩, e, e'⟩ := Option.map_eq_some_iff.mp (open_ w)
  obtain ⟨rfl, rfl, rfl, rfl⟩ : h = boot_heap w.params ∧ gs = Array.mk [] ∧ d = boot_drawn ∧ k = boot_toks := by simpa using e'
  obtain ⟨z1, z2, z3⟩ : _ ∧ _ ∧ _ := by simpa only [Prod.mk.injEq] using m0_is w.params
  obtain ⟨s₁, r, l⟩ := Option.map_eq_some_iff.mp (run w os)
  obtain ⟨l1, l2, l3⟩ : _ ∧ _ ∧ _ := by simpa only [Prod.mk.injEq] using l
  have t : topFrom treeTable p w N ⟨boot_heap w.params, Array.mk [], boot_drawn, boot_toks, os⟩ = some s₁ := by
    unfold topFrom
    dsimp only
    rw [z1, z2, z3, r]
    show (match staticsOk (importedModules p.main.body) (boot_heap w.params) s₁.heap && namesBound p s₁.heap && gensDone s₁ && laidKept (boot_heap w.params) s₁.heap with | true => _ | false => _) = _
    rw [l1]
  unfold openEnds
  rw [e]
  show (topFrom treeTable p w N _).map _ = _
  rw [t]
  exact congrArg some (Prod.ext l2 l3)
noncomputable def pw : Program := PySem.Challenge.pw_jb0040_01
noncomputable def q1 : Program := { pw with main := { pw.main with body := [stAt 29] } }
noncomputable def loose1 : List Str := ["_wall", "MAX_SHARE_COUNT", "DIGEST_LENGTH_BYTES", "SECRET_INDEX", "DIGEST_INDEX", "MnemonicError", "_tuplegetter", "RawShare", "_EXP_TABLE_00", "_EXP_TABLE_01", "EXP_TABLE", "_LOG_TABLE_00", "_LOG_TABLE_01", "LOG_TABLE", "_interpolate", "_create_digest", "_split_secret", "_law_ones", "_law_spread", "_law_number", "_law_octets", "_law_times", "_law_inverse", "_law_reach", "_law_curve", "_law_split"]
noncomputable def hk1 : Hook := kmHook K0f K0a (fun _ => by kernel_rfl) [156, 224]
noncomputable def xt1 (s : Shared) : Bool := xlAt q1 [] s && recOk [] s
end Mine

-- S20
namespace Mine
theorem ns_eq {h : Heap} {a : Addr} {m m' : Str → Option Value} (x : h.Ns a m) (y : h.Ns a m') (n : Str) : m n = m' n := by
  obtain ⟨o, es, ep, e, d, _, f⟩ := x
  obtain ⟨o', es', ep', e', d', _, f'⟩ := y
  have : o = o' := Option.some.inj (e.symm.trans e')
  subst this
  rw [d] at d'
  cases d'
  rw [← f n, ← f' n]
theorem codeHd_of {h : Heap} {c P : Addr} {vs : Array Value} (e : h.get? c = some { cls := .type "code", data := .fields vs }) (h1 : vs[11]? = some (.ref P)) (h2 : vs.getD 11 .none = .ref P)
    (hs : (match vs.getD 18 .none, vs.getD 7 .none, vs.getD 9 .none, vs.getD 10 .none with | .str _ _, .int _ _, .bool _, .int _ _ => true | _, _, _, _ => false) = true) (hne : c ≠ P) : CodeHd h c P := by
  split at hs
  · rename_i e1 e2 e3 e4
    exact ⟨_, vs, _, _, _, _, _, _, _, e, rfl, rfl, h1, h2, e1, e2, e3, e4, hne⟩
  · cases hs
theorem hd160 {w : World} {h : Heap} (X : (K0 w).In h) : CodeHd h 160 156 :=
  codeHd_of (vs := codeVs ⟨w, true⟩ 160) (X 160 { cls := .type "code", data := .fields (codeVs ⟨w, true⟩ 160) } (by kernel_rfl)) (by kernel_rfl) (by kernel_rfl) (by kernel_rfl) (by decide)
theorem hd226 {w : World} {h : Heap} (X : (K0 w).In h) : CodeHd h 226 224 :=
  codeHd_of (vs := codeVs ⟨w, true⟩ 226) (X 226 { cls := .type "code", data := .fields (codeVs ⟨w, true⟩ 226) } (by kernel_rfl)) (by kernel_rfl) (by kernel_rfl) (by kernel_rfl) (by decide)
theorem law_final (w : World) (prog : Program) {s₁ : Shared} {p : Program} {loose : List Str} {mean : ExcName → Option Value} {mg mb : Str → Option Value} {fa a : Addr} {vs : List Value} {ns : List Int} (KX : (K0 w).In s₁.heap) (T : Top p loose mean mg mb s₁.heap) (hmg : mg "law" = some (.ref fa))
    (h156 : s₁.heap.get? 156 = some (tabObj #[])) (h224 : s₁.heap.get? 224 = some (tabObj #[])) (hL : s₁.heap.IsList a vs.toArray) (hI : IntsAre vs ns) (hz : ns.length ≤ 63) (hlay : (PyData.list (ns.map PyData.int)).layable0 = true) (hlow : 233 ≤ s₁.heap.objs.size) (hLaw : LawOk ns) :
    wpAny (model prog w) callerA (call (.ref fa) [.ref a]) (fun v s' => v = .bool true ∧ OldK s₁.heap s'.heap ∧ s'.os = s₁.os ∧ (AllBare s₁.gens → AllBare s'.gens)) NoE s₁ := by
  have gns : s₁.heap.Ns 3 (nsFind (gEs ⟨w, true⟩)) := ⟨_, gEs ⟨w, true⟩, 36, KX _ _ (g_obj ⟨w, true⟩), rfl, g_keys ⟨w, true⟩, fun _ => rfl⟩
  have e1 : some (Value.ref fa) = some (.ref 232) := by
    rw [← hmg, ns_eq T.g gns]
    kernel_rfl
  cases e1
  have hb : ∃ o, s₁.heap.get? 4 = some o ∧ o.cls = .type "module" ∧ o.dict = some builtinsNs ∧ o.data = .plain := by
    obtain ⟨bm, ob, z1, _, z3, z4, z5, z6⟩ := T.bmain
    have e2 : some (Value.ref bm) = some (.ref 4) := by
      rw [← z1, ns_eq T.g gns]
      kernel_rfl
    cases e2
    exact ⟨ob, z3, z4, z5, z6⟩
  have base : Base ⟨w, true⟩ s₁.heap := ⟨KX, T.nolimit, ⟨mb, T.b, T.builtins⟩, hb⟩
  have tb : Tb s₁.heap := ⟨⟨#[], (hd160 KX).tab h156, (hd160 KX).code h156 trivial⟩, ⟨#[], (hd226 KX).tab h224, (hd226 KX).code h224 trivial⟩⟩
  have rdy : Rdy ⟨w, true⟩ [156, 224] s₁ := ⟨base, tb, .head _, .tail _ (.head _), fun b hb => by
    rcases List.mem_cons.mp hb with rfl | hb
    · exact Heap.lt_size h156
    · rw [List.mem_singleton.mp hb]; exact Heap.lt_size h224, hlow⟩
  obtain ⟨o, ho, hc, n, hd⟩ := hL
  have hne : a ∉ [156, 224] := fun hm => by
    rcases List.mem_cons.mp hm with rfl | hm
    · rw [h156] at ho
      cases ho
      cases hc
    · have := List.mem_singleton.mp hm
      subst this
      rw [h224] at ho
      cases ho
      cases hc
  refine law_walk w prog (ns := ns) (Nat.lt_of_le_of_lt hz (by decide)) (fun n hn => intBits_le_of_item hn hlay) hLaw ⟨rfl, by decide, by decide⟩ (Sk.of rdy) h156 h224 (sats_one ?_)
  unfold sat
  exact ⟨a, o, rfl, hideAll_get _ ho hne, vs, hI, hc, n, hd⟩
end Mine

-- HX
namespace Mine
set_option maxHeartbeats 0 in
theorem head_run (w : World) (os : OsState) : (topRun treeTable PySem.Challenge.pw_jb0040_01 w 11 (some (.ref 6)) 2600 ⟨boot_heap w.params, Array.mk [], boot_drawn, boot_toks, os⟩ (topStub PySem.Challenge.pw_jb0040_01)).map (fun s => ((staticsOk (importedModules PySem.Challenge.pw_jb0040_01.main.body) (boot_heap w.params) s.heap && namesBound PySem.Challenge.pw_jb0040_01 s.heap && gensDone s && laidKept (boot_heap w.params) s.heap),
        openSeen q1 loose1 (importedModules PySem.Challenge.pw_jb0040_01.main.body) xt1 true s, hk1.obs s)) = some (true, openGood q1 loose1, hk1.val w) := by
  rw [PySem.W.Fast.te14082659384304107361, PySem.W.Fast.te14364793385576792824]
  kernel_rfl
theorem head_open : ∀ w : World, (fencedOpening treeTable PySem.Challenge.pw_jb0040_01 w 2600).map (fun s => (s.heap, s.gens, s.drawn, s.toks)) = some (boot_heap w.params, Array.mk [], boot_drawn, boot_toks) :=
  boot_open (by kernel_rfl) (by kernel_rfl) (fun s => by kernel_rfl)
theorem head_left : LeftO PySem.Challenge.pw_jb0040_01 q1 loose1 xt1 hk1.obs hk1.val 2600 true := left_of_run head_open head_run
end Mine

-- M2
namespace Mine
noncomputable def dblB (a : Nat) : Nat := ((a ^^^ (a / 128 * 128)) * 2) ^^^ (a / 128 * 27)
/-- the product in the field of 256 -/
noncomputable def gmN : Nat → Nat → Nat → Nat
  | 0, _, _ => 0
  | n + 1, a, f => (if f % 2 = 0 then 0 else a) ^^^ gmN n (dblB a) (f / 2)
theorem gmN_s (n a f : Nat) : gmN (n + 1) a f = (if f % 2 = 0 then 0 else a) ^^^ gmN n (dblB a) (f / 2) := rfl
noncomputable def gm (a f : Nat) : Nat := gmN 8 a f
theorem xor_pow (x y n : Nat) : (x ^^^ y) * 2 ^ n = x * 2 ^ n ^^^ y * 2 ^ n := by
  rw [← Nat.shiftLeft_eq, ← Nat.shiftLeft_eq, ← Nat.shiftLeft_eq, Nat.shiftLeft_xor_distrib]
theorem xor4 (a b c d : Nat) : (a ^^^ b) ^^^ (c ^^^ d) = (a ^^^ c) ^^^ (b ^^^ d) := by
  rw [Nat.xor_assoc, Nat.xor_assoc, ← Nat.xor_assoc b, Nat.xor_comm b, Nat.xor_assoc c]
theorem bit27 {x y : Nat} (hx : x ≤ 1) (hy : y ≤ 1) : (x ^^^ y) * 27 = x * 27 ^^^ y * 27 := by
  have h1 : x = 0 ∨ x = 1 := by omega
  have h2 : y = 0 ∨ y = 1 := by omega
  rcases h1 with rfl | rfl <;> rcases h2 with rfl | rfl <;> decide
theorem dblB_xor {a b : Nat} (ha : a < 256) (hb : b < 256) : dblB (a ^^^ b) = dblB a ^^^ dblB b := by
  have e : (a ^^^ b) / 128 = a / 128 ^^^ b / 128 := Nat.xor_div_two_pow (n := 7)
  have e1 : ∀ x y : Nat, (x ^^^ y) * 128 = x * 128 ^^^ y * 128 := fun x y => xor_pow x y 7
  have e2 : ∀ x y : Nat, (x ^^^ y) * 2 = x * 2 ^^^ y * 2 := fun x y => xor_pow x y 1
  unfold dblB
  rw [e, bit27 (by omega) (by omega), e1, xor4 a b, e2, xor4]
theorem dblB_lt : ∀ a, a < 256 → dblB a < 256 := by decide +kernel
theorem dbl_dblB : ∀ a, a < 256 → dbl a = dblB a := by decide +kernel
theorem xor_256 {a b : Nat} (ha : a < 256) (hb : b < 256) : a ^^^ b < 256 := Nat.xor_lt_two_pow (n := 8) ha hb
theorem gmN_lt : ∀ (n a f : Nat), a < 256 → gmN n a f < 256
  | 0, _, _, _ => (by decide : (0 : Nat) < 256)
  | n + 1, a, f, h => by
    rw [gmN_s]
    refine xor_256 ?_ (gmN_lt n _ _ (dblB_lt a h))
    split
    · decide
    · exact h
theorem gmN_0 : ∀ (n a : Nat), gmN n a 0 = 0
  | 0, _ => rfl
  | n + 1, a => by
    rw [gmN_s, show (0 : Nat) % 2 = 0 from rfl, show (0 : Nat) / 2 = 0 from rfl, gmN_0 n, if_pos rfl]
    rfl
theorem gmN_0l : ∀ (n f : Nat), gmN n 0 f = 0
  | 0, _ => rfl
  | n + 1, f => by
    rw [gmN_s, show dblB 0 = 0 from by decide, gmN_0l n, ite_self]
    rfl
theorem gmN_xl : ∀ (n a b f : Nat), a < 256 → b < 256 → gmN n (a ^^^ b) f = gmN n a f ^^^ gmN n b f
  | 0, _, _, _, _, _ => (by decide : (0 : Nat) = 0 ^^^ 0)
  | n + 1, a, b, f, ha, hb => by
    rw [gmN_s, gmN_s, gmN_s, dblB_xor ha hb, gmN_xl n _ _ _ (dblB_lt a ha) (dblB_lt b hb)]
    by_cases h : f % 2 = 0
    · rw [if_pos h, if_pos h, if_pos h, xor4]; rfl
    · rw [if_neg h, if_neg h, if_neg h, xor4]
theorem gmN_xr : ∀ (n a f g : Nat), gmN n a (f ^^^ g) = gmN n a f ^^^ gmN n a g
  | 0, _, _, _ => (by decide : (0 : Nat) = 0 ^^^ 0)
  | n + 1, a, f, g => by
    rw [gmN_s, gmN_s, gmN_s]
    have e1 : (f ^^^ g) / 2 = f / 2 ^^^ g / 2 := Nat.xor_div_two_pow (n := 1)
    have e2 : (f ^^^ g) % 2 = f % 2 ^^^ g % 2 := Nat.xor_mod_two_pow (n := 1)
    rw [e1, e2, gmN_xr n, xor4]
    congr 1
    have h1 : f % 2 = 0 ∨ f % 2 = 1 := by omega
    have h2 : g % 2 = 0 ∨ g % 2 = 1 := by omega
    rcases h1 with h1 | h1 <;> rcases h2 with h2 | h2 <;> rw [h1, h2] <;> simp
theorem gm_lt {a : Nat} (f : Nat) (h : a < 256) : gm a f < 256 := gmN_lt 8 a f h
theorem gm_0 (a : Nat) : gm a 0 = 0 := gmN_0 8 a
theorem gm_0l (f : Nat) : gm 0 f = 0 := gmN_0l 8 f
theorem gm_xl {a b : Nat} (f : Nat) (ha : a < 256) (hb : b < 256) : gm (a ^^^ b) f = gm a f ^^^ gm b f := gmN_xl 8 a b f ha hb
theorem gm_xr (a f g : Nat) : gm a (f ^^^ g) = gm a f ^^^ gm a g := gmN_xr 8 a f g
theorem timesG_hom (φ : Nat → Nat) (S : Nat → Prop) (hx : ∀ x y, φ (x ^^^ y) = φ x ^^^ φ y) (hd : ∀ l, S l → φ (dbl l) = dblB (φ l) ∧ S (dbl l)) : ∀ n f l t, f < 2 ^ n → S l → φ (timesG f l t) = φ t ^^^ gmN n (φ l) f
  | 0, f, l, t, hf, hl => by
    have : f = 0 := by omega
    subst this
    rw [timesG_0]
    show φ t = φ t ^^^ 0
    rw [Nat.xor_zero]
  | n + 1, f, l, t, hf, hl => by
    by_cases h : f = 0
    · subst h
      rw [timesG_0, gmN_0, Nat.xor_zero]
    · obtain ⟨h1, h2⟩ := hd l hl
      rw [timesG_s h, timesG_hom φ S hx hd n (f / 2) (dbl l) _ (by rw [Nat.pow_succ] at hf; omega) h2, h1]
      rw [gmN_s]
      by_cases q : f % 2 = 0
      · rw [if_pos q, if_pos q, Nat.zero_xor]
      · rw [if_neg q, if_neg q, hx, Nat.xor_assoc]
theorem times_gm {a f : Nat} (ha : a < 256) (hf : f < 256) : times a f = gm a f := by
  have := timesG_hom id (fun l => l < 256) (fun _ _ => rfl) (fun l hl => ⟨dbl_dblB l hl, by rw [dbl_dblB l hl]; exact dblB_lt l hl⟩) 8 f a 0 hf ha
  unfold times
  rw [show timesG f a 0 = id (timesG f a 0) from rfl, this]
  exact Nat.zero_xor _
/-- what is additive and agrees on the bits, agrees -/
theorem lin_ext {F G : Nat → Nat} (hF : ∀ a b, a < 256 → b < 256 → F (a ^^^ b) = F a ^^^ F b) (hG : ∀ a b, a < 256 → b < 256 → G (a ^^^ b) = G a ^^^ G b) (h : ∀ i, i < 8 → F (2 ^ i) = G (2 ^ i)) : ∀ n, n ≤ 8 → ∀ a, a < 2 ^ n → F a = G a := by
  have z : ∀ {H : Nat → Nat}, (∀ a b, a < 256 → b < 256 → H (a ^^^ b) = H a ^^^ H b) → H 0 = 0 := fun {H} hH => by
    have := hH 0 0 (by decide) (by decide)
    rw [Nat.xor_self, Nat.xor_self] at this
    exact this
  intro n
  induction n with
  | zero =>
    intro _ a ha
    have : a = 0 := by omega
    subst this
    rw [z hF, z hG]
  | succ n ih =>
    intro hn a ha
    have hp : 2 ^ (n + 1) ≤ 256 := by
      have : 2 ^ (n + 1) ≤ 2 ^ 8 := Nat.pow_le_pow_right (by decide) hn
      exact this
    by_cases q : a < 2 ^ n
    · exact ih (by omega) a q
    · have e : a = (a - 2 ^ n) ^^^ 2 ^ n := by
        have h1 : a - 2 ^ n < 2 ^ n := by rw [Nat.pow_succ] at ha; omega
        have := Nat.two_pow_add_eq_or_of_lt h1 1
        rw [Nat.mul_one] at this
        apply Nat.eq_of_testBit_eq
        intro i
        rw [Nat.testBit_xor, Nat.testBit_two_pow]
        by_cases hi : n = i
        · subst hi
          have h2 : a = 2 ^ n + (a - 2 ^ n) := by omega
          rw [h2, Nat.testBit_two_pow_add_eq]
          simp
        · have h2 : a = 2 ^ n + (a - 2 ^ n) := by omega
          have h3 : decide (n = i) = false := decide_eq_false hi
          rw [h3, Bool.xor_false]
          conv => lhs; rw [h2, this]
          rw [Nat.testBit_or, Nat.testBit_two_pow, h3, Bool.false_or]
      have h1 : a - 2 ^ n < 2 ^ n := by rw [Nat.pow_succ] at ha; omega
      have h2 : a - 2 ^ n < 256 := by rw [Nat.pow_succ] at hp; omega
      have h3 : 2 ^ n < 256 := by
        have := Nat.pow_pos (a := 2) (n := n) (by decide)
        rw [Nat.pow_succ] at hp; omega
      rw [e, hF _ _ h2 h3, hG _ _ h2 h3, ih (by omega) _ h1, h n (by omega)]
theorem bits3 : ∀ i, i < 8 → ∀ j, j < 8 → gm (2 ^ i) (gm (2 ^ j) 3) = gm (gm (2 ^ i) (2 ^ j)) 3 := by decide +kernel
theorem gm_assoc3 {a b : Nat} (ha : a < 256) (hb : b < 256) : gm a (gm b 3) = gm (gm a b) 3 := by
  refine lin_ext (F := fun a => gm a (gm b 3)) (G := fun a => gm (gm a b) 3) (fun x y hx hy => gm_xl _ hx hy) (fun x y hx hy => ?_) (fun i hi => ?_) 8 (Nat.le_refl _) a ha
  · show gm (gm (x ^^^ y) b) 3 = _
    rw [gm_xl _ hx hy, gm_xl _ (gm_lt _ hx) (gm_lt _ hy)]
  · have h2 : 2 ^ i < 2 ^ 8 := Nat.pow_lt_pow_right (by decide) hi
    refine lin_ext (F := fun b => gm (2 ^ i) (gm b 3)) (G := fun b => gm (gm (2 ^ i) b) 3) (fun x y hx hy => ?_) (fun x y hx hy => ?_) (fun j hj => bits3 i hi j hj) 8 (Nat.le_refl _) b hb
    · show gm _ (gm (x ^^^ y) 3) = _
      rw [gm_xl _ hx hy, gm_xr]
    · show gm (gm _ (x ^^^ y)) 3 = _
      rw [gm_xr, gm_xl _ (gm_lt _ h2) (gm_lt _ h2)]
theorem xp_0 : xp 0 = 1 := by decide +kernel
theorem xp_s : ∀ l, l < 255 → xp ((l + 1) % 255) = gm (xp l) 3 := by decide +kernel
theorem xp_ne : ∀ l, l < 255 → xp l < 256 ∧ xp l ≠ 0 ∧ lg (xp l) = l := by decide +kernel
theorem xp_lg : ∀ a, a < 256 → a ≠ 0 → xp (lg a) = a ∧ lg a < 255 := by decide +kernel
theorem gm_1 : ∀ a, a < 256 → gm a 1 = a := by decide +kernel
theorem gm_xp {a : Nat} (ha : a < 256) (h0 : a ≠ 0) : ∀ l, l < 255 → gm a (xp l) = xp ((lg a + l) % 255)
  | 0, _ => by
    obtain ⟨h1, h2⟩ := xp_lg a ha h0
    rw [xp_0, gm_1 a ha, Nat.add_zero, Nat.mod_eq_of_lt h2, h1]
  | l + 1, hl => by
    have h1 := xp_s l (by omega)
    rw [Nat.mod_eq_of_lt hl] at h1
    have hm : (lg a + l) % 255 < 255 := Nat.mod_lt _ (by decide)
    rw [h1, gm_assoc3 ha (xp_ne l (by omega)).1, gm_xp ha h0 l (by omega), ← xp_s _ hm]
    congr 1
    omega
theorem gm_log {a b : Nat} (ha : a < 256) (hb : b < 256) (ha0 : a ≠ 0) (hb0 : b ≠ 0) : gm a b = xp ((lg a + lg b) % 255) := by
  obtain ⟨h1, h2⟩ := xp_lg b hb hb0
  have := gm_xp ha ha0 (lg b) h2
  rw [h1] at this
  exact this
theorem gm_ne {a b : Nat} (ha : a < 256) (hb : b < 256) (ha0 : a ≠ 0) (hb0 : b ≠ 0) : gm a b ≠ 0 := by
  rw [gm_log ha hb ha0 hb0]
  exact (xp_ne _ (Nat.mod_lt _ (by decide))).2.1
theorem gm_comm {a b : Nat} (ha : a < 256) (hb : b < 256) : gm a b = gm b a := by
  by_cases h1 : a = 0
  · subst h1; rw [gm_0, gm_0l]
  · by_cases h2 : b = 0
    · subst h2; rw [gm_0, gm_0l]
    · rw [gm_log ha hb h1 h2, gm_log hb ha h2 h1, Nat.add_comm]
theorem gm_assoc {a b c : Nat} (ha : a < 256) (hb : b < 256) (hc : c < 256) : gm (gm a b) c = gm a (gm b c) := by
  by_cases h1 : a = 0
  · subst h1; rw [gm_0l, gm_0l, gm_0l]
  · by_cases h2 : b = 0
    · subst h2; rw [gm_0, gm_0l, gm_0]
    · by_cases h3 : c = 0
      · subst h3; rw [gm_0, gm_0, gm_0]
      · rw [gm_log (gm_lt _ ha) hc (gm_ne ha hb h1 h2) h3, gm_log ha (gm_lt _ hb) h1 (gm_ne hb hc h2 h3), gm_log ha hb h1 h2, gm_log hb hc h2 h3, (xp_ne _ (Nat.mod_lt _ (by decide))).2.2, (xp_ne _ (Nat.mod_lt _ (by decide))).2.2]
        congr 1
        omega
theorem mulL_gm {v l : Nat} (hv : v < 256) (hl : l < 255) : mulL v l = gm v (xp l) := by
  unfold mulL
  by_cases h : v = 0
  · subst h; rw [if_pos rfl, gm_0l]
  · rw [if_neg h, gm_xp hv h l hl]
end Mine

-- M3
namespace Mine
noncomputable def lane (j n : Nat) : Nat := n / 256 ^ j % 256
theorem p8 (j : Nat) : 256 ^ j = 2 ^ (8 * j) := by rw [Nat.pow_mul]
theorem lane_lt256 (j n : Nat) : lane j n < 256 := Nat.mod_lt _ (by decide)
theorem lane_xor (j x y : Nat) : lane j (x ^^^ y) = lane j x ^^^ lane j y := by
  unfold lane
  rw [p8, Nat.xor_div_two_pow]
  exact Nat.xor_mod_two_pow (n := 8)
theorem lane_s (j n : Nat) : lane (j + 1) n = lane j (n / 256) := by
  unfold lane
  rw [Nat.pow_succ, Nat.mul_comm, Nat.div_div_eq_div_mul]
theorem lane_mul : ∀ (j x c : Nat), (∀ i, lane i x * c < 256) → lane j (x * c) = lane j x * c
  | 0, x, c, h => by
    have h0 := h 0
    unfold lane at h0 ⊢
    rw [Nat.pow_zero, Nat.div_one] at h0 ⊢
    rw [Nat.div_one]
    have h1 : x * c = x % 256 * c + 256 * (x / 256 * c) := by
      conv => lhs; rw [← Nat.mod_add_div x 256]
      rw [Nat.add_mul, Nat.mul_assoc]
    rw [h1, Nat.add_mul_mod_self_left, Nat.mod_eq_of_lt h0]
  | j + 1, x, c, h => by
    have h0 := h 0
    unfold lane at h0
    rw [Nat.pow_zero, Nat.div_one] at h0
    have e : x * c / 256 = x / 256 * c := by
      have h1 : x * c = x % 256 * c + 256 * (x / 256 * c) := by
        conv => lhs; rw [← Nat.mod_add_div x 256]
        rw [Nat.add_mul, Nat.mul_assoc]
      rw [h1, Nat.add_mul_div_left _ _ (by decide), Nat.div_eq_of_lt h0, Nat.zero_add]
    rw [lane_s, lane_s, e]
    exact lane_mul j (x / 256) c fun i => by rw [← lane_s]; exact h (i + 1)
theorem lane_big {j n : Nat} (h : n < 2 ^ 64) (hj : 8 ≤ j) : lane j n = 0 := by
  unfold lane
  have : n < 256 ^ j := by
    rw [p8]
    exact Nat.lt_of_lt_of_le h (Nat.pow_le_pow_right (by decide) (by omega))
  rw [Nat.div_eq_of_lt this]
theorem lane_ones : ∀ j, j < 8 → lane j onesN = 1 := by decide +kernel
theorem lane_tops {j l : Nat} (h : l < 2 ^ 64) : lane j (tops l) = lane j l / 128 := by
  have e1 : lane j (tops l) = lane j (l / 128) &&& lane j onesN := by
    unfold tops lane
    rw [p8, Nat.and_div_two_pow, Nat.shiftRight_eq_div_pow]
    exact Nat.and_mod_two_pow (n := 8)
  rw [e1]
  by_cases hj : j < 8
  · rw [lane_ones j hj, Nat.and_one_is_mod]
    unfold lane
    rw [Nat.div_div_eq_div_mul, Nat.mul_comm, ← Nat.div_div_eq_div_mul]
    omega
  · rw [lane_big h (by omega), lane_big (by decide : onesN < 2 ^ 64) (by omega), Nat.and_zero]
theorem clear_b : ∀ a, a < 256 → (a ^^^ (a / 128 * 128)) * 2 < 256 := by decide +kernel
theorem lane_dbl {j l : Nat} (h : l < 2 ^ 64) : lane j (dbl l) = dblB (lane j l) := by
  have h1 : ∀ i, lane i (tops l) ≤ 1 := fun i => by rw [lane_tops h]; have := lane_lt256 i l; omega
  have h2 : ∀ i, lane i (tops l <<< 7) = lane i l / 128 * 128 := fun i => by
    rw [Nat.shiftLeft_eq, ← lane_tops h]
    exact lane_mul i _ _ fun i => by have := h1 i; omega
  have h3 : ∀ i, lane i (l ^^^ (tops l <<< 7)) = lane i l ^^^ (lane i l / 128 * 128) := fun i => by rw [lane_xor, h2]
  unfold dbl dblB
  rw [lane_xor, Nat.shiftLeft_eq, lane_mul j (tops l) 27 (fun i => by have := h1 i; omega), lane_tops h]
  congr 1
  rw [← h3]
  exact lane_mul j _ (2 ^ 1) fun i => by rw [h3]; exact clear_b _ (lane_lt256 i l)
theorem lane_times {j l f : Nat} (h : l < 2 ^ 64) (hf : f < 256) : lane j (times l f) = gm (lane j l) f := by
  have := timesG_hom (lane j) (fun l => l < 2 ^ 64) (lane_xor j) (fun l hl => ⟨lane_dbl hl, dbl_lt hl⟩) 8 f l 0 hf h
  unfold times
  rw [this]
  have z : lane j 0 = 0 := by unfold lane; rw [Nat.zero_div]
  rw [z, Nat.zero_xor]
  rfl
theorem oct_get {k x i : Nat} (h : i < k) : ((oct k x).getD i 0).toNat = lane (k - 1 - i) x := by
  unfold oct
  rw [List.getD_eq_getElem?_getD, List.getElem?_reverse (by simpa using h)]
  simp only [List.length_map, List.length_range]
  rw [List.getElem?_map, List.getElem?_range (by omega)]
  show (UInt8.ofNat (x / 256 ^ (k - 1 - i) % 256)).toNat = _
  unfold lane
  rw [UInt8.toNat_ofNat_of_lt']
  exact Nat.mod_lt _ (by decide)
theorem lane_mod {k j : Nat} (x : Nat) (h : j < k) : lane j (x % 256 ^ k) = lane j x := by
  unfold lane
  rw [show 256 ^ k = 256 ^ j * 256 ^ (k - j) by rw [← Nat.pow_add]; congr 1; omega, Nat.mod_mul_right_div_self]
  refine Nat.mod_mod_of_dvd _ ?_
  have : k - j = (k - j - 1) + 1 := by omega
  rw [this, Nat.pow_succ]
  exact Nat.dvd_mul_left ..
theorem octN_get {k x i : Nat} (h : i < k) : ((octN k x).getD i 0).toNat = lane (k - 1 - i) x := by
  unfold octN
  rw [oct_get h, lane_mod _ (by omega)]
theorem list_ext {a b : List UInt8} (hl : a.length = b.length) (h : ∀ i, i < a.length → (a.getD i 0).toNat = (b.getD i 0).toNat) : a = b := by
  refine List.ext_getElem hl fun i h1 h2 => ?_
  have := h i h1
  rw [List.getD_eq_getElem?_getD, List.getD_eq_getElem?_getD, List.getElem?_eq_getElem h1, List.getElem?_eq_getElem h2] at this
  exact UInt8.toNat_inj.mp this
theorem getD_left {a b : List UInt8} {i : Nat} (h : i < a.length) : (a ++ b).getD i 0 = a.getD i 0 := by
  rw [List.getD_eq_getElem?_getD, List.getElem?_append_left h, ← List.getD_eq_getElem?_getD]
theorem getD_right {a b : List UInt8} {i : Nat} (h : a.length ≤ i) : (a ++ b).getD i 0 = b.getD (i - a.length) 0 := by
  rw [List.getD_eq_getElem?_getD, List.getElem?_append_right h, ← List.getD_eq_getElem?_getD]
/-- the octets of the digest -/
theorem oct_join {s lead rest : Nat} (h4 : 4 ≤ s) (h : rest < 256 ^ (s - 4)) : octN 4 lead ++ octN (s - 4) rest = octN s (lead * 256 ^ (s - 4) + rest) := by
  refine list_ext (by rw [List.length_append, octN_len, octN_len, octN_len]; omega) fun i hi => ?_
  rw [List.length_append, octN_len, octN_len] at hi
  rw [octN_get (by omega)]
  by_cases q : i < 4
  · rw [getD_left (by rw [octN_len]; exact q), octN_get q]
    unfold lane
    have : 256 ^ (s - 1 - i) = 256 ^ (s - 4) * 256 ^ (4 - 1 - i) := by rw [← Nat.pow_add]; congr 1; omega
    rw [this, ← Nat.div_div_eq_div_mul, Nat.mul_comm lead, Nat.mul_add_div (Nat.pow_pos (by decide)), Nat.div_eq_of_lt h, Nat.add_zero]
  · rw [getD_right (by rw [octN_len]; omega), octN_len, octN_get (by omega)]
    rw [show s - 4 - 1 - (i - 4) = s - 1 - i by omega, ← lane_mod (k := s - 4) rest (by omega), ← lane_mod (k := s - 4) (lead * 256 ^ (s - 4) + rest) (by omega), Nat.mul_comm, Nat.mul_add_mod]
end Mine

-- M4
namespace Mine
noncomputable def sumX : List Nat → (Nat → Nat) → Nat
  | [], _ => 0
  | x :: xs, f => f x ^^^ sumX xs f
theorem sumX_lt {f : Nat → Nat} : ∀ (xs : List Nat), (∀ x ∈ xs, f x < 256) → sumX xs f < 256
  | [], _ => (by decide : (0 : Nat) < 256)
  | x :: xs, h => xor_256 (h x (.head _)) (sumX_lt xs fun y hy => h y (.tail _ hy))
theorem sumX_xor (f g : Nat → Nat) : ∀ xs : List Nat, sumX xs (fun x => f x ^^^ g x) = sumX xs f ^^^ sumX xs g
  | [] => (by decide : (0 : Nat) = 0 ^^^ 0)
  | x :: xs => by
    show (f x ^^^ g x) ^^^ sumX xs (fun x => f x ^^^ g x) = (f x ^^^ sumX xs f) ^^^ (g x ^^^ sumX xs g)
    rw [sumX_xor f g xs, xor4]
theorem sumX_congr {f g : Nat → Nat} : ∀ xs : List Nat, (∀ x ∈ xs, f x = g x) → sumX xs f = sumX xs g
  | [], _ => rfl
  | x :: xs, h => by
    show f x ^^^ sumX xs f = g x ^^^ sumX xs g
    rw [h x (.head _), sumX_congr xs fun y hy => h y (.tail _ hy)]
theorem sumX_mul {f : Nat → Nat} (c : Nat) : ∀ xs : List Nat, (∀ x ∈ xs, f x < 256) → sumX xs (fun x => gm (f x) c) = gm (sumX xs f) c
  | [], _ => (gm_0l c).symm
  | x :: xs, h => by
    show gm (f x) c ^^^ sumX xs (fun x => gm (f x) c) = gm (f x ^^^ sumX xs f) c
    rw [sumX_mul c xs (fun y hy => h y (.tail _ hy)), gm_xl _ (h x (.head _)) (sumX_lt xs fun y hy => h y (.tail _ hy))]
noncomputable def pol : List Nat → Nat → Nat
  | [], _ => 0
  | c :: cs, x => c ^^^ gm (pol cs x) x
abbrev OkB (cs : List Nat) : Prop := ∀ c ∈ cs, c < 256
theorem pol_lt (x : Nat) : ∀ cs, OkB cs → pol cs x < 256
  | [], _ => (by decide : (0 : Nat) < 256)
  | c :: cs, h => xor_256 (h c (.head _)) (gm_lt _ (pol_lt x cs fun y hy => h y (.tail _ hy)))
noncomputable def addc (c : Nat) : List Nat → List Nat
  | [] => [c]
  | d :: ds => (c ^^^ d) :: ds
noncomputable def mulp : List Nat → Nat → List Nat
  | [], _ => [0]
  | c :: cs, p => gm c p :: addc c (mulp cs p)
theorem pol_addc (c x : Nat) : ∀ l, pol (addc c l) x = c ^^^ pol l x
  | [] => by
    show c ^^^ gm 0 x = c ^^^ 0
    rw [gm_0l]
  | d :: ds => Nat.xor_assoc ..
theorem addc_ok {c : Nat} (hc : c < 256) : ∀ l, OkB l → OkB (addc c l)
  | [], _, y, hy => by rw [List.mem_singleton.mp hy]; exact hc
  | d :: ds, h, y, hy => by
    rcases List.mem_cons.mp hy with rfl | hy
    · exact xor_256 hc (h d (.head _))
    · exact h y (.tail _ hy)
theorem addc_len (c : Nat) : ∀ l, 0 < l.length → (addc c l).length = l.length
  | d :: ds, _ => rfl
theorem mulp_len (p : Nat) : ∀ cs, (mulp cs p).length = cs.length + 1
  | [] => rfl
  | c :: cs => by
    show (addc c (mulp cs p)).length + 1 = _
    rw [addc_len _ _ (by rw [mulp_len p cs]; exact Nat.succ_pos _), mulp_len p cs]
    rfl
theorem mulp_ok (p : Nat) : ∀ cs, OkB cs → OkB (mulp cs p)
  | [], _, y, hy => by rw [List.mem_singleton.mp hy]; decide
  | c :: cs, h, y, hy => by
    rcases List.mem_cons.mp hy with rfl | hy
    · exact gm_lt _ (h c (.head _))
    · exact addc_ok (h c (.head _)) _ (mulp_ok p cs fun z hz => h z (.tail _ hz)) y hy
theorem mulp_pol {x p : Nat} (hx : x < 256) (hp : p < 256) : ∀ cs, OkB cs → pol (mulp cs p) x = gm (pol cs x) (x ^^^ p)
  | [], _ => by
    show 0 ^^^ gm 0 x = gm 0 (x ^^^ p)
    rw [gm_0l, gm_0l]; rfl
  | c :: cs, h => by
    have hc := h c (.head _)
    have hcs : OkB cs := fun z hz => h z (.tail _ hz)
    have hQ := pol_lt x cs hcs
    have hu := xor_256 hx hp
    show gm c p ^^^ gm (pol (addc c (mulp cs p)) x) x = gm (c ^^^ gm (pol cs x) x) (x ^^^ p)
    rw [pol_addc, mulp_pol hx hp cs hcs, gm_xl _ hc (gm_lt _ hQ), gm_xl _ hc (gm_lt _ hQ), gm_xr c, gm_assoc hQ hu hx, gm_comm hu hx, ← gm_assoc hQ hx hu, ← Nat.xor_assoc, Nat.xor_comm (gm c p)]
noncomputable def rch (x : Nat) (ks : List Nat) : Nat := ks.foldl (fun t p => gm t (x ^^^ p)) 1
theorem rch_fold : ∀ (ks : List Nat), OkB ks → ∀ cs, OkB cs → ∃ ds, OkB ds ∧ ds.length = cs.length + ks.length ∧ ∀ x, x < 256 → ks.foldl (fun t p => gm t (x ^^^ p)) (pol cs x) = pol ds x
  | [], _, cs, h => ⟨cs, h, rfl, fun _ _ => rfl⟩
  | p :: ks, hk, cs, h => by
    obtain ⟨ds, h1, h2, h3⟩ := rch_fold ks (fun y hy => hk y (.tail _ hy)) (mulp cs p) (mulp_ok p cs h)
    refine ⟨ds, h1, by rw [h2, mulp_len, List.length_cons]; omega, fun x hx => ?_⟩
    rw [List.foldl_cons, ← mulp_pol hx (hk p (.head _)) cs h]
    exact h3 x hx
theorem rch_pol {ks : List Nat} (h : OkB ks) : ∃ ds, OkB ds ∧ ds.length = 1 + ks.length ∧ ∀ x, x < 256 → rch x ks = pol ds x := by
  obtain ⟨ds, h1, h2, h3⟩ := rch_fold ks h [1] (fun y hy => by rw [List.mem_singleton.mp hy]; decide)
  refine ⟨ds, h1, h2, fun x hx => ?_⟩
  have := h3 x hx
  rw [show pol [1] x = 1 by show 1 ^^^ gm 0 x = 1; rw [gm_0l]; rfl] at this
  exact this
theorem rch_lt {ks : List Nat} (x : Nat) : ∀ (t : Nat), t < 256 → ks.foldl (fun t p => gm t (x ^^^ p)) t < 256 := by
  induction ks with
  | nil => intro t h; exact h
  | cons p ks ih => intro t h; exact ih _ (gm_lt _ h)
theorem reach_rch {ks : List Nat} {x : Nat} (hx : x < 256) (h : OkB ks) : reach x ks = rch x ks := by
  unfold reach rch
  have key : ∀ (ks : List Nat) (t : Nat), OkB ks → t < 256 → ks.foldl (fun t p => times t (x ^^^ p)) t = ks.foldl (fun t p => gm t (x ^^^ p)) t := by
    intro ks
    induction ks with
    | nil => intro t _ _; rfl
    | cons p ks ih =>
      intro t hk ht
      rw [List.foldl_cons, List.foldl_cons, times_gm ht (xor_256 hx (hk p (.head _)))]
      exact ih _ (fun y hy => hk y (.tail _ hy)) (gm_lt _ ht)
  exact key ks 1 h (by decide)
theorem xor_zero {x p : Nat} (h : x ^^^ p = 0) : x = p := by
  have h1 : (x ^^^ p) ^^^ p = 0 ^^^ p := by rw [h]
  rw [Nat.xor_assoc, Nat.xor_self, Nat.xor_zero, Nat.zero_xor] at h1
  exact h1
theorem rch_zero {ks : List Nat} {x : Nat} (hx : x < 256) (h : OkB ks) : rch x ks = 0 ↔ x ∈ ks := by
  unfold rch
  have key : ∀ (ks : List Nat) (t : Nat), OkB ks → t < 256 → (ks.foldl (fun t p => gm t (x ^^^ p)) t = 0 ↔ t = 0 ∨ x ∈ ks) := by
    intro ks
    induction ks with
    | nil => intro t _ _; simp
    | cons p ks ih =>
      intro t hk ht
      have hp := hk p (.head _)
      rw [List.foldl_cons, ih _ (fun y hy => hk y (.tail _ hy)) (gm_lt _ ht), List.mem_cons, ← or_assoc]
      have : gm t (x ^^^ p) = 0 ↔ t = 0 ∨ x = p := by
        constructor
        · intro h
          by_cases h1 : t = 0
          · exact .inl h1
          · refine .inr ?_
            by_cases h2 : x ^^^ p = 0
            · exact xor_zero h2
            · exact absurd h (gm_ne ht (xor_256 hx hp) h1 h2)
        · rintro (rfl | rfl)
          · exact gm_0l _
          · rw [Nat.xor_self, gm_0]
      rw [this]
  have := key ks 1 h (by decide)
  simpa using this
noncomputable def gpw (x : Nat) : Nat → Nat
  | 0 => 1
  | e + 1 => gm (gpw x e) x
theorem gpw_lt (x : Nat) : ∀ e, gpw x e < 256
  | 0 => (by decide : (1 : Nat) < 256)
  | e + 1 => gm_lt _ (gpw_lt x e)
theorem exact_pol {xs : List Nat} {w : Nat → Nat} {t N : Nat} (hxs : OkB xs) (hw : ∀ x ∈ xs, w x < 256) (ht : t < 256) (H : ∀ e, e < N → sumX xs (fun x => gm (gpw x e) (w x)) = gpw t e) :
    ∀ cs, OkB cs → ∀ e, e + cs.length ≤ N → sumX xs (fun x => gm (gm (pol cs x) (gpw x e)) (w x)) = gm (pol cs t) (gpw t e)
  | [], _, e, _ => by
    show sumX xs (fun x => gm (gm 0 (gpw x e)) (w x)) = gm 0 (gpw t e)
    rw [gm_0l, sumX_congr (g := fun _ => 0) xs fun x _ => by rw [gm_0l, gm_0l]]
    induction xs with
    | nil => rfl
    | cons x xs ih =>
      show 0 ^^^ sumX xs _ = 0
      have : ∀ ys : List Nat, sumX ys (fun _ => 0) = 0 := fun ys => by
        induction ys with
        | nil => rfl
        | cons y ys ih => show 0 ^^^ sumX ys _ = 0; rw [ih]; rfl
      rw [this]; rfl
  | c :: cs, h, e, he => by
    have hc := h c (.head _)
    have hcs : OkB cs := fun z hz => h z (.tail _ hz)
    have he' : e + 1 + cs.length ≤ N := by rw [List.length_cons] at he; omega
    have IH := exact_pol hxs hw ht H cs hcs (e + 1) he'
    have term : ∀ x, x < 256 → gm (pol (c :: cs) x) (gpw x e) = gm c (gpw x e) ^^^ gm (pol cs x) (gpw x (e + 1)) := fun x hx => by
      show gm (c ^^^ gm (pol cs x) x) (gpw x e) = _ ^^^ gm (pol cs x) (gm (gpw x e) x)
      rw [gm_xl _ hc (gm_lt _ (pol_lt x cs hcs)), gm_assoc (pol_lt x cs hcs) hx (gpw_lt x e), gm_comm hx (gpw_lt x e)]
    rw [sumX_congr (g := fun x => gm (gm (gpw x e) (w x)) c ^^^ gm (gm (pol cs x) (gpw x (e + 1))) (w x)) xs fun x hx => by
      rw [term x (hxs x hx), gm_xl _ (gm_lt _ hc) (gm_lt _ (pol_lt x cs hcs)), gm_assoc hc (gpw_lt x e) (hw x hx), gm_comm hc (gm_lt _ (gpw_lt x e))], sumX_xor, sumX_mul c xs (fun x hx => gm_lt _ (gpw_lt x e)), IH, H e (by rw [List.length_cons] at he; omega), term t ht, gm_comm (gpw_lt t e) hc]
noncomputable abbrev ptsX (k : Nat) : List Nat := List.range k ++ [254, 255]
noncomputable def wtX (k t x : Nat) : Nat := xp (basis (ptsX k) t x)
theorem wt_ok : ∀ k, k < 4 → ∀ d, d < 4 → ∀ e, e < k + 2 → sumX (ptsX k) (fun x => gm (gpw x e) (wtX k (k + d) x)) = gpw (k + d) e := by decide +kernel
end Mine

-- M5
namespace Mine
theorem rch_lt' (x : Nat) (ks : List Nat) : rch x ks < 256 := rch_lt x 1 (by decide)
theorem sameB_get {a b : List UInt8} {i : Nat} (h1 : i < a.length) (h2 : i < b.length) : (sameB a b)[i]? = some (decide ((a.getD i 0).toNat ^^^ (b.getD i 0).toNat = 0)) := by
  unfold sameB
  rw [List.getElem?_zipWith, List.getD_eq_getElem?_getD, List.getD_eq_getElem?_getD, List.getElem?_eq_getElem h1, List.getElem?_eq_getElem h2]
  show some _ = some _
  congr 1
  rw [Bool.eq_iff_iff, beq_iff_eq, decide_eq_true_eq]
  exact ⟨fun h => by rw [h]; exact Nat.xor_self _, fun h => UInt8.toNat_inj.mp (xor_zero h)⟩
theorem ext_b {l l' : List Bool} {n : Nat} (h1 : l.length = n) (h2 : l'.length = n) (h : ∀ i, i < n → l[i]? = l'[i]?) : l = l' := by
  apply List.ext_getElem?
  intro i
  by_cases q : i < n
  · exact h i q
  · rw [List.getElem?_eq_none (by omega), List.getElem?_eq_none (by omega)]
noncomputable def invB : Nat → Nat → Nat → Nat
  | 0, _, t => t
  | n + 1, o, t => invB n (gm o o) (gm t (gm o o))
theorem inv_eq : ∀ (n o t : Nat), o < 256 → t < 256 → invS n o t = invB n o t
  | 0, _, _, _, _ => rfl
  | n + 1, o, t, ho, ht => by
    show invS n (times o o) (times t (times o o)) = invB n (gm o o) (gm t (gm o o))
    rw [times_gm ho ho, times_gm ht (gm_lt _ ho)]
    exact inv_eq n _ _ (gm_lt _ ho) (gm_lt _ ht)
theorem inv_ok : ∀ o, o < 256 → o ≠ 0 → gm (invB 7 o 1) o = 1 ∧ invB 7 o 1 < 256 := by decide +kernel
theorem kst_mem (ns : List Int) (m : Nat) : ∀ i, i ≤ m → (∀ x ∈ (kst ns m i).1, x < m) ∧ (∀ x ∈ (kst ns m i).2, x < m)
  | 0, _ => ⟨fun x hx => List.mem_range.mp hx, fun x hx => (nomatch hx)⟩
  | i + 1, h => by
    obtain ⟨h1, h2⟩ := kst_mem ns m i (by omega)
    have hk := kidx_lt (ns := ns) (m := m) (i := i) (by omega)
    refine ⟨fun x hx => h1 x (List.mem_of_mem_eraseIdx hx), fun x hx => ?_⟩
    rcases List.mem_append.mp hx with hx | hx
    · exact h2 x hx
    · rw [List.mem_singleton.mp hx, List.getD_eq_getElem?_getD, List.getElem?_eq_getElem hk]
      exact h1 _ (List.getElem_mem hk)
theorem known_len (ns : List Int) : (knownN ns).length = kk ns + 1 := (kst_len ns (memb ns) (kk ns + 1) (by have := memb_le ns; omega)).2
theorem known_lt (ns : List Int) : ∀ x ∈ knownN ns, x < memb ns := (kst_mem ns (memb ns) (kk ns + 1) (by have := memb_le ns; omega)).2
theorem known_ok (ns : List Int) : OkB (knownN ns) := fun x hx => by
  have := known_lt ns x hx
  have := memb_le ns
  have := kk_le ns
  omega
/-- interp, lane by lane -/
theorem step_lane {l i size : Nat} {vs rs : List UInt8} (hv : vs.length = size) (hi : i < size) : ((stepB l vs rs).getD i 0).toNat = (rs.getD i 0).toNat ^^^ mulL (vs.getD i 0).toNat l := by
  unfold stepB
  rw [List.getD_eq_getElem?_getD, List.getElem?_map, List.getElem?_range (by omega)]
  show (((rs.getD i 0).toNat ^^^ mulL (vs.getD i 0).toNat l).toUInt8).toNat = _
  show (UInt8.ofNat _).toNat = _
  rw [UInt8.toNat_ofNat_of_lt']
  exact xor_256 (UInt8.toNat_lt _) (mulL_lt _ _)
theorem fold_lane (B : Nat → Nat) (d : Nat → List UInt8) {i size : Nat} (hi : i < size) : ∀ (xs : List Nat) (r : List UInt8), (∀ x ∈ xs, (d x).length = size) → (((xs.map fun x => (x, d x)).foldl (fun r p => stepB (B p.1) p.2 r) r).getD i 0).toNat = (r.getD i 0).toNat ^^^ sumX xs (fun x => mulL ((d x).getD i 0).toNat (B x))
  | [], r, _ => (Nat.xor_zero _).symm
  | x :: xs, r, h => by
    rw [List.map_cons, List.foldl_cons, fold_lane B d hi xs _ fun y hy => h y (.tail _ hy), step_lane (h x (.head _)) hi, Nat.xor_assoc]
    rfl
theorem fm_lt (a : Int) : (a.fmod 255).toNat < 255 := by
  have h1 := Int.fmod_lt_of_pos a (b := 255) (by decide)
  have h2 := Int.fmod_nonneg_of_pos a (b := 255) (by decide)
  omega
theorem basis_lt (xs : List Nat) (t x : Nat) : basis xs t x < 255 := by
  unfold basis
  exact fm_lt _
theorem interp_lane {d : Nat → List UInt8} {i size t : Nat} (hi : i < size) (xs : List Nat) (h : ∀ x ∈ xs, (d x).length = size) :
    ((interp (xs.map fun x => (x, d x)) t size).getD i 0).toNat = sumX xs (fun x => gm ((d x).getD i 0).toNat (xp (basis xs t x))) := by
  rw [interp_eq]
  have e : (xs.map fun x => (x, d x)).map (fun q => q.1) = xs := by
    rw [List.map_map]
    exact List.map_id xs
  rw [e, fold_lane (basis xs t) d hi xs _ h]
  have z : ((List.replicate size (0 : UInt8)).getD i 0).toNat = 0 := by
    rw [List.getD_eq_getElem?_getD, List.getElem?_replicate, if_pos hi]
    rfl
  rw [z, Nat.zero_xor]
  exact sumX_congr xs fun x _ => mulL_gm (UInt8.toNat_lt _) (basis_lt _ _ _)
noncomputable def dOf (lead rst secret : List UInt8) (bs : List (List UInt8)) (x : Nat) : List UInt8 := if x = 254 then lead ++ rst else if x = 255 then secret else bs.getD x []
theorem base_map {k : Nat} (hk : k ≤ 100) (lead rst secret : List UInt8) (bs : List (List UInt8)) : baseS k lead rst secret bs = (ptsX k).map fun x => (x, dOf lead rst secret bs x) := by
  unfold baseS shs0 ptsX
  rw [List.map_append]
  congr 1
  refine List.map_congr_left fun x hx => ?_
  have := List.mem_range.mp hx
  unfold dOf
  rw [if_neg (by omega), if_neg (by omega)]
theorem split_get {k m size x : Nat} {lead rst secret : List UInt8} {bs : List (List UInt8)} (hx : x < m) (hk : k ≤ m) : (splitS k m size lead rst secret bs).getD x (0, []) = if x < k then (x, bs.getD x []) else (x, interp (baseS k lead rst secret bs) x size) := by
  unfold splitS
  rw [List.getD_eq_getElem?_getD]
  by_cases h : x < k
  · rw [if_pos h, List.getElem?_append_left (by rw [shs0_len]; exact h)]
    unfold shs0
    rw [List.getElem?_map, List.getElem?_range h]
    rfl
  · rw [if_neg h, List.getElem?_append_right (by rw [shs0_len]; omega), shs0_len]
    unfold restS
    rw [List.getElem?_map, List.getElem?_range (by omega)]
    show (k + (x - k), interp _ (k + (x - k)) size) = _
    rw [show k + (x - k) = x by omega]
section
variable (ns : List Int)
noncomputable def n1 (x : Nat) : Nat := if x = 254 then digestN ns else if x = 255 then secretN ns else (drawnN ns).getD x 0
noncomputable def n2 (x : Nat) : Nat := if x = 254 then digestN ns ^^^ times (liftN ns) (reach 254 (knownN ns)) else if x = 255 then otherN ns else (turnedN ns).getD x 0
noncomputable abbrev d1 (x : Nat) : List UInt8 := dOf (octN 4 (leadN ns)) (octN (sizeN ns - 4) (restN ns)) (octN (sizeN ns) (secretN ns)) (bs1 ns) x
noncomputable abbrev d2 (x : Nat) : List UInt8 := dOf ((freshN ns).take 4) ((freshN ns).drop 4) (octN (sizeN ns) (otherN ns)) (bs2 ns) x
variable {ns}
theorem pts_cases {k x : Nat} (h : x ∈ ptsX k) : x < k ∨ x = 254 ∨ x = 255 := by
  rcases List.mem_append.mp h with h | h
  · exact .inl (List.mem_range.mp h)
  · rcases List.mem_cons.mp h with h | h
    · exact .inr (.inl h)
    · exact .inr (.inr (List.mem_singleton.mp h))
theorem bs1_get {x : Nat} (h : x < kk ns) : (bs1 ns).getD x [] = octN (sizeN ns) ((drawnN ns).getD x 0) := by
  have hl : (drawnN ns).length = kk ns := by simp [drawnN]
  unfold bs1
  rw [List.getD_eq_getElem?_getD, List.getElem?_append_left (by rw [List.length_map, hl]; exact h), List.getElem?_map, List.getElem?_eq_getElem (by rw [hl]; exact h), List.getD_eq_getElem?_getD, List.getElem?_eq_getElem (by rw [hl]; exact h)]
  rfl
theorem bs2_get {x : Nat} (h : x < kk ns) : (bs2 ns).getD x [] = octN (sizeN ns) ((turnedN ns).getD x 0) := by
  have hl : (turnedN ns).length = kk ns := by simp [turnedN]
  unfold bs2
  rw [List.getD_eq_getElem?_getD, List.getElem?_append_left (by rw [List.length_map, hl]; exact h), List.getElem?_map, List.getElem?_eq_getElem (by rw [hl]; exact h), List.getD_eq_getElem?_getD, List.getElem?_eq_getElem (by rw [hl]; exact h)]
  rfl
theorem turned_get {x : Nat} (h : x < kk ns) : (turnedN ns).getD x 0 = (drawnN ns).getD x 0 ^^^ times (liftN ns) (reach x (knownN ns)) := by
  unfold turnedN
  rw [List.getD_eq_getElem?_getD, List.getElem?_map, List.getElem?_range h]
  rfl
theorem d1_eq {x : Nat} (h : x ∈ ptsX (kk ns)) : d1 ns x = octN (sizeN ns) (n1 ns x) := by
  have hk := kk_le ns
  have hs := size_le ns
  unfold d1 dOf n1
  rcases pts_cases h with h | rfl | rfl
  · rw [if_neg (by omega), if_neg (by omega), if_neg (by omega), if_neg (by omega), bs1_get h]
  · rw [if_pos rfl, if_pos rfl]
    exact oct_join (by omega) (lanes_lt ..)
  · rw [if_neg (by decide), if_pos rfl, if_neg (by decide), if_pos rfl]
theorem d2_eq {x : Nat} (h : x ∈ ptsX (kk ns)) : d2 ns x = octN (sizeN ns) (n2 ns x) := by
  have hk := kk_le ns
  unfold d2 dOf n2
  rcases pts_cases h with h | rfl | rfl
  · rw [if_neg (by omega), if_neg (by omega), if_neg (by omega), if_neg (by omega), bs2_get h]
  · rw [if_pos rfl, if_pos rfl, List.take_append_drop]
    rfl
  · rw [if_neg (by decide), if_pos rfl, if_neg (by decide), if_pos rfl]
theorem pts_lt {k x : Nat} (hk : k ≤ 3) (h : x ∈ ptsX k) : x < 256 := by
  rcases pts_cases h with h | rfl | rfl
  · omega
  · decide
  · decide
/-- the two splits differ by lift * reach at every point -/
theorem n12 (j : Nat) {x : Nat} (h : x ∈ ptsX (kk ns)) : lane j (n1 ns x) ^^^ lane j (n2 ns x) = gm (lane j (liftN ns)) (rch x (knownN ns)) := by
  have hk := kk_le ns
  have hx := pts_lt hk h
  have hR : rch x (knownN ns) < 256 := rch_lt x 1 (by decide)
  rw [← reach_rch hx (known_ok ns), ← lane_times (lift64 ns) (by rw [reach_rch hx (known_ok ns)]; exact hR)]
  unfold n1 n2
  rcases pts_cases h with h | rfl | rfl
  · rw [if_neg (by omega), if_neg (by omega), if_neg (by omega), if_neg (by omega), turned_get h, lane_xor, ← Nat.xor_assoc, Nat.xor_self, Nat.zero_xor]
  · rw [if_pos rfl, if_pos rfl, lane_xor, ← Nat.xor_assoc, Nat.xor_self, Nat.zero_xor]
  · rw [if_neg (by decide), if_pos rfl, if_neg (by decide), if_pos rfl, ← lane_xor]
    have r0 : rch 255 (knownN ns) ≠ 0 := fun e => by
      have := known_lt ns 255 ((rch_zero (by decide) (known_ok ns)).mp e)
      have := memb_le ns
      omega
    obtain ⟨i1, i2⟩ := inv_ok _ hR r0
    have hi : inverse (reach 255 (knownN ns)) = invB 7 (rch 255 (knownN ns)) 1 := by
      rw [reach_rch (by decide) (known_ok ns)]
      exact inv_eq 7 _ 1 hR (by decide)
    rw [lane_times (lift64 ns) (by rw [reach_rch hx (known_ok ns)]; exact hR)]
    unfold liftN
    rw [hi, lane_times (diff64 ns) i2, reach_rch hx (known_ok ns), gm_assoc (lane_lt256 _ _) i2 hR, i1, gm_1 _ (lane_lt256 _ _)]
theorem lift_zero (j : Nat) : lane j (liftN ns) = 0 ↔ lane j (secretN ns) = lane j (otherN ns) := by
  have hR : rch 255 (knownN ns) < 256 := rch_lt 255 1 (by decide)
  have r0 : rch 255 (knownN ns) ≠ 0 := fun e => by
    have := known_lt ns 255 ((rch_zero (by decide) (known_ok ns)).mp e)
    have := memb_le ns
    have := kk_le ns
    omega
  have hm : (255 : Nat) ∈ ptsX (kk ns) := List.mem_append_right _ (.tail _ (.head _))
  have e := n12 (ns := ns) j hm
  have e1 : n1 ns 255 = secretN ns := by unfold n1; rw [if_neg (by decide), if_pos rfl]
  have e2 : n2 ns 255 = otherN ns := by unfold n2; rw [if_neg (by decide), if_pos rfl]
  rw [e1, e2] at e
  constructor
  · intro h
    rw [h, gm_0l] at e
    exact xor_zero e
  · intro h
    rw [h, Nat.xor_self] at e
    by_cases q : lane j (liftN ns) = 0
    · exact q
    · exact absurd e.symm (gm_ne (lane_lt256 _ _) hR q r0)
theorem diff_at {x i : Nat} (hx : x < memb ns) (hi : i < sizeN ns) :
    (((oneN ns).getD x (0, [])).2.getD i 0).toNat ^^^ (((twoN ns).getD x (0, [])).2.getD i 0).toNat = gm (lane (sizeN ns - 1 - i) (liftN ns)) (rch x (knownN ns)) := by
  have hk := kk_le ns
  obtain ⟨hm1, hm2⟩ := memb_le ns
  unfold oneN twoN
  rw [split_get hx (by omega), split_get hx (by omega)]
  by_cases h : x < kk ns
  · have hp : x ∈ ptsX (kk ns) := List.mem_append_left _ (List.mem_range.mpr h)
    rw [if_pos h, if_pos h]
    show (((bs1 ns).getD x []).getD i 0).toNat ^^^ (((bs2 ns).getD x []).getD i 0).toNat = _
    rw [bs1_get h, bs2_get h, octN_get hi, octN_get hi, ← n12 _ hp]
    unfold n1 n2
    rw [if_neg (by omega), if_neg (by omega), if_neg (by omega), if_neg (by omega)]
  · rw [if_neg h, if_neg h]
    show ((interp (baseS _ _ _ _ _) x (sizeN ns)).getD i 0).toNat ^^^ ((interp (baseS _ _ _ _ _) x (sizeN ns)).getD i 0).toNat = _
    rw [base_map (by omega), base_map (by omega), interp_lane hi _ (fun y hy => by rw [show dOf _ _ _ _ y = octN _ _ from d1_eq hy]; exact octN_len ..), interp_lane hi _ (fun y hy => by rw [show dOf _ _ _ _ y = octN _ _ from d2_eq hy]; exact octN_len ..), ← sumX_xor]
    obtain ⟨cs, c1, c2, c3⟩ := rch_pol (known_ok ns)
    have hw : ∀ y ∈ ptsX (kk ns), xp (basis (ptsX (kk ns)) x y) < 256 := fun y hy => xp_lt _
    have hLf := lane_lt256 (sizeN ns - 1 - i) (liftN ns)
    rw [sumX_congr (g := fun y => gm (gm (gm (pol cs y) (gpw y 0)) (wtX (kk ns) x y)) (lane (sizeN ns - 1 - i) (liftN ns))) _ fun y hy => ?_]
    · have E := exact_pol (xs := ptsX (kk ns)) (w := wtX (kk ns) x) (t := x) (N := kk ns + 2) (fun y hy => pts_lt hk hy) hw (by omega) (fun e he => by
        have := wt_ok (kk ns) (by omega) (x - kk ns) (by omega) e he
        rw [show kk ns + (x - kk ns) = x by omega] at this
        exact this) cs c1 0 (by rw [c2, known_len]; omega)
      rw [sumX_mul _ _ (fun y hy => gm_lt _ (gm_lt _ (pol_lt y cs c1))), E]
      show gm (gm (pol cs x) 1) _ = _
      rw [gm_1 _ (pol_lt x cs c1), ← c3 x (by omega), gm_comm (rch_lt' x _) hLf]
    · have hy' := pts_lt hk hy
      show gm ((d1 ns y).getD i 0).toNat _ ^^^ gm ((d2 ns y).getD i 0).toNat _ = _
      rw [d1_eq hy, d2_eq hy, octN_get hi, octN_get hi, ← gm_xl _ (lane_lt256 _ _) (lane_lt256 _ _), n12 _ hy, c3 y hy']
      show _ = gm (gm (gm (pol cs y) 1) _) _
      have hp := pol_lt y cs c1
      rw [gm_1 _ hp, gm_assoc hLf hp (hw y hy), gm_comm hLf (gm_lt _ hp)]
      rfl
theorem law_ok (ns : List Int) : LawOk ns := fun x hx => by
  have z1 : ((oneN ns).getD x (0, [])).2.length = sizeN ns := one_ok ns _ (List.mem_of_getElem? (get_of (by rw [one_len]; exact hx)))
  have z2 : ((twoN ns).getD x (0, [])).2.length = sizeN ns := two_ok ns _ (List.mem_of_getElem? (get_of (by rw [two_len]; exact hx)))
  have hxb : x < 256 := by have := memb_le ns; have := kk_le ns; omega
  have hlen : (sameB ((oneN ns).getD x (0, [])).2 ((twoN ns).getD x (0, [])).2).length = sizeN ns := by unfold sameB; rw [List.length_zipWith, z1, z2, Nat.min_self]
  have hlen2 : (alikeN ns).length = sizeN ns := by unfold alikeN sameB; rw [List.length_zipWith, octN_len, octN_len, Nat.min_self]
  have one : ∀ i, i < sizeN ns → (sameB ((oneN ns).getD x (0, [])).2 ((twoN ns).getD x (0, [])).2)[i]? = some (decide (gm (lane (sizeN ns - 1 - i) (liftN ns)) (rch x (knownN ns)) = 0)) := fun i h1 => by
    rw [sameB_get (by rw [z1]; exact h1) (by rw [z2]; exact h1), diff_at hx h1]
  by_cases hk : (knownN ns).any (· == x) = true
  · rw [if_pos hk]
    obtain ⟨y, hy, e⟩ := List.any_eq_true.mp hk
    have := beq_iff_eq.mp e
    subst this
    refine ext_b hlen List.length_replicate fun i h1 => ?_
    rw [one i h1, (rch_zero hxb (known_ok ns)).mpr hy, gm_0, List.getElem?_replicate, if_pos h1]
    rfl
  · rw [if_neg hk]
    have hn : x ∉ knownN ns := fun hm => hk (List.any_eq_true.mpr ⟨x, hm, beq_iff_eq.mpr rfl⟩)
    have r0 : rch x (knownN ns) ≠ 0 := fun e => hn ((rch_zero hxb (known_ok ns)).mp e)
    refine ext_b hlen hlen2 fun i h1 => ?_
    rw [one i h1]
    unfold alikeN
    rw [sameB_get (by rw [octN_len]; exact h1) (by rw [octN_len]; exact h1), octN_get h1, octN_get h1]
    congr 1
    rw [Bool.eq_iff_iff, decide_eq_true_eq, decide_eq_true_eq]
    constructor
    · intro h
      by_cases q : lane (sizeN ns - 1 - i) (liftN ns) = 0
      · rw [(lift_zero _).mp q, Nat.xor_self]
      · exact absurd h (gm_ne (lane_lt256 _ _) (rch_lt' x _) q r0)
    · intro h
      rw [(lift_zero _).mpr (xor_zero h), gm_0l]
end
end Mine

-- HZ
set_option maxHeartbeats 0 in
theorem PySem.Challenge.cw_jb0040_01_holds : PySem.Challenge.rw_jb0040_01.Holds := by
  w_on
  o_law
  refine holds_open (q := Mine.q1) (loose := Mine.loose1) (Xt := Mine.xt1) (XP := XL Mine.q1 []) (Yf := Mine.hk1.obs) (Ya := Mine.hk1.val) (YP := Mine.hk1.says) (N := 2600) Mine.head_left (Hook.of Mine.hk1) (Hook.keeps Mine.hk1) (fun s e => xl_of s (Bool.and_eq_true_iff.mp e).1) XL.keeps (by rfl) (by rfl) (by rfl) (fun s e => recFacts_of (Bool.and_eq_true_iff.mp e).2) (by rfl) (by first | assumption | decide +kernel) (by decide +kernel) ⟨rfl, rfl, rfl, rfl, rfl, by decide +kernel⟩ ?hw ?hc
  (case hw => w_witness2)
  intro w s₀ s₁ mg mb G Y fa o pm cd doc dV kV ho hd hcd hD hmg hg args vals as hpre hlay hrd hwl hlo
  have KX := km_in_of Y
  have KT := km_tabs_of Y
  clear hd hcd hD
  wrow_args hpre hlay hrd hwl hlo
  rename_i ns q1 q2 hlayable q3 q4 as1 as2 a vs as3 hL ra w1 r0 hI hr hcond hcond2
  refine wpAny_mono (Mine.law_final w _ KX G.T hmg (KT 156 (.head _)) (KT 224 (.tail _ (.head _))) hL hI (by omega) hlayable (Nat.succ_le_of_lt (Heap.lt_size (KX 232 _ (by first | rfl | kernel_rfl)))) (Mine.law_ok ns)) (fun v s' h => ?_) (fun _ _ e => e.elim)
  obtain ⟨rfl, h1, h2, h3⟩ := h
  refine ⟨.inl ⟨.bool true, .bool true, [], rfl, raisesW_false (by wrow_none_raised), .bool _, postW_of (by wrow_shape) (by wtm_val) (by w_fin), unshared_nil⟩, h1, h2, h3 (.of_eq hg)⟩

