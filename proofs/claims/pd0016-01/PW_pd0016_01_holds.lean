import PyProof.Rows.All
import Wide.All
import OpenK.AllK
import KE.KNest
import KE.KSuperObj
import KE.KFromBytes
import Wide.FinOn
import PySem.Challenge.RW_pd0016_01
set_option Elab.async false
set_option linter.unusedVariables false
set_option tactic.hygienic false
section
open PySem PySem.W PyProof.Rows
set_option maxRecDepth 100000
namespace Mine
noncomputable abbrev pw:Program:=PySem.Challenge.pw_pd0016_01
noncomputable def defOfS:Stmt → Arguments × List Stmt × Scope
  | .FunctionDef _ ar b _ _ _ sc _ _ _=>(ar,b,sc)
  | _=>default
noncomputable abbrev fnO (i:Nat) (name mod:Str) (mt:Tok) (code:Addr) (dv:Value):Obj :=
  { cls:=.type "function",data:=.func { name:=name,qualname:=name,params:=(defOfS (pw.main.body.getD i default)).1,body:=.stmts (defOfS (pw.main.body.getD i default)).2.1,scope:=(defOfS (pw.main.body.getD i default)).2.2,globals:=3,closure:=[],defaults:=dv,kwdefaults:=.none,pyModule:=.str mod mt,code:=.ref code } }
noncomputable abbrev cdO (a:Addr) (n:Str) (t:Tok) (l m f:Int) (x:Nat):Obj:={ cls:=.type "code",data:=.fields #[.str n t, .str n (t + 1), .str "/claim/cut.py" (t + 2), .int l 0, .int m 0, .int 0 0, .int 0 0, .int f 0, .ref (a - 5), .bool true, .int 181 0, .ref (a - 4), .none, .ref (a - 3), .ref (a - 2), .ref (a - 1), .int x 0, .int l 0, .str "/claim/cut.py" (x + 1)] }
noncomputable abbrev enO (P:Params) (n:Str) (t:Tok) (v:Value):DictEntry:={ hash:=PyData.keyHash P n,key:=.str n t,val:=v }
noncomputable def kF (P:Params):Frag:=[
  (2,{ cls:=Value.none,data:=Data.dict #[] }),
  (3,{ cls:=Value.type "dict",data:=Data.dict #[{ hash:=PyData.keyHash P (Str.ofString "__name__"),key:=Value.str (Str.ofString "__name__") 165,val:=Value.str (Str.ofString "law_pd0016_01") 399 },enO P "__doc__" 166 (.none),enO P "__package__" 167 (.none),{ hash:=PyData.keyHash P (Str.ofString "__loader__"),key:=Value.str (Str.ofString "__loader__") 168,val:=Value.builtin "__main__.__loader__#opaque" },enO P "__spec__" 169 (.none),enO P "__annotations__" 170 (.ref 6),enO P "__builtins__" 171 (.ref 4),{ hash:=PyData.keyHash P (Str.ofString "__file__"),key:=Value.str (Str.ofString "__file__") 173,val:=Value.str (Str.ofString "/claim/cut.py") 172 },enO P "__cached__" 174 (.none),enO P "_wall" 193 (.ref 21),enO P "cmp_to_key" 204 (.ref 28),enO P "_initial_missing" 205 (.ref 29),enO P "reduce" 217 (.ref 37),enO P "_plain_name" 228 (.ref 44),enO P "ABCMeta" 254 (.ref 61),enO P "_ABCLike" 297 (.ref 94),enO P "_abc_plain_meta" 304 (.ref 103),enO P "fspath" 316 (.ref 110),enO P "_check_arg_types" 329 (.ref 117),enO P "_get_sep" 338 (.ref 124),enO P "join" 349 (.ref 131),enO P "splitroot" 358 (.ref 138),enO P "basename" 367 (.ref 145),enO P "dirname" 377 (.ref 152),enO P "normpath" 392 (.ref 159),enO P "commonpath" 398 (.ref 164),enO P "_law_pieces" 406 (.ref 169),enO P "_law_names" 415 (.ref 176),enO P "_law_place" 421 (.ref 181),enO P "_law_depth" 429 (.ref 188),enO P "_law_child" 437 (.ref 195),enO P "_law_answer" 449 (.ref 202),enO P "_law_table" 455 (.ref 207),enO P "_law_walk" 461 (.ref 212),enO P "_law_sides" 467 (.ref 217),enO P "_law_orders" 473 (.ref 222),enO P "_law_tour" 482 (.ref 229),enO P "_law_together" 488 (.ref 234),enO P "_law_tours" 494 (.ref 239),enO P "_law_keys" 511 (.ref 246),enO P "law" 517 (.ref 251)] 41 }),
  (27,cdO 27 "cmp_to_key" 196 5 1 3 202),
  (28,fnO 2 "cmp_to_key" "cpy313.functools" 194 27 (Value.none)),
  (29,{ cls:=Value.type "object" }),
  (30,{ cls:=Value.type "tuple",data:=Data.seq #[Value.ref 29] }),
  (36,cdO 36 "reduce" 206 31 3 3 215),
  (37,fnO 4 "reduce" "cpy313.functools" 194 36 (Value.ref 30)),
  (109,cdO 109 "fspath" 307 74 1 3 314),
  (110,fnO 13 "fspath" "os" 305 109 (Value.none)),
  (123,cdO 123 "_get_sep" 332 103 1 3 336),
  (124,fnO 17 "_get_sep" "cpy313.posixpath" 330 123 (Value.none)),
  (130,cdO 130 "join" 339 108 1 7 347),
  (131,fnO 18 "join" "cpy313.posixpath" 330 130 (Value.none)),
  (137,cdO 137 "splitroot" 350 125 1 3 356),
  (138,fnO 19 "splitroot" "cpy313.posixpath" 330 137 (Value.none)),
  (144,cdO 144 "basename" 359 139 1 3 365),
  (145,fnO 20 "basename" "cpy313.posixpath" 330 144 (Value.none)),
  (151,cdO 151 "dirname" 368 144 1 3 375),
  (152,fnO 21 "dirname" "cpy313.posixpath" 330 151 (Value.none)),
  (158,cdO 158 "normpath" 378 152 1 3 390),
  (159,fnO 22 "normpath" "cpy313.posixpath" 330 158 (Value.none)),
  (163,{ cls:=Value.type "code",data:=Data.fields #[Value.str (Str.ofString "commonpath") 393,Value.str (Str.ofString "commonpath") 394,Value.str (Str.ofString "/claim/cut.py") 395,Value.int 177 0,Value.int 1 0,Value.int 0 0,Value.int 0 0,Value.int 3 0,Value.ref 160,Value.bool true,Value.int 181 0,Value.ref 161,Value.none,Value.none,Value.none,Value.ref 162,Value.int 396 0,Value.int 177 0,Value.str (Str.ofString "/claim/cut.py") 397] }),
  (164,fnO 23 "commonpath" "cpy313.posixpath" 330 163 (Value.none)),
  (168,{ cls:=Value.type "code",data:=Data.fields #[Value.str (Str.ofString "_law_pieces") 401,Value.str (Str.ofString "_law_pieces") 402,Value.str (Str.ofString "/claim/cut.py") 403,Value.int 207 0,Value.int 1 0,Value.int 0 0,Value.int 0 0,Value.int 3 0,Value.ref 165,Value.bool true,Value.int 181 0,Value.ref 166,Value.none,Value.none,Value.none,Value.ref 167,Value.int 404 0,Value.int 207 0,Value.str (Str.ofString "/claim/cut.py") 405] }),
  (169,fnO 25 "_law_pieces" "law_pd0016_01" 399 168 (Value.none)),
  (175,cdO 175 "_law_names" 407 209 1 3 413),
  (176,fnO 26 "_law_names" "law_pd0016_01" 399 175 (Value.none)),
  (180,{ cls:=Value.type "code",data:=Data.fields #[Value.str (Str.ofString "_law_place") 416,Value.str (Str.ofString "_law_place") 417,Value.str (Str.ofString "/claim/cut.py") 418,Value.int 217 0,Value.int 2 0,Value.int 0 0,Value.int 0 0,Value.int 3 0,Value.ref 177,Value.bool true,Value.int 181 0,Value.ref 178,Value.none,Value.none,Value.none,Value.ref 179,Value.int 419 0,Value.int 217 0,Value.str (Str.ofString "/claim/cut.py") 420] }),
  (181,fnO 27 "_law_place" "law_pd0016_01" 399 180 (Value.none)),
  (187,cdO 187 "_law_depth" 422 221 1 3 427),
  (188,fnO 28 "_law_depth" "law_pd0016_01" 399 187 (Value.none)),
  (194,cdO 194 "_law_child" 430 227 2 3 435),
  (195,fnO 29 "_law_child" "law_pd0016_01" 399 194 (Value.none)),
  (201,cdO 201 "_law_answer" 438 231 3 3 447),
  (202,fnO 30 "_law_answer" "law_pd0016_01" 399 201 (Value.none)),
  (206,{ cls:=Value.type "code",data:=Data.fields #[Value.str (Str.ofString "_law_table") 450,Value.str (Str.ofString "_law_table") 451,Value.str (Str.ofString "/claim/cut.py") 452,Value.int 241 0,Value.int 1 0,Value.int 0 0,Value.int 0 0,Value.int 3 0,Value.ref 203,Value.bool true,Value.int 181 0,Value.ref 204,Value.none,Value.none,Value.none,Value.ref 205,Value.int 453 0,Value.int 241 0,Value.str (Str.ofString "/claim/cut.py") 454] }),
  (207,fnO 31 "_law_table" "law_pd0016_01" 399 206 (Value.none)),
  (211,{ cls:=Value.type "code",data:=Data.fields #[Value.str (Str.ofString "_law_walk") 456,Value.str (Str.ofString "_law_walk") 457,Value.str (Str.ofString "/claim/cut.py") 458,Value.int 249 0,Value.int 3 0,Value.int 0 0,Value.int 0 0,Value.int 3 0,Value.ref 208,Value.bool true,Value.int 181 0,Value.ref 209,Value.none,Value.none,Value.none,Value.ref 210,Value.int 459 0,Value.int 249 0,Value.str (Str.ofString "/claim/cut.py") 460] }),
  (212,fnO 32 "_law_walk" "law_pd0016_01" 399 211 (Value.none)),
  (216,{ cls:=Value.type "code",data:=Data.fields #[Value.str (Str.ofString "_law_sides") 462,Value.str (Str.ofString "_law_sides") 463,Value.str (Str.ofString "/claim/cut.py") 464,Value.int 258 0,Value.int 1 0,Value.int 0 0,Value.int 0 0,Value.int 3 0,Value.ref 213,Value.bool true,Value.int 181 0,Value.ref 214,Value.none,Value.none,Value.none,Value.ref 215,Value.int 465 0,Value.int 258 0,Value.str (Str.ofString "/claim/cut.py") 466] }),
  (217,fnO 33 "_law_sides" "law_pd0016_01" 399 216 (Value.none)),
  (221,{ cls:=Value.type "code",data:=Data.fields #[Value.str (Str.ofString "_law_orders") 468,Value.str (Str.ofString "_law_orders") 469,Value.str (Str.ofString "/claim/cut.py") 470,Value.int 266 0,Value.int 1 0,Value.int 0 0,Value.int 0 0,Value.int 3 0,Value.ref 218,Value.bool true,Value.int 181 0,Value.ref 219,Value.none,Value.none,Value.none,Value.ref 220,Value.int 471 0,Value.int 266 0,Value.str (Str.ofString "/claim/cut.py") 472] }),
  (222,fnO 34 "_law_orders" "law_pd0016_01" 399 221 (Value.none)),
  (228,cdO 228 "_law_tour" 474 270 2 3 480),
  (229,fnO 35 "_law_tour" "law_pd0016_01" 399 228 (Value.none)),
  (233,{ cls:=Value.type "code",data:=Data.fields #[Value.str (Str.ofString "_law_together") 483,Value.str (Str.ofString "_law_together") 484,Value.str (Str.ofString "/claim/cut.py") 485,Value.int 272 0,Value.int 2 0,Value.int 0 0,Value.int 0 0,Value.int 3 0,Value.ref 230,Value.bool true,Value.int 181 0,Value.ref 231,Value.none,Value.none,Value.none,Value.ref 232,Value.int 486 0,Value.int 272 0,Value.str (Str.ofString "/claim/cut.py") 487] }),
  (234,fnO 36 "_law_together" "law_pd0016_01" 399 233 (Value.none)),
  (238,{ cls:=Value.type "code",data:=Data.fields #[Value.str (Str.ofString "_law_tours") 489,Value.str (Str.ofString "_law_tours") 490,Value.str (Str.ofString "/claim/cut.py") 491,Value.int 274 0,Value.int 2 0,Value.int 0 0,Value.int 0 0,Value.int 3 0,Value.ref 235,Value.bool true,Value.int 181 0,Value.ref 236,Value.none,Value.none,Value.none,Value.ref 237,Value.int 492 0,Value.int 274 0,Value.str (Str.ofString "/claim/cut.py") 493] }),
  (239,fnO 37 "_law_tours" "law_pd0016_01" 399 238 (Value.none)),
  (245,cdO 245 "_law_keys" 495 283 5 3 509),
  (246,fnO 38 "_law_keys" "law_pd0016_01" 399 245 (Value.none)),
  (250,{ cls:=Value.type "code",data:=Data.fields #[Value.str (Str.ofString "law") 512,Value.str (Str.ofString "law") 513,Value.str (Str.ofString "/claim/cut.py") 514,Value.int 291 0,Value.int 1 0,Value.int 0 0,Value.int 0 0,Value.int 3 0,Value.ref 247,Value.bool true,Value.int 181 0,Value.ref 248,Value.none,Value.none,Value.none,Value.ref 249,Value.int 515 0,Value.int 291 0,Value.str (Str.ofString "/claim/cut.py") 516] }),
  (251,fnO 39 "law" "law_pd0016_01" 399 250 (Value.none))]
end Mine
end
section
open PySem PySem.W PyProof.Rows PySem.Calls PySem.Spec
namespace Mine
section
theorem ltS {n:Nat}{P:Nat → Prop}(h:P n) (r:∀ k,k < n → P k):∀ k,k < n + 1 → P k:=fun k hk=>(Nat.lt_succ_iff_lt_or_eq.mp hk).elim (r k) fun e=>e ▸ h
theorem lt0 {P:Nat → Prop} : ∀ k,k < 0 → P k:=fun _ h=>absurd h (Nat.not_lt_zero _)
theorem lt5 {P:Nat → Prop}(h0:P 0) (h1:P 1) (h2:P 2) (h3:P 3) (h4:P 4):∀ k,k < 5 → P k:=ltS h4 (ltS h3 (ltS h2 (ltS h1 (ltS h0 lt0))))
noncomputable abbrev prog:Program:=PySem.Challenge.pw_pd0016_01
noncomputable abbrev KF (w:World):Frag:=kF w.params
noncomputable abbrev Tb:Addr:=224
inductive D where
  | none
  | bool (b:Bool)
  | int (i:Int)
  | str (s:Str)
  | bytes (b:Array UInt8)
  | list (ds:List D)
  | tuple (ds:List D)
  | val (v:Value)
mutual
inductive R (X:List Addr) (h:Heap):Value → D → Prop
  | none:R X h .none .none
  | bool (b:Bool):R X h (.bool b) (.bool b)
  | int (i:Int) (t:Tok):R X h (.int i t) (.int i)
  | str (s:Str) (t:Tok):R X h (.str s t) (.str s)
  | bytes (b:Array UInt8) (t:Tok):R X h (.bytes b t) (.bytes b)
  | val (v:Value):R X h v (.val v)
  | list {a:Addr}{vs:List Value}{ds:List D} : h.PlainList a vs.toArray → a ∉ X → RAll X h vs ds → R X h (.ref a) (.list ds)
  | tuple {a:Addr}{vs:List Value}{ds:List D} : h.IsTuple a vs.toArray → a ∉ X → RAll X h vs ds → R X h (.ref a) (.tuple ds)
inductive RAll (X:List Addr) (h:Heap):List Value → List D → Prop
  | nil:RAll X h [] []
  | cons {v:Value}{vs:List Value}{d:D}{ds:List D} : R X h v d → RAll X h vs ds → RAll X h (v :: vs) (d :: ds)
end
theorem kb2 {h h':Heap}{a:Addr}{its:Array Value}(x:h.IsList a its) (k:∀ o,h.get? a = some o → h'.get? a = some o):h'.IsList a its :=
  let ⟨o,ho,r⟩:=x; ⟨o,k o ho,r⟩
theorem kc9 {h h':Heap}{a:Addr}{its:Array Value}(x:h.IsTuple a its) (k:∀ o,h.get? a = some o → h'.get? a = some o):h'.IsTuple a its :=
  let ⟨o,ho,r⟩:=x; ⟨o,k o ho,r⟩
theorem R.mono {X Y:List Addr}{h h':Heap}(kl:∀ {a:Addr}{its:Array Value},h.PlainList a its → a ∉ X → h'.PlainList a its ∧ a ∉ Y) (kt:∀ {a:Addr}{its:Array Value},h.IsTuple a its → a ∉ X → h'.IsTuple a its ∧ a ∉ Y) {v:Value}{d:D}(r:R X h v d):R Y h' v d :=
  R.rec (motive_1:=fun v d _=>R Y h' v d) (motive_2:=fun vs ds _=>RAll Y h' vs ds) .none (fun b=>.bool b) (fun i t=>.int i t) (fun s t=>.str s t) (fun b t=>.bytes b t) (fun v=>.val v) (fun hl hx _ ih=>.list (kl hl hx).1 (kl hl hx).2 ih) (fun hl hx _ ih=>.tuple (kt hl hx).1 (kt hl hx).2 ih) .nil (fun _ _ a b=>.cons a b) r
theorem RAll.ind {X:List Addr}{h:Heap}{P:List Value → List D → Prop}(n:P [] []) (c:∀ {v:Value}{vs:List Value}{d:D}{ds:List D},R X h v d → RAll X h vs ds → P vs ds → P (v :: vs) (d :: ds)) {vs:List Value}{ds:List D}(r:RAll X h vs ds):P vs ds :=
  RAll.rec (motive_1:=fun _ _ _=>True) (motive_2:=fun vs ds _=>P vs ds) trivial (fun _=>trivial) (fun _ _=>trivial) (fun _ _=>trivial) (fun _ _=>trivial) (fun _=>trivial) (fun _ _ _ _=>trivial) (fun _ _ _ _=>trivial) n (fun hd r _ ih=>c hd r ih) r
theorem R.keep {X:List Addr}{h h':Heap}(k:∀ b o,b ∉ X → h.get? b = some o → h'.get? b = some o) {v:Value}{d:D}(r:R X h v d):R X h' v d:=r.mono (fun hl hx=>⟨hl.at fun o e=>k _ o hx e,hx⟩) (fun hl hx=>⟨kc9 hl fun o e=>k _ o hx e,hx⟩)
theorem RAll.keep {X:List Addr}{h h':Heap}(k:∀ b o,b ∉ X → h.get? b = some o → h'.get? b = some o) {vs:List Value}{ds:List D}(r:RAll X h vs ds):RAll X h' vs ds:=r.ind .nil fun a _ b=>.cons (a.keep k) b
theorem R.weakS {X Y:List Addr}{h:Heap}(k:∀ a ∈ Y,(∃ its,h.IsList a its ∨ h.IsTuple a its) → a ∈ X) {v:Value}{d:D}(r:R X h v d):R Y h v d:=r.mono (fun hl hx=>⟨hl,fun m=>hx (k _ m ⟨_, .inl hl.isList⟩)⟩) (fun hl hx=>⟨hl,fun m=>hx (k _ m ⟨_, .inr hl⟩)⟩)
theorem RAll.weakS {X Y:List Addr}{h:Heap}(k:∀ a ∈ Y,(∃ its,h.IsList a its ∨ h.IsTuple a its) → a ∈ X) {vs:List Value}{ds:List D}(r:RAll X h vs ds):RAll Y h vs ds:=r.ind .nil fun a _ b=>.cons (a.weakS k) b
theorem kcy {h:Heap}{a:Addr} : (∃ its,h.IsList a its ∨ h.IsTuple a its) → ∃ o,h.get? a = some o
  | ⟨_, .inl ⟨o,ho,_⟩⟩=>⟨o,ho⟩
  | ⟨_, .inr ⟨o,ho,_⟩⟩=>⟨o,ho⟩
theorem R.weak {X Y:List Addr}{h:Heap}(k:∀ a ∈ Y,(∃ o,h.get? a = some o) → a ∈ X) {v:Value}{d:D}(r:R X h v d):R Y h v d:=r.weakS fun a ha q=>k a ha (kcy q)
theorem RAll.weak {X Y:List Addr}{h:Heap}(k:∀ a ∈ Y,(∃ o,h.get? a = some o) → a ∈ X) {v:List Value}{d:List D}(r:RAll X h v d):RAll Y h v d:=r.weakS fun a ha q=>k a ha (kcy q)
theorem RAll.length {X:List Addr}{h:Heap}{vs:List Value}{ds:List D}(r:RAll X h vs ds):vs.length = ds.length:=r.ind (P:=fun vs ds=>vs.length = ds.length) rfl fun _ _ ih=>congrArg (· + 1) ih
theorem RAll.get {X:List Addr}{h:Heap}{vs:List Value}{ds:List D}{k:Nat}{d:D}(r:RAll X h vs ds) (e:ds[k]? = some d):∃ v,vs[k]? = some v ∧ R X h v d :=
  r.ind (P:=fun vs ds=>∀ (k:Nat) (d:D),ds[k]? = some d → ∃ v,vs[k]? = some v ∧ R X h v d) (fun k d e=>by simp at e) (fun hd _ ih k d e=>by
    cases k with
    | zero=>exact ⟨_,rfl,Option.some.inj e ▸ hd⟩
    | succ k=>exact ih k d e) k d e
theorem RAll.append {X:List Addr}{h:Heap}{vs ws:List Value}{ds es:List D}(r:RAll X h vs ds) (k:RAll X h ws es):RAll X h (vs ++ ws) (ds ++ es):=r.ind (P:=fun vs ds=>RAll X h (vs ++ ws) (ds ++ es)) k fun hd _ ih=>.cons hd ih
inductive Kp (s s':Shared):Prop
  | mk (h':Heap) (tk:Nat) (e:s' = { s with heap:=h',toks:=tk }) (k:∀ b o,b ≠ Tb → s.heap.get? b = some o → h'.get? b = some o):Kp s s'
theorem Kp.refl (s:Shared):Kp s s:=⟨_,_,rfl,fun _ _ _ e=>e⟩
theorem Kp.trans {s₁ s₂ s₃:Shared}(a:Kp s₁ s₂) (b:Kp s₂ s₃):Kp s₁ s₃:=by
  obtain ⟨h,t,rfl,k⟩:=a
  obtain ⟨h',t',rfl,k'⟩:=b
  exact ⟨h',t',rfl,fun c o n e=>k' c o n (k c o n e)⟩
theorem Kp.get {s s':Shared}(a:Kp s s') {b:Addr}{o:Obj}(hb:b ≠ Tb) (e:s.heap.get? b = some o):s'.heap.get? b = some o:=by
  obtain ⟨h,t,rfl,k⟩:=a
  exact k b o hb e
theorem Kp.of_keeps {s s':Shared}(a:Keeps s s'):Kp s s':=let ⟨h,t,e,k⟩:=a; ⟨h,t,e,fun b o _ q=>k b o q⟩
noncomputable abbrev tourQual:Str := "_law_tour.<locals>.<lambda>"
noncomputable def TabOk (h:Heap) (ps:Array Value):Prop:=ps = #[] ∨ ∃ c',c' ≠ Tb ∧ ps = #[rawInt 271,rawInt 18, .ref c'] ∧ h.CodeRec (.ref c') tourQual
inductive TabAt (h:Heap):Prop
  | mk (ps:Array Value) (e:h.get? Tb = some (tabObj ps)) (x:TabOk h ps):TabAt h
structure GI (h₀:Heap) (s:Shared):Prop where
  keep:∀ b o,h₀.get? b = some o → s.heap.get? b = some o
  tab:TabAt s.heap
  off:h₀.get? Tb = none
theorem TabOk.keeps {h h':Heap}{ps:Array Value}(x:TabOk h ps) (k:∀ b o,b ≠ Tb → h.get? b = some o → h'.get? b = some o):TabOk h' ps:=by
  rcases x with x | ⟨c',hne,e,c,o,vs,t,e1,g,r⟩
  · exact .inl x
  · cases e1; exact .inr ⟨_,hne,e,_,o,vs,t,rfl,k _ _ hne g,r⟩
theorem GI.keeps {h₀:Heap}{s:Shared}{h':Heap}{tk:Nat}(G:GI h₀ s) (k:∀ b o,s.heap.get? b = some o → h'.get? b = some o):GI h₀ { s with heap:=h',toks:=tk } :=
  ⟨fun b o e=>k b o (G.keep b o e),let ⟨ps,e,x⟩:=G.tab; ⟨ps,k _ _ e,x.keeps fun b o _ q=>k b o q⟩,G.off⟩
theorem GI.kps {h₀:Heap}{s s':Shared}(G:GI h₀ s) (k:Keeps s s'):GI h₀ s':=by
  obtain ⟨h,t,rfl,k⟩:=k
  exact G.keeps k
noncomputable def Nx (h₀:Heap) (s s':Shared):Prop:=Kp s s' ∧ GI h₀ s'
theorem Nx.of_keeps {h₀:Heap}{s s':Shared}(G:GI h₀ s) (k:Keeps s s'):Nx h₀ s s':=⟨.of_keeps k,G.kps k⟩
theorem Nx.refl {h₀:Heap}{s:Shared}(G:GI h₀ s):Nx h₀ s s:=⟨.refl s,G⟩
theorem Nx.trans {h₀:Heap}{s₁ s₂ s₃:Shared}(a:Nx h₀ s₁ s₂) (b:Nx h₀ s₂ s₃):Nx h₀ s₁ s₃:=⟨a.1.trans b.1,b.2⟩
theorem Nx.tok {h₀:Heap}{s:Shared}(G:GI h₀ s) (tk:Nat):Nx h₀ s { s with toks:=tk }:=.of_keeps G ⟨s.heap,tk,rfl,fun _ _ e=>e⟩
theorem Nx.push {h₀:Heap}{s:Shared}(G:GI h₀ s) (o:Obj) (tk:Nat):Nx h₀ s { s with heap:=s.heap.push o,toks:=tk }:=.of_keeps G ⟨_,tk,rfl,fun _ _ e=>Heap.get?_push_of_some _ e⟩
theorem R.nx {X:List Addr}{h₀:Heap}{s s':Shared}{v:Value}{d:D}(r:R X s.heap v d) (n:Nx h₀ s s') (hX:Tb ∈ X):R X s'.heap v d :=
  r.keep fun _ _ hb e=>n.1.get (fun q=>hb (q ▸ hX)) e
theorem RAll.nx {X:List Addr}{h₀:Heap}{s s':Shared}{v:List Value}{d:List D}(r:RAll X s.heap v d) (n:Nx h₀ s s') (hX:Tb ∈ X):RAll X s'.heap v d :=
  r.keep fun _ _ hb e=>n.1.get (fun q=>hb (q ▸ hX)) e
structure Room (A:Around) (n:Nat):Prop where
  depth:A.depth + n < recursionLimit
  units:A.units + 64 * n + 64 < cLine
  handled:A.handled = none
theorem Room.lt {A:Around}{n:Nat}(r:Room A n):A.depth < recursionLimit:=by have:=r.depth; lia
theorem Room.cl {A:Around}{n:Nat}(r:Room A n):A.units + 64 < cLine:=by have:=r.units; lia
theorem Room.deeper {A:Around}{n:Nat}{env:Env}(r:Room A (n + 1)):Room (A.deeper env) n :=
  ⟨by have:=r.depth; show A.depth + 1 + n < _; lia,by have:=r.units; show A.units + 3 + 64 * n + 64 < _; lia,r.handled⟩
theorem Room.in1 {A:Around}{n:Nat}(r:Room A (n + 1)):Room A.in1 n :=
  ⟨by have:=r.depth; show A.depth + n < _; lia,by have:=r.units; show A.units + 1 + 64 * n + 64 < _; lia,r.handled⟩
theorem Room.down {A:Around}{n m:Nat}(r:Room A n) (h:m ≤ n):Room A m:=⟨by have:=r.depth; lia,by have:=r.units; lia,r.handled⟩
inductive VK where
  | loc
  | own
  | ext
  deriving DecidableEq
structure Var where
  name:Str
  kind:VK
  val:Option D
inductive Has:List Var → Str → VK → D → Prop
  | z {x:Str}{k:VK}{d:D}{σ:List Var} : Has (⟨x,k,some d⟩ :: σ) x k d
  | s {e:Var}{x:Str}{k:VK}{d:D}{σ:List Var} : Has σ x k d → Has (e :: σ) x k d
inductive Upd:List Var → Str → VK → D → List Var → Prop
  | z {x:Str}{k:VK}{o:Option D}{d:D}{σ:List Var} : Upd (⟨x,k,o⟩ :: σ) x k d (⟨x,k,some d⟩ :: σ)
  | s {e:Var}{x:Str}{k:VK}{d:D}{σ σ':List Var} : Upd σ x k d σ' → Upd (e :: σ) x k d (e :: σ')
theorem Has.mem {σ:List Var}{x:Str}{k:VK}{d:D}(h:Has σ x k d):⟨x,k,some d⟩ ∈ σ:=by
  induction h with
  | z=>exact .head _
  | s _ ih=>exact .tail _ ih
theorem Upd.names {σ σ':List Var}{x:Str}{k:VK}{d:D}(h:Upd σ x k d σ'):σ'.map (fun e=>(e.name,e.kind)) = σ.map (fun e=>(e.name,e.kind)):=by
  induction h with
  | z=>rfl
  | s _ ih=>simp only [List.map_cons,ih]
theorem Upd.there {σ σ':List Var}{x:Str}{k:VK}{d:D}(h:Upd σ x k d σ'):(x,k) ∈ σ.map (fun e=>(e.name,e.kind)):=by
  induction h with
  | z=>exact .head _
  | s _ ih=>exact .tail _ ih
set_option tactic.hygienic true in
theorem Upd.mem {σ σ':List Var}{x:Str}{k:VK}{d:D}(h:Upd σ x k d σ') (nd:(σ.map (·.name)).Nodup) {e:Var}(he:e ∈ σ'):e = ⟨x,k,some d⟩ ∨ (e ∈ σ ∧ e.name ≠ x):=by
  induction h with
  | z =>
    simp only [List.map_cons,List.nodup_cons] at nd
    rcases List.mem_cons.mp he with rfl | he
    · exact .inl rfl
    · exact .inr ⟨.tail _ he,fun q=>nd.1 (List.mem_map.mpr ⟨e,he,q⟩)⟩
  | s u ih =>
    rename_i e₀ x k d σ σ'
    simp only [List.map_cons,List.nodup_cons] at nd
    rcases List.mem_cons.mp he with rfl | he
    · refine .inr ⟨.head _,fun q=>nd.1 ?_⟩
      obtain ⟨y,hy,e1⟩:=List.mem_map.mp u.there
      exact List.mem_map.mpr ⟨y,hy,by rw [q]; exact congrArg Prod.fst e1⟩
    · rcases ih nd.2 he with h | ⟨h,n⟩
      · exact .inl h
      · exact .inr ⟨.tail _ h,n⟩
noncomputable def varOk (sc:Scope) (p:Str × VK):Bool:=(match p.2 with
  | .loc=>sc.names.lookup p.1 == some .local
  | .own=>sc.names.lookup p.1 == some .cell
  | .ext=>sc.names.lookup p.1 == some .cell || sc.names.lookup p.1 == some .free) && p.1 != ("__debug__" : Str) && p.1 != ("__classdict__" : Str)
noncomputable def sigOk (sc:Scope) (vars:List (Str × VK)):Bool:=sc.kind == .function && decide (vars.map (·.1)).Nodup && vars.all (varOk sc)
inductive Cn where
  | lst (ds:List D)
  | obj (o:Obj)
noncomputable abbrev Owns:=List (Addr × Cn)
noncomputable def CnIs (X:List Addr) (s:Shared) (a:Addr):Cn → Prop
  | .lst ds=>∃ vs:List Value,s.heap.PlainList a vs.toArray ∧ RAll X s.heap vs ds
  | .obj o=>s.heap.get? a = some o ∧ ((∃ vs,o.data = .fields vs) ∨ ∃ es ep t,o.data = .set es ep t)
structure Own (X:List Addr) (s0 s:Shared) (ω:Owns):Prop where
  nd:(ω.map (·.1)).Nodup
  is:∀ p ∈ ω,p.1 ∈ X ∧ s0.heap.get? p.1 = none ∧ CnIs X s p.1 p.2
inductive HasV (X:List Addr) (h:Heap) (o:Option Value) (d:D):Prop
  | mk (v:Value) (e:o = some v) (r:R X h v d):HasV X h o d
inductive NsAt (h:Heap) (X:List Addr) (a:Addr) (σ:List Var):Prop
  | mk (m:Str → Option Value) (hm:h.Ns a m) (hv:∀ e ∈ σ,e.kind = .loc → ∀ d,e.val = some d → HasV X h (m e.name) d):NsAt h X a σ
inductive CellAt (h:Heap) (X:List Addr) (cells:List (Str × Addr)) (e:Var):Prop
  | mk (c:Addr) (ov:Option Value) (h1:cells.lookup e.name = some c) (h2:h.IsCell c ov) (h3:c ∈ X) (h4:∀ d,e.val = some d → HasV X h ov d):CellAt h X cells e
structure St (h₀:Heap) (sc:Scope) (env:Env) (X:List Addr) (s0:Shared) (ω:Owns) (σ:List Var) (s:Shared):Prop where
  ok:sigOk sc (σ.map fun e=>(e.name,e.kind)) = true
  scope:env.scope = sc
  glob:env.globals = mainGlobals
  blt:env.builtins = builtinsNs
  base:Kp s0 s
  gi:GI h₀ s
  gi0:GI h₀ s0
  ns:NsAt s.heap X env.locals σ
  cell:∀ e ∈ σ,e.kind ≠ .loc → CellAt s.heap X env.cells e
  inj:∀ x y c,env.cells.lookup x = some c → env.cells.lookup y = some c → x = y
  locX:env.locals ∈ X
  new:s0.heap.get? env.locals = none
  newc:∀ e ∈ σ,e.kind = .own → ∀ c,env.cells.lookup e.name = some c → s0.heap.get? c = none
  alive:∀ a ∈ X, ∃ o,s.heap.get? a = some o
  tabX:Tb ∈ X
  owns:Own X s0 s ω
section
variable {h₀:Heap}{sc:Scope}{env:Env}{X:List Addr}{s0 s s':Shared}{ω:Owns}{σ σ':List Var}
theorem St.nd (S:St h₀ sc env X s0 ω σ s):(σ.map (·.name)).Nodup:=by
  have:=S.ok
  simp only [sigOk,Bool.and_eq_true,decide_eq_true_eq,List.map_map] at this
  exact this.1.2
theorem St.kind (S:St h₀ sc env X s0 ω σ s):env.scope.kind = .function:=by
  have:=S.ok
  simp only [sigOk,Bool.and_eq_true,beq_iff_eq] at this
  rw [S.scope]; exact this.1.1
theorem St.var (S:St h₀ sc env X s0 ω σ s) {e:Var}(he:e ∈ σ):varOk sc (e.name,e.kind) = true:=by
  have:=S.ok
  simp only [sigOk,Bool.and_eq_true,List.all_eq_true] at this
  exact this.2 _ (List.mem_map.mpr ⟨e,he,rfl⟩)
theorem kaf {h h':Heap}{c:Addr}{v:Option Value}(x:h.IsCell c v) (k:∀ o,h.get? c = some o → h'.get? c = some o):h'.IsCell c v :=
  let ⟨o,ho,r⟩:=x; ⟨o,k o ho,r⟩
theorem ns_at {h h':Heap}{c:Addr}{m:Str → Option Value}(x:h.Ns c m) (k:∀ o,h.get? c = some o → h'.get? c = some o):h'.Ns c m :=
  let ⟨o,es,ep,ho,r⟩:=x; ⟨o,es,ep,k o ho,r⟩
theorem St.locne (S:St h₀ sc env X s0 ω σ s):env.locals ≠ Tb:=fun q=>by
  obtain ⟨ps,e,_⟩:=S.gi0.tab
  rw [← q,S.new] at e; cases e
theorem kaz {h:Heap}{c:Addr}{ov:Option Value}{ps:Array Value}(x:h.IsCell c ov) (e:h.get? Tb = some (tabObj ps)):c ≠ Tb:=fun q=>by
  obtain ⟨o,ho,hd⟩:=x
  rw [q,e] at ho; cases ho; cases hd
theorem St.nx (S:St h₀ sc env X s0 ω σ s) (n:Nx h₀ s s'):St h₀ sc env X s0 ω σ s' where
  ok:=S.ok
  scope:=S.scope
  glob:=S.glob
  blt:=S.blt
  base:=S.base.trans n.1
  gi:=n.2
  gi0:=S.gi0
  ns:=by
    obtain ⟨m,hm,hv⟩:=S.ns
    refine ⟨m,ns_at hm fun o e=>n.1.get S.locne e,fun e he hk d hd=>?_⟩
    obtain ⟨v,h1,h2⟩:=hv e he hk d hd
    exact ⟨v,h1,h2.nx n S.tabX⟩
  cell:=fun e he hk=>by
    obtain ⟨c,ov,h1,h2,h3,h4⟩:=S.cell e he hk
    obtain ⟨ps,ht,_⟩:=S.gi.tab
    refine ⟨c,ov,h1,kaf h2 fun o e=>n.1.get (kaz h2 ht) e,h3,fun d hd=>?_⟩
    obtain ⟨v,e1,e2⟩:=h4 d hd
    exact ⟨v,e1,e2.nx n S.tabX⟩
  inj:=S.inj
  locX:=S.locX
  new:=S.new
  newc:=S.newc
  alive:=fun a ha=>by
    by_cases q:a = Tb
    · obtain ⟨ps,e,_⟩:=n.2.tab
      exact ⟨_,q ▸ e⟩
    · obtain ⟨o,e⟩:=S.alive a ha
      exact ⟨o,n.1.get q e⟩
  tabX:=S.tabX
  owns:=⟨S.owns.nd,fun p hp=>by
    obtain ⟨h1,h2,h3⟩:=S.owns.is p hp
    have hne:p.1 ≠ Tb:=fun q=>by
      obtain ⟨ps,e,_⟩:=S.gi0.tab
      rw [← q,h2] at e; cases e
    refine ⟨h1,h2, ?_⟩
    obtain ⟨a,c⟩:=p
    cases c with
    | lst ds=>obtain ⟨vs,q1,q2⟩:=h3; exact ⟨vs,q1.at fun o e=>n.1.get hne e,q2.nx n S.tabX⟩
    | obj o=>exact ⟨n.1.get hne h3.1,h3.2⟩⟩
theorem St.turn (S:St h₀ sc env X s0 ω σ s) {a:Addr}{h':Heap}{tk:Nat}(ha:a ∈ X) (hn:s0.heap.get? a = none) (hs:Heap.SameBut a s.heap h') (hc:∀ q, ¬ s.heap.CodeRec (.ref a) q) :
    Kp s0 { s with heap:=h',toks:=tk } ∧ GI h₀ { s with heap:=h',toks:=tk } ∧ (∀ v d,R X s.heap v d → R X h' v d):=by
  have hT:a ≠ Tb:=fun q=>by
    obtain ⟨ps,e,_⟩:=S.gi0.tab
    rw [← q,hn] at e; cases e
  refine ⟨?_,⟨fun b o e=>?_, ?_,S.gi.off⟩,fun v d r=>r.keep fun b o hb e=>(hs.2 b fun q=>hb (q ▸ ha)).trans e⟩
  · obtain ⟨h,t,rfl,k⟩:=S.base
    refine ⟨h',tk,rfl,fun b o hb e=>(hs.2 b fun q=>?_).trans (k b o hb e)⟩
    rw [q,hn] at e; cases e
  · refine (hs.2 b fun q=>?_).trans (S.gi.keep b o e)
    have:=S.gi0.keep b o e
    rw [q,hn] at this; cases this
  · obtain ⟨ps,e,x⟩:=S.gi.tab
    refine ⟨ps,(hs.2 _ (Ne.symm hT)).trans e, ?_⟩
    rcases x with x | ⟨c',hne,e1,c,o,vs,t,e2,g,r⟩
    · exact .inl x
    · cases e2
      exact .inr ⟨_,hne,e1,_,o,vs,t,rfl,(hs.2 _ fun q=>hc tourQual (q ▸ ⟨_,o,vs,t,rfl,g,r⟩)).trans g,r⟩
theorem kdc {a:Addr}{h h':Heap}(hs:Heap.SameBut a h h') (ha:∃ o,h'.get? a = some o) (al:∀ b ∈ X, ∃ o,h.get? b = some o):∀ b ∈ X, ∃ o,h'.get? b = some o:=fun b hb=>by
  by_cases q:b = a
  · exact q ▸ ha
  · obtain ⟨o,e⟩:=al b hb
    exact ⟨o,(hs.2 b q).trans e⟩
theorem ki0 {a:Addr}{h':Heap}{tk:Nat}(O:Own X s0 s ω) (ha:a ∈ X) (hs:Heap.SameBut a s.heap h') (hl:a ∉ ω.map (·.1)):Own X s0 { s with heap:=h',toks:=tk } ω :=
  ⟨O.nd,fun p hp=>by
    obtain ⟨h1,h2,h3⟩:=O.is p hp
    have hne:p.1 ≠ a:=fun q=>hl (q ▸ List.mem_map_of_mem hp)
    refine ⟨h1,h2, ?_⟩
    obtain ⟨b,c⟩:=p
    cases c with
    | lst ds=>obtain ⟨vs,q1,q2⟩:=h3; exact ⟨vs,q1.at fun o e=>(hs.2 _ hne).trans e,q2.keep fun b o hb e=>(hs.2 b fun q=>hb (q ▸ ha)).trans e⟩
    | obj o=>exact ⟨(hs.2 _ hne).trans h3.1,h3.2⟩⟩
inductive CodeIs (h:Heap) (a:Addr):Prop
  | mk (o:Obj) (vs:Array Value) (g:h.get? a = some o) (hd:o.data = .fields vs):CodeIs h a
theorem codeIs {h:Heap}{a:Addr}{q:Str}(x:h.CodeRec (.ref a) q):CodeIs h a:=by
  obtain ⟨_,o,vs,t,e,g,hd,_⟩:=x; cases e; exact ⟨o,vs,g,hd⟩
theorem kb7 {h:Heap}{a:Addr}{m:Str → Option Value}(x:h.Ns a m) (q:Str):¬ h.CodeRec (.ref a) q:=fun y=>by
  obtain ⟨o,vs,g,hd⟩:=codeIs y
  obtain ⟨o',es,ep,g',hd',_⟩:=x
  rw [g] at g'; cases g'
  rw [hd] at hd'; cases hd'
theorem kg2 {h:Heap}{a:Addr}{m:Str → Option Value}(x:h.Ns a m) (its:Array Value):¬ h.IsList a its:=fun ⟨o,g,_,n,hd⟩=>by
  obtain ⟨o',es,ep,g',hd',_⟩:=x
  rw [g] at g'; cases g'
  rw [hd] at hd'; cases hd'
theorem kil {h:Heap}{a:Addr}{ov:Option Value}(x:h.IsCell a ov) (q:Str):¬ h.CodeRec (.ref a) q:=fun y=>by
  obtain ⟨o,vs,g,hd⟩:=codeIs y
  obtain ⟨o',g',hd'⟩:=x
  rw [g] at g'; cases g'
  rw [hd] at hd'; cases hd'
theorem kbr {h:Heap}{a:Addr}{ov:Option Value}(x:h.IsCell a ov) (its:Array Value):¬ h.IsList a its:=fun ⟨o,g,_,n,hd⟩=>by
  obtain ⟨o',g',hd'⟩:=x
  rw [g] at g'; cases g'
  rw [hd] at hd'; cases hd'
theorem kdb {h:Heap}{a c:Addr}{ov:Option Value}{m:Str → Option Value}(x:h.IsCell c ov) (y:h.Ns a m):c ≠ a:=fun q=>by
  obtain ⟨o,g,hd⟩:=x
  obtain ⟨o',es,ep,g',hd',_⟩:=y
  rw [q,g'] at g; cases g
  rw [hd] at hd'; cases hd'
theorem kba {a:Addr}{m:Str → Option Value}(O:Own X s0 s ω) (x:s.heap.Ns a m):a ∉ ω.map (·.1):=fun hm=>by
  obtain ⟨⟨b,c⟩,hp,e⟩:=List.mem_map.mp hm
  have e':b = a:=e
  subst e'
  have h3:=(O.is _ hp).2.2
  cases c with
  | lst ds=>obtain ⟨vs,q1,_⟩:=h3; exact kg2 x _ q1.isList
  | obj o =>
    obtain ⟨g,hd⟩:=h3
    obtain ⟨o',es,ep,g',hd',_⟩:=x
    rw [g] at g'; cases g'
    rcases hd with ⟨vs,hd⟩ | ⟨_,_,_,hd⟩ <;> (rw [hd] at hd'; cases hd')
theorem kbi {a:Addr}{ov:Option Value}(O:Own X s0 s ω) (x:s.heap.IsCell a ov):a ∉ ω.map (·.1):=fun hm=>by
  obtain ⟨⟨b,c⟩,hp,e⟩:=List.mem_map.mp hm
  have e':b = a:=e
  subst e'
  have h3:=(O.is _ hp).2.2
  cases c with
  | lst ds=>obtain ⟨vs,q1,_⟩:=h3; exact kbr x _ q1.isList
  | obj o =>
    obtain ⟨g,hd⟩:=h3
    obtain ⟨o',g',hd'⟩:=x
    rw [g] at g'; cases g'
    rcases hd with ⟨vs,hd⟩ | ⟨_,_,_,hd⟩ <;> (rw [hd] at hd'; cases hd')
structure Grow (X:List Addr) (s:Shared) (X':List Addr) (s':Shared):Prop where
  same:∃ h' tk,s' = { s with heap:=h',toks:=tk }
  keep:∀ b o,b ∉ X → s.heap.get? b = some o → s'.heap.get? b = some o
  sub:∀ a ∈ X,a ∈ X'
  new:∀ a ∈ X',a ∈ X ∨ s.heap.get? a = none
theorem Grow.refl (X:List Addr) (s:Shared):Grow X s X s:=⟨⟨_,_,rfl⟩,fun _ _ _ e=>e,fun _ h=>h,fun _ h=>.inl h⟩
theorem Grow.trans {X₁ X₂ X₃:List Addr}{s₁ s₂ s₃:Shared}(a:Grow X₁ s₁ X₂ s₂) (b:Grow X₂ s₂ X₃ s₃):Grow X₁ s₁ X₃ s₃ where
  same:=by
    obtain ⟨h,t,rfl⟩:=a.same
    obtain ⟨h',t',rfl⟩:=b.same
    exact ⟨h',t',rfl⟩
  keep:=fun c o hc e=>b.keep c o (fun q=>(a.new c q).elim hc fun n=>by rw [n] at e; cases e) (a.keep c o hc e)
  sub:=fun c hc=>b.sub c (a.sub c hc)
  new:=fun c hc=>(b.new c hc).elim (a.new c) fun n=>by
    cases q:s₁.heap.get? c with
    | none=>exact .inr rfl
    | some o =>
      by_cases hc':c ∈ X₁
      · exact .inl hc'
      · rw [a.keep c o hc' q] at n; cases n
theorem Grow.of_nx {X:List Addr}{s s':Shared}(n:Nx h₀ s s') (hX:Tb ∈ X):Grow X s X s' :=
  ⟨let ⟨h,t,e,_⟩:=n.1; ⟨h,t,e⟩,fun b o hb e=>n.1.get (fun q=>hb (q ▸ hX)) e,fun _ h=>h,fun _ h=>.inl h⟩
theorem Grow.of_turn {X:List Addr}{s:Shared}{a:Addr}{h':Heap}{tk:Nat}(ha:a ∈ X) (hs:Heap.SameBut a s.heap h'):Grow X s X { s with heap:=h',toks:=tk } :=
  ⟨⟨_,_,rfl⟩,fun b o hb e=>(hs.2 b fun q=>hb (q ▸ ha)).trans e,fun _ h=>h,fun _ h=>.inl h⟩
theorem R.grow {X X':List Addr}{s s':Shared}{v:Value}{d:D}(r:R X s.heap v d) (g:Grow X s X' s'):R X s'.heap v d:=r.keep g.keep
theorem RAll.grow {X X':List Addr}{s s':Shared}{v:List Value}{d:List D}(r:RAll X s.heap v d) (g:Grow X s X' s'):RAll X s'.heap v d:=r.keep g.keep
theorem St.store {M:Model}{A:Around}{x:Str}{k:VK}{d:D}{v:Value}{Q:Unit → Shared → Prop}{E:Value → Shared → Prop}
    (S:St h₀ sc env X s0 ω σ s) (U:Upd σ x k d σ') (hk:k ≠ .ext) (hv:R X s.heap v d) (h:∀ s',Grow X s X s' → St h₀ sc env X s0 ω σ' s' → Q () s'):wpAny M A (storeName env x v) Q E s:=by
  obtain ⟨e₀,he₀,q₀⟩:=List.mem_map.mp U.there
  have hn₀:e₀.name = x:=congrArg Prod.fst q₀
  have hk₀:e₀.kind = k:=congrArg Prod.snd q₀
  have hvar:=S.var he₀
  rw [hn₀,hk₀] at hvar
  have same:∀ e ∈ σ',e.name ≠ x → e ∈ σ:=fun e he hne=>(U.mem S.nd he).elim (fun q=>absurd (by rw [q]) hne) (·.1)
  have here:∀ e ∈ σ',e.name = x → e = ⟨x,k,some d⟩:=fun e he hne=>(U.mem S.nd he).elim id (fun q=>absurd hne q.2)
  cases k with
  | ext=>exact absurd rfl hk
  | loc =>
    have hl:env.kindOf x = some .local:=by
      simp only [varOk,Bool.and_eq_true,beq_iff_eq] at hvar
      unfold Env.kindOf; rw [S.scope]; exact hvar.1.1
    obtain ⟨m,hm,hmv⟩:=S.ns
    refine wpAny_storeName_local hl hm (fun h' hn' hs'=>h _ (.of_turn S.locX hs') ?_) (by rw [S.kind]; rfl)
    obtain ⟨t1,t2,t3⟩:=S.turn (tk:=s.toks + 1) S.locX S.new hs' (kb7 hm)
    refine ⟨by rw [U.names]; exact S.ok,S.scope,S.glob,S.blt,t1,t2,S.gi0,⟨_,hn',fun e he hek d' hd'=>?_⟩,fun e he hek=>?_,S.inj,S.locX,S.new,fun e he hek=>?_,
      kdc hs' (let ⟨o,_,_,e,_⟩:=hn'; ⟨o,e⟩) S.alive,S.tabX,ki0 S.owns S.locX hs' (kba S.owns hm)⟩
    · by_cases q:e.name = x
      · have:=here e he q
        subst this
        simp only [Option.some.injEq] at hd'
        subst hd'
        exact ⟨v,by simp,t3 _ _ hv⟩
      · obtain ⟨v',h1,h2⟩:=hmv e (same e he q) hek d' hd'
        exact ⟨v',by simp only [q,if_false]; exact h1,t3 _ _ h2⟩
    · have hne:e.name ≠ x:=fun q=>hek (by rw [here e he q])
      obtain ⟨c,ov,h1,h2,h3,h4⟩:=S.cell e (same e he hne) hek
      refine ⟨c,ov,h1,kaf h2 fun o q=>(hs'.2 _ (kdb h2 hm)).trans q,h3,fun d' hd'=>?_⟩
      obtain ⟨v',e1,e2⟩:=h4 d' hd'
      exact ⟨v',e1,t3 _ _ e2⟩
    · have hne:e.name ≠ x:=fun q=>by have:=here e he q; rw [this] at hek; cases hek
      exact S.newc e (same e he hne) hek
  | own =>
    have hl:env.kindOf x = some .cell:=by
      simp only [varOk,Bool.and_eq_true,beq_iff_eq] at hvar
      unfold Env.kindOf; rw [S.scope]; exact hvar.1.1
    obtain ⟨c,ov,hc,hcell,hcX,_⟩:=S.cell e₀ he₀ (by rw [hk₀]; decide)
    rw [hn₀] at hc
    have hcn:s0.heap.get? c = none:=S.newc e₀ he₀ hk₀ c (by rw [hn₀]; exact hc)
    obtain ⟨m,hm,hmv⟩:=S.ns
    refine wpAny_storeName_cell S.kind hl hc hcell fun h' hc' hs'=>?_
    obtain ⟨t1,t2,t3⟩:=S.turn (tk:=s.toks) hcX hcn hs' (kil hcell)
    refine h _ (.of_turn hcX hs') ⟨by rw [U.names]; exact S.ok,S.scope,S.glob,S.blt,t1,t2,S.gi0,⟨m,ns_at hm fun o q=>(hs'.2 _ (Ne.symm (kdb hcell hm))).trans q,fun e he hek d' hd'=>?_⟩,fun e he hek=>?_,S.inj,S.locX,S.new,fun e he hek=>?_,
      kdc hs' (let ⟨o,e,_⟩:=hc'; ⟨o,e⟩) S.alive,S.tabX,ki0 S.owns hcX hs' (kbi S.owns hcell)⟩
    · have hne:e.name ≠ x:=fun q=>by have:=here e he q; rw [this] at hek; cases hek
      obtain ⟨v',h1,h2⟩:=hmv e (same e he hne) hek d' hd'
      exact ⟨v',h1,t3 _ _ h2⟩
    · by_cases q:e.name = x
      · have:=here e he q
        subst this
        refine ⟨c,some v,hc,hc',hcX,fun d' hd'=>?_⟩
        simp only [Option.some.injEq] at hd'
        subst hd'
        exact ⟨v,rfl,t3 _ _ hv⟩
      · obtain ⟨c',ov',h1,h2,h3,h4⟩:=S.cell e (same e he q) hek
        refine ⟨c',ov',h1,kaf h2 fun o z=>(hs'.2 _ fun w=>q (S.inj _ _ c (w ▸ h1) hc)).trans z,h3,fun d' hd'=>?_⟩
        · obtain ⟨v',e1,e2⟩:=h4 d' hd'
          exact ⟨v',e1,t3 _ _ e2⟩
    · by_cases q:e.name = x
      · intro c' hc''
        rw [q,hc] at hc''; cases hc''; exact hcn
      · exact S.newc e (same e he q) hek
end
end
section
structure Op (h₀:Heap) (X:List Addr) (s:Shared):Prop where
  gi:GI h₀ s
  tabX:Tb ∈ X
  al:∀ a ∈ X, ∃ o,s.heap.get? a = some o
theorem St.op {h₀:Heap}{sc:Scope}{env:Env}{X:List Addr}{s0 s:Shared}{ω:Owns}{σ:List Var}(S:St h₀ sc env X s0 ω σ s):Op h₀ X s:=⟨S.gi,S.tabX,S.alive⟩
theorem Op.nx {h₀:Heap}{X:List Addr}{s s':Shared}(O:Op h₀ X s) (n:Nx h₀ s s'):Op h₀ X s' :=
  ⟨n.2,O.tabX,fun a ha=>by
    by_cases q:a = Tb
    · obtain ⟨ps,e,_⟩:=n.2.tab
      exact ⟨_,q ▸ e⟩
    · obtain ⟨o,e⟩:=O.al a ha
      exact ⟨o,n.1.get q e⟩⟩
theorem Op.fresh {h₀:Heap}{X:List Addr}{s:Shared}(O:Op h₀ X s):s.heap.objs.size ∉ X:=fun h=>by
  obtain ⟨o,e⟩:=O.al _ h
  exact Nat.lt_irrefl _ (Heap.lt_size e)
noncomputable def Yields (w:World) (h₀:Heap) (A:Around) (X:List Addr) (s:Shared) (t:Sem Value) (d:D):Prop :=
  ∀ (Q:Value → Shared → Prop) (E:Value → Shared → Prop),(∀ v s',Nx h₀ s s' → R X s'.heap v d → Q v s') → wpAny (model prog w) A t Q E s
noncomputable def YieldsB (w:World) (h₀:Heap) (A:Around) (s:Shared) (t:Sem Bool) (b:Bool):Prop :=
  ∀ (Q:Bool → Shared → Prop) (E:Value → Shared → Prop),(∀ s',Nx h₀ s s' → Q b s') → wpAny (model prog w) A t Q E s
noncomputable def EV (w:World) (h₀:Heap) (n:Nat) (sc:Scope) (ω:Owns) (σ:List Var) (e:Expr) (d:D):Prop :=
  ∀ A env X s0 s,Room A n → St h₀ sc env X s0 ω σ s → Yields w h₀ A X s (eval e env) d
noncomputable def TV (w:World) (h₀:Heap) (n:Nat) (sc:Scope) (ω:Owns) (σ:List Var) (e:Expr) (b:Bool):Prop :=
  ∀ A env X s0 s,Room A n → St h₀ sc env X s0 ω σ s → YieldsB w h₀ A s (isTrue e env (eval e env)) b
noncomputable def BinR (w:World) (h₀:Heap) (n:Nat) (op:Operator) (a b d:D):Prop :=
  ∀ A X s va vb,Room A n → Op h₀ X s → R X s.heap va a → R X s.heap vb b → Yields w h₀ A X s (binaryOp op va vb) d
noncomputable def IopR (w:World) (h₀:Heap) (n:Nat) (op:Operator) (a b d:D):Prop :=
  ∀ A X s va vb,Room A n → Op h₀ X s → R X s.heap va a → R X s.heap vb b → Yields w h₀ A X s (inplaceOp op va vb) d
noncomputable def CmpR (w:World) (h₀:Heap) (n:Nat) (op:CmpOp) (a b:D) (c:Bool):Prop :=
  ∀ A X s va vb,Room A n → Op h₀ X s → R X s.heap va a → R X s.heap vb b → Yields w h₀ A X s (compareOp op va vb) (.bool c)
noncomputable def UnR (w:World) (h₀:Heap) (n:Nat) (op:UnaryOp) (a d:D):Prop :=
  ∀ A X s va,Room A n → Op h₀ X s → R X s.heap va a → Yields w h₀ A X s (unaryOp op va) d
noncomputable def TruR (w:World) (h₀:Heap) (n:Nat) (a:D) (b:Bool):Prop :=
  ∀ A X s va,Room A n → Op h₀ X s → R X s.heap va a → YieldsB w h₀ A s (truthy va) b
noncomputable def CallR (w:World) (h₀:Heap) (n:Nat) (f:Value) (ds:List D) (d:D):Prop :=
  ∀ A X s vs,Room A n → Op h₀ X s → RAll X s.heap vs ds → Yields w h₀ A X s (call f vs) d
noncomputable def Meth (w:World) (d0:D) (name:Str) (id:String):Prop :=
  ∀ A X (s:Shared) v pl (Q:Value × List Value → Shared → Prop) E,R X s.heap v d0 → Q (.builtin id,[v]) s → wpAny (model prog w) A (getMethod v name pl) Q E s
noncomputable def SubR (w:World) (h₀:Heap) (n:Nat) (value slice:Expr) (a i d:D):Prop :=
  ∀ A X s va vi,Room A n → Op h₀ X s → R X s.heap va a → R X s.heap vi i → Yields w h₀ A X s (subscriptTail value slice va vi) d
noncomputable def Cal (h₀:Heap) (f:Value):Prop:=(∃ id,f = .builtin id) ∨ (∃ T,f = .type T) ∨ ∃ a o fd,f = .ref a ∧ h₀.get? a = some o ∧ o.data = .func fd
inductive EVs (w:World) (h₀:Heap) (n:Nat) (sc:Scope) (ω:Owns) (σ:List Var):List Expr → List D → Prop
  | nil:EVs w h₀ n sc ω σ [] []
  | cons {e:Expr}{es:List Expr}{d:D}{ds:List D}(ns:isStarred e = false):EV w h₀ n sc ω σ e d → EVs w h₀ n sc ω σ es ds → EVs w h₀ n sc ω σ (e :: es) (d :: ds)
section
variable {w:World}{h₀:Heap}{n:Nat}{sc:Scope}{ω:Owns}{σ:List Var}
theorem ev_bool {b:Bool}{k:Nat}{pos:Pos} : EV w h₀ n sc ω σ (.Constant (.bool b) k pos) (.bool b):=fun _ _ _ _ _ _ S _ _ h=>wpAny_pure (h _ _ (.refl S.gi) (.bool b))
theorem ka7 {i:Int}{k:Nat}{pos:Pos} : EV w h₀ n sc ω σ (.Constant (.int i) k pos) (.int i):=fun _ _ _ _ s _ S _ _ h=>wpAny_Constant_int (h _ _ (.tok S.gi _) (.int i _))
theorem kag {x:Str}{k:Nat}{pos:Pos} : EV w h₀ n sc ω σ (.Constant (.str x) k pos) (.str x):=fun _ _ _ _ s _ S _ _ h=>Constant_str (h _ _ (.tok S.gi _) (.str x _))
theorem kci {x:List UInt8}{k:Nat}{pos:Pos} : EV w h₀ n sc ω σ (.Constant (.bytes x) k pos) (.bytes x.toArray):=fun _ _ _ _ s _ S _ _ h=>by
  show wpAny _ _ (mkTextBytes x.toArray) _ _ _
  exact fun _ _ _=>h _ _ (.tok S.gi _) (.bytes _ _)
theorem ld_var {x:Str}{k:VK}{d:D}{A:Around}{env:Env}{X:List Addr}{s0 s:Shared}(hx:Has σ x k d) (S:St h₀ sc env X s0 ω σ s):(x == ("__debug__" : Str)) = false ∧ Yields w h₀ A X s (loadName env x) d:=by
  have hm:=hx.mem
  have hv:=S.var hm
  simp only [varOk,Bool.and_eq_true] at hv
  have hdb:(x == ("__debug__" : Str)) = false:=by simpa using hv.1.2
  refine ⟨hdb,fun Q E h=>?_⟩
  cases k with
  | loc =>
    obtain ⟨m,hns,hmv⟩:=S.ns
    obtain ⟨v,h1,h2⟩:=hmv _ hm rfl d rfl
    refine wpAny_loadName_local S.kind ?_ hns h1 (h v s (.refl S.gi) h2)
    unfold Env.kindOf; rw [S.scope]; simpa using hv.1.1
  | own =>
    obtain ⟨c,ov,h1,h2,h3,h4⟩:=S.cell _ hm (fun q=>VK.noConfusion q)
    obtain ⟨v,rfl,hr⟩:=h4 d rfl
    refine wpAny_loadName_cell S.kind ?_ h1 h2 (h v s (.refl S.gi) hr)
    unfold Env.kindOf; rw [S.scope]; simpa using hv.1.1
  | ext =>
    obtain ⟨c,ov,h1,h2,h3,h4⟩:=S.cell _ hm (fun q=>VK.noConfusion q)
    obtain ⟨v,rfl,hr⟩:=h4 d rfl
    have hcd:(x == ("__classdict__" : Str)) = false:=by simpa using hv.2
    rcases Bool.or_eq_true_iff.mp hv.1.1 with q | q
    · refine wpAny_loadName_cell S.kind ?_ h1 h2 (h v s (.refl S.gi) hr)
      unfold Env.kindOf; rw [S.scope]; simpa using q
    · refine wpAny_loadName_free S.kind ?_ h1 h2 (h v s (.refl S.gi) hr) hcd
      unfold Env.kindOf; rw [S.scope]; simpa using q
theorem ka0 {x:Str}{k:VK}{d:D}{pos:Pos}(hx:Has σ x k d):EV w h₀ n sc ω σ (.Name x pos) d:=fun A env X s0 s _ S Q E h =>
  wpAny_Name ((ld_var hx S).2 Q E h) (ld_var (w:=w) (A:=A) hx S).1
structure GV (h₀:Heap) (x:Str) (v:Value):Prop where
  is:(∃ mg,h₀.Ns mainGlobals mg ∧ mg x = some v) ∨ ∃ mg mb,h₀.Ns mainGlobals mg ∧ mg x = none ∧ h₀.Ns builtinsNs mb ∧ mb x = some v
  nd:(x == ("__debug__" : Str)) = false
theorem ka3 {x:Str}{v:Value}{pos:Pos}(g:GV h₀ x v) (hk:sc.names.lookup x = some .globalImplicit):EV w h₀ n sc ω σ (.Name x pos) (.val v):=fun A env X s0 s _ S Q E h=>by
  refine Name_function_global S.kind (by unfold Env.kindOf; rw [S.scope]; exact hk) ?_ g.nd
  rcases g.is with ⟨mg,hn,hv⟩ | ⟨mg,mb,hn,hv,hb,hbv⟩
  · exact loadGlobal_global (mg:=mg) (by rw [S.glob]; exact hn.keeps S.gi.keep) hv (h v s (.refl S.gi) (.val v))
  · exact loadGlobal_builtin (mg:=mg) (mb:=mb) (by rw [S.glob]; exact hn.keeps S.gi.keep) hv (by rw [S.blt]; exact hb.keeps S.gi.keep) hbv (h v s (.refl S.gi) (.val v))
theorem kad {l r:Expr}{op:Operator}{pos:Pos}{a b d:D}(hl:EV w h₀ n sc ω σ l a) (hr:EV w h₀ n sc ω σ r b) (h:BinR w h₀ n op a b d):EV w h₀ n sc ω σ (.BinOp l op r pos) d :=
  fun A env X s0 s rm S Q E hq=>wpAny_BinOp (hl A env X s0 s rm S _ _ fun va s₁ n₁ ra=>hr A env X s0 s₁ rm (S.nx n₁) _ _ fun vb s₂ n₂ rb =>
    h A X s₂ va vb rm (S.nx (n₁.trans n₂)).op (ra.nx n₂ S.tabX) rb _ _ fun v s₃ n₃ rv=>hq v s₃ (n₁.trans (n₂.trans n₃)) rv)
theorem kb8 {l r:Expr}{op:CmpOp}{pos:Pos}{a b:D}{c:Bool}(hl:EV w h₀ n sc ω σ l a) (hr:EV w h₀ n sc ω σ r b) (h:CmpR w h₀ n op a b c) (hm:behindInMarks op r = false:=by rfl):EV w h₀ n sc ω σ (.Compare l [op] [r] pos) (.bool c) :=
  fun A env X s0 s rm S Q E hq=>wpAny_Compare1 (hl A env X s0 s rm S _ _ fun va s₁ n₁ ra=>hr A env X s0 s₁ rm (S.nx n₁) _ _ fun vb s₂ n₂ rb =>
    h A X s₂ va vb rm (S.nx (n₁.trans n₂)).op (ra.nx n₂ S.tabX) rb _ _ fun v s₃ n₃ rv=>hq v s₃ (n₁.trans (n₂.trans n₃)) rv) hm
theorem R.bool_eq {X:List Addr}{h:Heap}{v:Value}{b:Bool}(r:R X h v (.bool b)):v = .bool b:=by cases r; rfl
theorem kam {l r:Expr}{op:CmpOp}{pos:Pos}{a b:D}{c:Bool}(hl:EV w h₀ n sc ω σ l a) (hr:EV w h₀ n sc ω σ r b) (h:CmpR w h₀ n op a b c) (hm:behindInMarks op r = false:=by rfl):TV w h₀ n sc ω σ (.Compare l [op] [r] pos) c :=
  fun A env X s0 s rm S Q E hq=>wpAny_isTrue_Compare1 (hl A env X s0 s rm S _ _ fun va s₁ n₁ ra=>hr A env X s0 s₁ rm (S.nx n₁) _ _ fun vb s₂ n₂ rb =>
    h A X s₂ va vb rm (S.nx (n₁.trans n₂)).op (ra.nx n₂ S.tabX) rb _ _ fun v s₃ n₃ rv=>by
      rw [rv.bool_eq]
      exact wpAny_truthy_bool (hq s₃ (n₁.trans (n₂.trans n₃)))) hm
theorem ev_un {x:Expr}{op:UnaryOp}{pos:Pos}{a d:D}(hx:EV w h₀ n sc ω σ x a) (h:UnR w h₀ n op a d):EV w h₀ n sc ω σ (.UnaryOp op x pos) d :=
  fun A env X s0 s rm S Q E hq=>by
    show wpAny _ A (do let v ← eval x env; standAt pos; holding [v] (unaryOp op v)) Q E s
    exact wpAny_bind (hx A env X s0 s rm S _ _ fun va s₁ n₁ ra=>wpAny_bind (wpAny_standAt (wpAny_holding (h A X s₁ va rm (S.nx n₁).op ra _ _ fun v s₂ n₂ rv=>hq v s₂ (n₁.trans n₂) rv))))
theorem kau {b:Bool} : TruR w h₀ n (.bool b) b:=fun A X s va _ O r Q E h=>by rw [r.bool_eq]; exact wpAny_truthy_bool (h s (.refl O.gi))
noncomputable def plainTest:Expr → Bool
  | .UnaryOp .Not _ _ | .BoolOp .. | .IfExp .. | .Compare ..=>false
  | _=>true
theorem kf8 {e:Expr}{env:Env}{t:Sem Value}(h:plainTest e = true):isTrue e env t = (do let v ← t; standAt e.pos; holding [v] (truthy v)):=by
  cases e with
  | UnaryOp op x p=>cases op <;> first | rfl | cases h
  | _=>first | rfl | cases h
theorem kap {e:Expr}{d:D}{b:Bool}(he:EV w h₀ n sc ω σ e d) (h:TruR w h₀ n d b) (hp:plainTest e = true:=by rfl):TV w h₀ n sc ω σ e b :=
  fun A env X s0 s rm S Q E hq=>by
    rw [kf8 hp]
    exact wpAny_bind (he A env X s0 s rm S _ _ fun va s₁ n₁ ra=>wpAny_bind (wpAny_standAt (wpAny_holding (h A X s₁ va rm (S.nx n₁).op ra _ _ fun s₂ n₂=>hq s₂ (n₁.trans n₂)))))
theorem kfw {x:Expr}{pos:Pos}{b:Bool}(h:TV w h₀ n sc ω σ x b):TV w h₀ n sc ω σ (.UnaryOp .Not x pos) (!b) :=
  fun A env X s0 s rm S Q E hq=>by
    show wpAny _ A (do return !(← isTrue x env (eval x env))) Q E s
    exact wpAny_bind (h A env X s0 s rm S _ _ fun s₁ n₁=>wpAny_pure (hq s₁ n₁))
inductive TVs (w:World) (h₀:Heap) (n:Nat) (sc:Scope) (ω:Owns) (σ:List Var) (op:BoolOp):List Expr → Bool → Prop
  | nil:TVs w h₀ n sc ω σ op [] (op == .And)
  | cons {e:Expr}{es:List Expr}{b c:Bool} : TV w h₀ n sc ω σ e b → (b = (op == .And) → TVs w h₀ n sc ω σ op es c) → (b ≠ (op == .And) → c = b) → TVs w h₀ n sc ω σ op (e :: es) c
set_option tactic.hygienic true in
theorem kej {op:BoolOp}{A:Around}{env:Env}{X:List Addr}{s0:Shared}{E:Value → Shared → Prop}(rm:Room A n):∀ {es:List Expr}{c:Bool}{s:Shared}{Q:Bool → Shared → Prop},TVs w h₀ n sc ω σ op es c → St h₀ sc env X s0 ω σ s →
    (∀ s',Nx h₀ s s' → Q c s') → wpAny (model prog w) A (allTrue op es env) Q E s
  | [],_,s,Q,t,S,h=>by
    cases t
    show wpAny _ A (pure (op == .And)) Q E s
    exact wpAny_pure (h s (.refl S.gi))
  | e :: es,c,s,Q,t,S,h=>by
    cases t with
    | cons t1 t2 t3 =>
      rename_i b
      show wpAny _ A (do match op, ← isTrue e env (eval e env) with
        | .And,false=>pure false
        | .Or,true=>pure true
        | _,_=>allTrue op es env) Q E s
      refine wpAny_bind (t1 A env X s0 s rm S _ _ fun s₁ n₁=>?_)
      cases op <;> cases b
      · exact wpAny_pure (by have:=t3 (by decide); subst this; exact h s₁ n₁)
      · exact kej rm (t2 rfl) (S.nx n₁) fun s₂ n₂=>h s₂ (n₁.trans n₂)
      · exact kej rm (t2 rfl) (S.nx n₁) fun s₂ n₂=>h s₂ (n₁.trans n₂)
      · exact wpAny_pure (by have:=t3 (by decide); subst this; exact h s₁ n₁)
theorem kbv {op:BoolOp}{es:List Expr}{pos:Pos}{c:Bool}(h:TVs w h₀ n sc ω σ op es c):TV w h₀ n sc ω σ (.BoolOp op es pos) c :=
  fun A env X s0 s rm S Q E hq=>kej rm h S hq
theorem ev_ite {t a b:Expr}{pos:Pos}{c:Bool}{d:D}(ht:TV w h₀ n sc ω σ t c) (ha:c = true → EV w h₀ n sc ω σ a d) (hb:c = false → EV w h₀ n sc ω σ b d):EV w h₀ n sc ω σ (.IfExp t a b pos) d :=
  fun A env X s0 s rm S Q E hq=>by
    show wpAny _ A (do if ← isTrue t env (eval t env) then eval a env else eval b env) Q E s
    refine wpAny_bind (ht A env X s0 s rm S _ _ fun s₁ n₁=>?_)
    cases c with
    | true=>exact ha rfl A env X s0 s₁ rm (S.nx n₁) _ _ fun v s₂ n₂ r=>hq v s₂ (n₁.trans n₂) r
    | false=>exact hb rfl A env X s0 s₁ rm (S.nx n₁) _ _ fun v s₂ n₂ r=>hq v s₂ (n₁.trans n₂) r
theorem kbm {e:Expr}{es:List Expr}{env:Env}(h:isStarred e = false):starEach (e :: es) env = (false,eval e env) :: starEach es env:=by
  cases e <;> first | rfl | cases h
theorem kd4 {A:Around}{env:Env}{X:List Addr}{s0:Shared}{E:Value → Shared → Prop}{pos:Pos}(rm:Room A n) {es:List Expr}{ds:List D}{s:Shared}{Q:List Value → Shared → Prop}(H:EVs w h₀ n sc ω σ es ds) (S:St h₀ sc env X s0 ω σ s)
    (h:∀ vs s',Nx h₀ s s' → RAll X s'.heap vs ds → Q vs s'):wpAny (model prog w) A (spliced (backTo pos (starEach es env))) Q E s:=by
  induction H generalizing s Q with
  | nil=>exact spliced_nil (h [] s (.refl S.gi) .nil)
  | cons ns he r ih =>
    rw [kbm ns]
    exact spliced_cons (he A env X s0 s rm S _ _ fun v s₁ n₁ rv=>ih (S.nx n₁) fun vs s₂ n₂ rs=>h (v :: vs) s₂ (n₁.trans n₂) (.cons (rv.nx n₂ S.tabX) rs))
theorem EVs.noStar {es:List Expr}{ds:List D}{env:Env}{pos:Pos}(h:EVs w h₀ n sc ω σ es ds):(backTo pos (starEach es env)).any (·.1) = false:=by
  induction h with
  | nil=>rfl
  | cons ns _ _ ih=>rw [kbm ns]; simpa [backTo] using ih
theorem khq {A:Around}{env:Env}{X:List Addr}{s0:Shared}{E:Value → Shared → Prop}{pos:Pos}{f:Value}(rm:Room A n) {es:List Expr}{ds:List D}{s:Shared}{Q:Args → Shared → Prop}(he:EVs w h₀ n sc ω σ es ds) (S:St h₀ sc env X s0 ω σ s)
    (h:∀ vs s',Nx h₀ s s' → RAll X s'.heap vs ds → Q ⟨vs,[]⟩ s'):wpAny (model prog w) A (evalArgs f true (backTo pos (starEach es env)) []) Q E s:=by
  cases he with
  | nil =>
    show wpAny _ A (evalArgs f true [] []) Q E s
    refine evalArgs_kw_nil rfl ?_
    exact wpAny_evalAll_nil (h [] s (.refl S.gi) .nil)
  | cons ns h1 h2 =>
    have e:=kd4 (pos:=pos) (E:=E) (Q:=fun vs s'=>Q ⟨vs,[]⟩ s') rm (.cons ns h1 h2) S h
    rw [kbm ns] at e ⊢
    exact evalArgs_plain e
theorem kaj {es:List Expr}{ds:List D}{pos:Pos}(he:EVs w h₀ n sc ω σ es ds) (hz:ds.length ≤ 1000:=by exact Nat.le_of_ble_eq_true rfl):EV w h₀ n sc ω σ (.List es pos) (.list ds) :=
  fun A env X s0 s rm S Q E hq=>by
    show wpAny _ A (do standAt pos; newList (← spliced (backTo pos (starEach es env)))) Q E s
    refine wpAny_bind (wpAny_standAt (wpAny_bind (kd4 rm he S fun vs s₁ n₁ rs=>?_)))
    have O:=(S.nx n₁).op
    refine wpAny_newObj_type (hq _ _ (n₁.trans (.push n₁.2 _ _)) (.list ⟨_,Heap.get?_push_size _ rfl⟩ O.fresh (rs.nx (.push n₁.2 _ s₁.toks) S.tabX))) ?_
    show vs.toArray.size ≤ sizeLine
    rw [List.size_toArray,rs.length,sizeLine_eq]; lia
theorem kb4 {es:List Expr}{ds:List D}{k:Nat}{pos:Pos}(he:EVs w h₀ n sc ω σ es ds) (hz:ds.length ≤ 1000:=by exact Nat.le_of_ble_eq_true rfl):EV w h₀ n sc ω σ (.Tuple es k pos) (.tuple ds) :=
  fun A env X s0 s rm S Q E hq=>by
    show wpAny _ A (do standAt pos; newTuple (← spliced (backTo pos (starEach es env)))) Q E s
    refine wpAny_bind (wpAny_standAt (wpAny_bind (kd4 rm he S fun vs s₁ n₁ rs=>?_)))
    have O:=(S.nx n₁).op
    refine wpAny_newObj_type (hq _ _ (n₁.trans (.push n₁.2 _ _)) (.tuple ⟨_,Heap.get?_push_size _ rfl,rfl,_,rfl⟩ O.fresh (rs.nx (.push n₁.2 _ s₁.toks) S.tabX))) ?_
    show vs.toArray.size ≤ sizeLine
    rw [List.size_toArray,rs.length,sizeLine_eq]; lia
theorem kec {M:Model}{A:Around}{E:Value → Shared → Prop}{s:Shared}{pos:Pos}{T:String}{first:List Value}{args:List (Bool × Sem Value)}{Q:Value → Shared → Prop}(hplain:args.any (·.1) = false)
    (h:wpAny M A (evalArgs (.type T) true args []) (fun a s₁=>wpAny M A (call (.type T) (first ++ a.pos) a.kw) Q E s₁) E s) :
    wpAny M A (callWith pos (.type T) first args []) Q E s:=by
  unfold callWith
  refine wpAny_bind (wpAny_holding (wpAny_mono h (fun a s₁ h₁=>wpAny_bind (wpAny_standAt ?_)) fun _ _ x=>x))
  rw [hplain]
  refine wpAny_bind (m:=keeperOf (.type T)) (wpAny_pure ?_)
  exact wpAny_bind (wpAny_mono h₁ (fun r s₂ hr=>wpAny_bind (wpAny_holding (wpAny_point (wpAny_pure hr)))) fun _ _ x=>x)
theorem kb0 {A:Around}{env:Env}{X:List Addr}{s0:Shared}{E:Value → Shared → Prop}{pos pos':Pos}{f:Value}{first:List Value}(rm:Room A n) {es:List Expr}{ds:List D}{s:Shared}{Q:Value → Shared → Prop}(hc:Cal h₀ f)
    (he:EVs w h₀ n sc ω σ es ds) (S:St h₀ sc env X s0 ω σ s) (h:∀ vs s',Nx h₀ s s' → RAll X s'.heap vs ds → wpAny (model prog w) A (call f (first ++ vs)) Q E s') :
    wpAny (model prog w) A (callWith pos' f first (backTo pos (starEach es env)) []) Q E s:=by
  rcases hc with ⟨id,rfl⟩ | ⟨T,rfl⟩ | ⟨a,o,fd,rfl,ho,hd⟩
  · exact callWith_builtin he.noStar (khq rm he S fun vs s₁ n₁ rs=>h vs s₁ n₁ rs)
  · exact kec he.noStar (khq rm he S fun vs s₁ n₁ rs=>h vs s₁ n₁ rs)
  · exact callWith_function (o:=o) (fd:=fd) (khq rm he S fun vs s₁ n₁ rs=>⟨⟨n₁.2.keep _ _ ho,hd⟩,h vs s₁ n₁ rs⟩)
theorem ka8 {x:Str}{xp pos:Pos}{args:List Expr}{f:Value}{ds:List D}{d:D}(hf:EV w h₀ n sc ω σ (.Name x xp) (.val f)) (hc:Cal h₀ f) (ha:EVs w h₀ n sc ω σ args ds) (hr:CallR w h₀ n f ds d) :
    EV w h₀ n sc ω σ (.Call (.Name x xp) args [] pos) d:=fun A env X s0 s rm S Q E hq=>by
  show wpAny _ A (do callWith pos (← eval (.Name x xp) env) [] (backTo pos (starEach args env)) []) Q E s
  refine wpAny_bind (hf A env X s0 s rm S _ _ fun v s₁ n₁ rv=>?_)
  have:v = f:=by cases rv; rfl
  subst this
  exact kb0 rm hc ha (S.nx n₁) fun vs s₂ n₂ rs=>hr A X s₂ vs rm (S.nx (n₁.trans n₂)).op rs _ _ fun v s₃ n₃ r=>hq v s₃ (n₁.trans (n₂.trans n₃)) r
theorem kbj {x name:Str}{xp apos pos:Pos}{args:List Expr}{id:String}{d0:D}{ds:List D}{d:D}(ho:EV w h₀ n sc ω σ (.Name x xp) d0) (hm:Meth w d0 name id) (ha:EVs w h₀ n sc ω σ args ds) (hr:CallR w h₀ n (.builtin id) (d0 :: ds) d)
    (hp:(apos.endLine == pos.line) = true:=by rfl) (hl:args.length < 29:=by exact Nat.le_of_ble_eq_true rfl):EV w h₀ n sc ω σ (.Call (.Attribute (.Name x xp) name apos) args [] pos) d:=fun A env X s0 s rm S Q E hq=>by
  show wpAny _ A (do
    let ov ← eval (.Name x xp) env
    standAt apos.atName
    methodCall (.Name x xp) name apos pos env ov (args.length + 0) (backTo pos (starEach args env)) []) Q E s
  refine wpAny_bind (ho A env X s0 s rm S _ _ fun v s₁ n₁ rv=>wpAny_bind (wpAny_standAt ?_))
  have hform:methodCallForm (args.length + 0) (backTo pos (starEach args env)) [] = true:=by
    have e:=ha.noStar (env:=env) (pos:=pos)
    unfold methodCallForm
    rw [List.all_eq_not_any_not]
    simp only [Bool.not_not,e,List.all_nil,List.isEmpty_nil,if_true]
    simpa using Nat.lt_succ_of_lt hl
  unfold methodCall calleeOf methodCallPos
  rw [hform]
  simp only [if_true,Bool.not_true,Bool.false_or,hp]
  refine wpAny_bind (wpAny_holding (hm A X s₁ v _ _ _ rv (wpAny_bind (wpAny_pure ?_))))
  refine kb0 rm (.inl ⟨id,rfl⟩) ha (S.nx n₁) fun vs s₂ n₂ rs=>?_
  exact hr A X s₂ (v :: vs) rm (S.nx (n₁.trans n₂)).op (.cons (rv.nx n₂ S.tabX) rs) _ _ fun v s₃ n₃ r=>hq v s₃ (n₁.trans (n₂.trans n₃)) r
theorem kao {value slice:Expr}{pos:Pos}{a i d:D}(hv:EV w h₀ n sc ω σ value a) (hs:EV w h₀ n sc ω σ slice i) (h:SubR w h₀ n value slice a i d):EV w h₀ n sc ω σ (.Subscript value slice pos) d :=
  fun A env X s0 s rm S Q E hq=>Subscript_ (hv A env X s0 s rm S _ _ fun va s₁ n₁ ra=>hs A env X s0 s₁ rm (S.nx n₁) _ _ fun vi s₂ n₂ ri =>
    h A X s₂ va vi rm (S.nx (n₁.trans n₂)).op (ra.nx n₂ S.tabX) ri _ _ fun v s₃ n₃ rv=>hq v s₃ (n₁.trans (n₂.trans n₃)) rv)
end
end
section
inductive Out where
  | next (ω:Owns) (σ:List Var)
  | brk (ω:Owns) (σ:List Var)
  | cont (ω:Owns) (σ:List Var)
  | ret (d:D)
inductive NextOk (h₀:Heap) (sc:Scope) (env:Env) (X:List Addr) (s0 s:Shared) (ω:Owns) (σ:List Var) (s':Shared):Prop
  | mk (X':List Addr) (g:Grow X s X' s') (S:St h₀ sc env X' s0 ω σ s'):NextOk h₀ sc env X s0 s ω σ s'
inductive RetOk (h₀:Heap) (X:List Addr) (s0:Shared) (d:D) (v:Value) (s':Shared):Prop
  | mk (k:Kp s0 s') (gi:GI h₀ s') (Y:List Addr) (hY:∀ a ∈ X,(∃ o,s0.heap.get? a = some o) → a ∈ Y) (r:R Y s'.heap v d):RetOk h₀ X s0 d v s'
noncomputable def OutOk (h₀:Heap) (sc:Scope) (env:Env) (X:List Addr) (s0 s:Shared):Out → Flow → Shared → Prop
  | .next ω σ, .next,s'=>NextOk h₀ sc env X s0 s ω σ s'
  | .brk ω σ, .brk,s'=>NextOk h₀ sc env X s0 s ω σ s'
  | .cont ω σ, .cont,s'=>NextOk h₀ sc env X s0 s ω σ s'
  | .ret d, .ret v,s'=>RetOk h₀ X s0 d v s'
  | _,_,_=>False
theorem R.sub {X X':List Addr}{h:Heap}{v:Value}{d:D}(r:R X' h v d) (k:∀ a ∈ X,a ∈ X'):R X h v d:=r.weak fun a ha _=>k a ha
theorem OutOk.back {h₀:Heap}{sc:Scope}{env:Env}{X X₁:List Addr}{s0 s s₁ s':Shared}{out:Out}{fl:Flow}(g:Grow X s X₁ s₁) (o:OutOk h₀ sc env X₁ s0 s₁ out fl s'):OutOk h₀ sc env X s0 s out fl s':=by
  cases out <;> cases fl <;> first
    | exact o.elim
    | (obtain ⟨X',g',S⟩:=o; exact ⟨X',g.trans g',S⟩)
    | (obtain ⟨k,gi,Y,hY,r⟩:=o; exact ⟨k,gi,Y,fun a ha=>hY a (g.sub a ha),r⟩)
noncomputable def SS (w:World) (h₀:Heap) (n:Nat) (sc:Scope) (ω:Owns) (σ:List Var) (st:Stmt) (out:Out):Prop :=
  ∀ A env X s0 s (Q:Flow → Shared → Prop) E,Room A n → St h₀ sc env X s0 ω σ s → (∀ fl s',OutOk h₀ sc env X s0 s out fl s' → Q fl s') → wpAny (model prog w) A (exec st env) Q E s
noncomputable def SX (w:World) (h₀:Heap) (n:Nat) (sc:Scope) (ω:Owns) (σ:List Var) (ss:List Stmt) (out:Out):Prop :=
  ∀ A env X s0 s (Q:Flow → Shared → Prop) E,Room A n → St h₀ sc env X s0 ω σ s → (∀ fl s',OutOk h₀ sc env X s0 s out fl s' → Q fl s') → wpAny (model prog w) A (execs ss env) Q E s
noncomputable def Out.stops:Out → Bool
  | .next ..=>false
  | _=>true
noncomputable def compLike:Expr → Bool
  | .ListComp .. | .SetComp .. | .DictComp ..=>true
  | _=>false
theorem kfm {e:Expr}{t:Option Expr}{l:Nat}{env:Env}(h:compLike e = false):swapsWith e t l env = pure false:=by
  cases e <;> first | rfl | cases h
section
variable {w:World}{h₀:Heap}{n:Nat}{sc:Scope}{ω ω':Owns}{σ σ':List Var}
theorem kbw:SX w h₀ n sc ω σ [] (.next ω σ):=fun A env X s0 s Q E rm S h=>wpAny_execs_nil (h _ _ ⟨X, .refl X s,S⟩)
theorem ka5 {st:Stmt}{rest:List Stmt}{out:Out}(h1:SS w h₀ n sc ω σ st (.next ω' σ')) (h2:SX w h₀ n sc ω' σ' rest out):SX w h₀ n sc ω σ (st :: rest) out :=
  fun A env X s0 s Q E rm S h=>wpAny_execs_cons (h1 A env X s0 s _ _ rm S fun fl s₁ o=>by
    cases fl with
    | next=>obtain ⟨X',g,S'⟩:=o; exact h2 A env X' s0 s₁ Q E rm S' fun fl s' o'=>h fl s' (o'.back g)
    | _=>exact o.elim)
theorem kdh {st:Stmt}{rest:List Stmt}{out:Out}(h1:SS w h₀ n sc ω σ st out) (hs:out.stops = true):SX w h₀ n sc ω σ (st :: rest) out :=
  fun A env X s0 s Q E rm S h=>wpAny_execs_cons (h1 A env X s0 s _ _ rm S fun fl s₁ o=>by
    cases fl with
    | next=>cases out <;> first | exact False.elim o | cases hs
    | _=>exact h _ s₁ o)
theorem ka4 {st:Stmt}{out:Out}(h1:SS w h₀ n sc ω σ st out):SX w h₀ n sc ω σ [st] out :=
  fun A env X s0 s Q E rm S h=>wpAny_execs_cons (h1 A env X s0 s _ _ rm S fun fl s₁ o=>by
    cases fl with
    | next=>exact wpAny_execs_nil (h _ s₁ o)
    | _=>exact h _ s₁ o)
theorem ka1 {x:Str}{k:VK}{e:Expr}{d:D}{p pos:Pos}(he:EV w h₀ n sc ω σ e d) (U:Upd σ x k d σ') (hk:k ≠ .ext:=by decide) (hc:compLike e = false:=by rfl):SS w h₀ n sc ω σ (.Assign [.Name x p] e pos) (.next ω σ') :=
  fun A env X s0 s Q E rm S h=>wpAny_Assign_Name (he A env X s0 s rm S _ _ fun v s₁ n₁ r=>(S.nx n₁).store U hk r fun s₂ g₂ S₂=>h _ _ ⟨X,(Grow.of_nx n₁ S.tabX).trans g₂,S₂⟩) (kfm hc)
theorem kab {e:Expr}{d:D}{pos:Pos}(he:EV w h₀ n sc ω σ e d):SS w h₀ n sc ω σ (.Return (some e) pos) (.ret d) :=
  fun A env X s0 s Q E rm S h=>wpAny_Return_some (he A env X s0 s rm S _ _ fun v s₁ n₁ r=>h _ _ ⟨S.base.trans n₁.1,n₁.2,X,fun _ h _=>h,r⟩)
theorem ss_if {t:Expr}{a b:List Stmt}{pos:Pos}{c:Bool}{out:Out}(ht:TV w h₀ n sc ω σ t c) (ha:c = true → SX w h₀ n sc ω σ a out) (hb:c = false → SX w h₀ n sc ω σ b out):SS w h₀ n sc ω σ (.If t a b pos) out :=
  fun A env X s0 s Q E rm S h=>wpAny_If (ht A env X s0 s rm S _ _ fun s₁ n₁=>by
    cases c with
    | true=>exact ha rfl A env X s0 s₁ Q E rm (S.nx n₁) fun fl s' o=>h fl s' (o.back (.of_nx n₁ S.tabX))
    | false=>exact hb rfl A env X s0 s₁ Q E rm (S.nx n₁) fun fl s' o=>h fl s' (o.back (.of_nx n₁ S.tabX)))
theorem ss_break {pos:Pos} : SS w h₀ n sc ω σ (.Break pos) (.brk ω σ):=fun A env X s0 s Q E rm S h=>wpAny_Break (h _ _ ⟨X, .refl X s,S⟩)
theorem kkm {pos:Pos} : SS w h₀ n sc ω σ (.Continue pos) (.cont ω σ):=fun A env X s0 s Q E rm S h=>wpAny_Continue (h _ _ ⟨X, .refl X s,S⟩)
theorem ss_aug {x:Str}{k:VK}{op:Operator}{e:Expr}{a b d:D}{p pos:Pos}(hx:Has σ x k a) (he:EV w h₀ n sc ω σ e b) (ho:IopR w h₀ n op a b d) (U:Upd σ x k d σ') (hk:k ≠ .ext:=by decide):SS w h₀ n sc ω σ (.AugAssign (.Name x p) op e pos) (.next ω σ') :=
  fun A env X s0 s Q E rm S h=>by
    have hl:Yields w h₀ A X s (loadName env x) a:=(ld_var hx S).2
    exact wpAny_AugAssign_Name (hl _ _ fun va s₁ n₁ ra=>he A env X s0 s₁ rm (S.nx n₁) _ _ fun vb s₂ n₂ rb=>ho A X s₂ va vb rm (S.nx (n₁.trans n₂)).op (ra.nx n₂ S.tabX) rb _ _ fun v s₃ n₃ r =>
      (S.nx (n₁.trans (n₂.trans n₃))).store U hk r fun s₄ g₄ S₄=>h _ _ ⟨X,(Grow.of_nx (n₁.trans (n₂.trans n₃)) S.tabX).trans g₄,S₄⟩)
theorem ss_try {body orelse:List Stmt}{hd:ExceptHandler}{hs:List ExceptHandler}{pos:Pos}{out:Out}(hb:SX w h₀ n sc ω σ body out) (ho:orelse = []):SS w h₀ n sc ω σ (.Try body (hd :: hs) orelse [] pos) out :=
  fun A env X s0 s Q E rm S h=>by
    subst ho
    exact wpAny_Try_except (hb A env X s0 s _ _ rm S fun fl s₁ o=>by
      cases fl with
      | next=>exact wpAny_execs_nil (h _ _ o)
      | _=>exact h _ _ o)
inductive WL (w:World) (h₀:Heap) (n:Nat) (sc:Scope) (test:Expr) (body:List Stmt):Owns → List Var → Out → Prop
  | done {ω:Owns}{σ:List Var} : TV w h₀ n sc ω σ test false → WL w h₀ n sc test body ω σ (.next ω σ)
  | next {ω ω₁:Owns}{σ σ₁:List Var}{out:Out} : TV w h₀ n sc ω σ test true → SX w h₀ n sc ω σ body (.next ω₁ σ₁) → WL w h₀ n sc test body ω₁ σ₁ out → WL w h₀ n sc test body ω σ out
  | ret {ω:Owns}{σ:List Var}{d:D} : TV w h₀ n sc ω σ test true → SX w h₀ n sc ω σ body (.ret d) → WL w h₀ n sc test body ω σ (.ret d)
theorem wp_while {A:Around}{env:Env}{s0:Shared}{test:Expr}{body:List Stmt}(rm:Room A n) {out:Out}(W:WL w h₀ n sc test body ω σ out):∀ {X:List Addr}{s:Shared}{RR:Result → Shared → Prop},St h₀ sc env X s0 ω σ s →
    (∀ fl s',OutOk h₀ sc env X s0 s out fl s' → RR (.ok fl) s') → codeAny (model prog w) A (.whileLoop test body [] env) RR s:=by
  induction W with
  | done ht =>
    intro X s RR S h
    refine codeAny_of_tree ?_
    show wpAny _ A ((whileTurn test body [] env).onRaise (fun x=>do noteFrame x env; theTreesLotGoes x)) _ _ s
    refine wpAny_noted ?_
    simp only [whileTurn]
    refine wpAny_bind (ht A env X s0 s rm S _ _ fun s₁ n₁=>?_)
    simp only [Bool.false_eq_true,if_false]
    exact wpAny_bind (wpAny_execs_nil (wpAny_pure (h _ _ ⟨X, .of_nx n₁ S.tabX,S.nx n₁⟩)))
  | next ht hb _ ih =>
    intro X s RR S h
    refine codeAny_of_tree ?_
    show wpAny _ A ((whileTurn test body [] env).onRaise (fun x=>do noteFrame x env; theTreesLotGoes x)) _ _ s
    refine wpAny_noted ?_
    simp only [whileTurn]
    refine wpAny_bind (ht A env X s0 s rm S _ _ fun s₁ n₁=>?_)
    simp only [if_true]
    refine wpAny_bind (hb A env X s0 s₁ _ _ rm (S.nx n₁) fun fl s₂ o=>?_)
    cases fl with
    | next =>
      obtain ⟨X',g,S'⟩:=o
      exact wpAny_pure ⟨rfl,ih S' fun fl s' o'=>h fl s' (o'.back ((Grow.of_nx n₁ S.tabX).trans g))⟩
    | _=>exact o.elim
  | ret ht hb =>
    intro X s RR S h
    refine codeAny_of_tree ?_
    show wpAny _ A ((whileTurn test body [] env).onRaise (fun x=>do noteFrame x env; theTreesLotGoes x)) _ _ s
    refine wpAny_noted ?_
    simp only [whileTurn]
    refine wpAny_bind (ht A env X s0 s rm S _ _ fun s₁ n₁=>?_)
    simp only [if_true]
    refine wpAny_bind (hb A env X s0 s₁ _ _ rm (S.nx n₁) fun fl s₂ o=>?_)
    cases fl with
    | ret v=>exact wpAny_pure (h (.ret v) s₂ (OutOk.back (out:=.ret _) (.of_nx n₁ S.tabX) o))
    | _=>exact o.elim
theorem ss_while {test:Expr}{body:List Stmt}{pos:Pos}{out:Out}(W:WL w h₀ n sc test body ω σ out):SS w h₀ n sc ω σ (.While test body [] pos) out :=
  fun A env X s0 s Q E rm S h=>wpAny_While (wp_while rm W S fun fl s' o=>h fl s' o)
inductive ItObj (I:Addr) (h:Heap):Prop
  | mk (o:Obj) (vs:Array Value) (T:String) (e1:h.get? I = some o) (e2:o.data = .fields vs) (e3:(∀ q, ¬ h.CodeRec (.ref I) q)) (e4:o.cls = .type T) (e5:(["enumerate", "zip", "dict_itemiterator", "dict_reverseitemiterator", "odict_iterator", "itertools.zip_longest", "itertools.pairwise"].contains T) = false):ItObj I h
structure IterAt (w:World) (A:Around) (X:List Addr) (s:Shared) (I:Addr) (fp:List Addr) (P:Nat → Value → Prop) (Si:Nat → Heap → Prop) (ds:List D):Prop where
  W:Walks prog w A I fp [I] ds.length P Si
  st:Si 0 s.heap
  fpk:∀ b ∈ fp,b = I ∨ (b ∉ X ∧ ∃ o,s.heap.get? b = some o)
  al:∀ i h,Si i h → ItObj I h
  items:∀ i v d,P i v → ds[i]? = some d → R X s.heap v d
noncomputable def IterR (w:World) (h₀:Heap) (n:Nat) (d0:D) (ds:List D):Prop :=
  ∀ A X s v,Room A n → Op h₀ X s → R X s.heap v d0 → ∀ (Q:Value → Shared → Prop) E,(∀ I fp P Si s',Nx h₀ s s' → I ∉ X → s.heap.get? I = none → IterAt w A X s' I fp P Si ds → Q (.ref I) s') → wpAny (model prog w) A (pyIter v) Q E s
noncomputable def IterE (w:World) (h₀:Heap) (n:Nat) (sc:Scope) (ω:Owns) (σ:List Var) (e:Expr) (ds:List D):Prop :=
  ∀ A env X s0 s (Q:Value → Shared → Prop) E,Room A n → St h₀ sc env X s0 ω σ s → (∀ I fp P Si s',Nx h₀ s s' → I ∉ X → s.heap.get? I = none → IterAt w A X s' I fp P Si ds → Q (.ref I) s') →
    wpAny (model prog w) A (eval e env) (fun x s₁=>wpAny (model prog w) A (pyIter x) Q E s₁) E s
theorem IterE.of {e:Expr}{d0:D}{ds:List D}(he:EV w h₀ n sc ω σ e d0) (hi:IterR w h₀ n d0 ds):IterE w h₀ n sc ω σ e ds:=fun A env X s0 s Q E rm S h =>
  he A env X s0 s rm S _ _ fun v s₁ n₁ r=>hi A X s₁ v rm (S.nx n₁).op r _ _ fun I fp P Si s₂ n₂ hX hn it=>h I fp P Si s₂ (n₁.trans n₂) hX (by
    cases q:s.heap.get? I with
    | none=>rfl
    | some o =>
      by_cases ht:I = Tb
      · exact absurd (ht ▸ S.tabX) hX
      · rw [n₁.1.get ht q] at hn; cases hn) it
noncomputable def AsgR (w:World) (h₀:Heap) (n:Nat) (sc:Scope) (ω:Owns) (t:Expr) (d:D) (σ σ':List Var):Prop :=
  ∀ A env X s0 s v (Q:Unit → Shared → Prop) E,Room A n → St h₀ sc env X s0 ω σ s → R X s.heap v d → (∀ s',Grow X s X s' → St h₀ sc env X s0 ω σ' s' → Q () s') → wpAny (model prog w) A (assign t env v) Q E s
theorem kac {x:Str}{k:VK}{d:D}{p:Pos}(U:Upd σ x k d σ') (hk:k ≠ .ext:=by decide):AsgR w h₀ n sc ω (.Name x p) d σ σ' :=
  fun A env X s0 s v Q E rm S r h=>wpAny_assign_Name (S.store U hk r h)
inductive FL (w:World) (h₀:Heap) (n:Nat) (sc:Scope) (t:Expr) (body:List Stmt):Owns → List Var → List D → Out → Prop
  | nil {ω:Owns}{σ:List Var} : FL w h₀ n sc t body ω σ [] (.next ω σ)
  | next {ω ω₂:Owns}{σ σ₁ σ₂:List Var}{d:D}{ds:List D}{out:Out} : (∀ p,AsgR w h₀ n sc (p :: ω) t d σ σ₁) → (∀ p,SX w h₀ n sc (p :: ω) σ₁ body (.next (p :: ω₂) σ₂)) → FL w h₀ n sc t body ω₂ σ₂ ds out → FL w h₀ n sc t body ω σ (d :: ds) out
  | cont {ω ω₂:Owns}{σ σ₁ σ₂:List Var}{d:D}{ds:List D}{out:Out} : (∀ p,AsgR w h₀ n sc (p :: ω) t d σ σ₁) → (∀ p,SX w h₀ n sc (p :: ω) σ₁ body (.cont (p :: ω₂) σ₂)) → FL w h₀ n sc t body ω₂ σ₂ ds out → FL w h₀ n sc t body ω σ (d :: ds) out
  | brk {ω ω₂:Owns}{σ σ₁ σ₂:List Var}{d:D}{ds:List D} : (∀ p,AsgR w h₀ n sc (p :: ω) t d σ σ₁) → (∀ p,SX w h₀ n sc (p :: ω) σ₁ body (.brk (p :: ω₂) σ₂)) → FL w h₀ n sc t body ω σ (d :: ds) (.next ω₂ σ₂)
  | ret {ω:Owns}{σ σ₁:List Var}{d r:D}{ds:List D} : (∀ p,AsgR w h₀ n sc (p :: ω) t d σ σ₁) → (∀ p,SX w h₀ n sc (p :: ω) σ₁ body (.ret r)) → FL w h₀ n sc t body ω σ (d :: ds) (.ret r)
theorem St.drop {h₀:Heap}{env:Env}{X:List Addr}{s0 s:Shared}{p:Addr × Cn}(S:St h₀ sc env X s0 (p :: ω) σ s):St h₀ sc env X s0 ω σ s :=
  { S with owns:=⟨by have:=S.owns.nd; rw [List.map_cons,List.nodup_cons] at this; exact this.2,fun q hq=>S.owns.is q (.tail _ hq)⟩ }
theorem St.adopt {h₀:Heap}{env:Env}{X:List Addr}{s0 s s':Shared}{a:Addr}{c:Cn}(S:St h₀ sc env X s0 ω σ s) (n:Nx h₀ s s') (ha:s.heap.get? a = none) (hal:∃ o,s'.heap.get? a = some o) (hc:CnIs (a :: X) s' a c):St h₀ sc env (a :: X) s0 ((a,c) :: ω) σ s':=by
  have T:=S.nx n
  have up:∀ v d,R X s.heap v d → R (a :: X) s'.heap v d:=fun v d r=>(r.weak (X:=X) (Y:=a :: X) fun b hb ⟨o,e⟩=>(List.mem_cons.mp hb).elim (fun q=>by rw [q,ha] at e; cases e) id).nx n (.tail _ S.tabX)
  have upA:∀ v d,RAll X s.heap v d → RAll (a :: X) s'.heap v d:=fun v d r=>(r.weak (X:=X) (Y:=a :: X) fun b hb ⟨o,e⟩=>(List.mem_cons.mp hb).elim (fun q=>by rw [q,ha] at e; cases e) id).nx n (.tail _ S.tabX)
  refine ⟨T.ok,T.scope,T.glob,T.blt,T.base,T.gi,T.gi0, ?_, ?_,T.inj, .tail _ T.locX,T.new,T.newc, ?_, .tail _ T.tabX, ?_⟩
  · obtain ⟨m,hm,hv⟩:=S.ns
    refine ⟨m,ns_at hm fun o e=>n.1.get S.locne e,fun e he hk d hd=>?_⟩
    obtain ⟨v,h1,h2⟩:=hv e he hk d hd
    exact ⟨v,h1,up _ _ h2⟩
  · intro e he hk
    obtain ⟨c',ov,h1,h2,h3,h4⟩:=S.cell e he hk
    obtain ⟨ps,ht,_⟩:=S.gi.tab
    refine ⟨c',ov,h1,kaf h2 fun o e=>n.1.get (kaz h2 ht) e, .tail _ h3,fun d hd=>?_⟩
    obtain ⟨v,e1,e2⟩:=h4 d hd
    exact ⟨v,e1,up _ _ e2⟩
  · intro b hb
    rcases List.mem_cons.mp hb with rfl | hb
    · exact hal
    · exact T.alive b hb
  · have hnone:s0.heap.get? a = none:=by
      cases q:s0.heap.get? a with
      | none=>rfl
      | some o =>
        by_cases ht:a = Tb
        · obtain ⟨ps,e,_⟩:=S.gi.tab
          rw [← ht,ha] at e; cases e
        · have:=S.base.get ht q
          rw [ha] at this; cases this
    refine ⟨?_,fun p hp=>?_⟩
    · rw [List.map_cons,List.nodup_cons]
      refine ⟨fun hm=>?_,S.owns.nd⟩
      obtain ⟨p,hp,e⟩:=List.mem_map.mp hm
      obtain ⟨o,q⟩:=S.alive p.1 (S.owns.is p hp).1
      have e':p.1 = a:=e
      rw [e',ha] at q; cases q
    · rcases List.mem_cons.mp hp with rfl | hp
      · exact ⟨.head _,hnone,hc⟩
      · obtain ⟨h1,h2,h3⟩:=S.owns.is p hp
        have hne:p.1 ≠ Tb:=fun q=>by
          obtain ⟨ps,e,_⟩:=S.gi0.tab
          rw [← q,h2] at e; cases e
        refine ⟨.tail _ h1,h2, ?_⟩
        obtain ⟨b,c'⟩:=p
        cases c' with
        | lst ds=>obtain ⟨vs,q1,q2⟩:=h3; exact ⟨vs,q1.at fun o e=>n.1.get hne e,upA _ _ q2⟩
        | obj o=>exact ⟨n.1.get hne h3.1,h3.2⟩
theorem Grow.adopt {X:List Addr}{s s':Shared}{a:Addr}(n:Nx h₀ s s') (hX:Tb ∈ X) (ha:s.heap.get? a = none):Grow X s (a :: X) s' :=
  ⟨let ⟨h,t,e,_⟩:=n.1; ⟨h,t,e⟩,fun b o hb e=>n.1.get (fun q=>hb (q ▸ hX)) e,fun b h=>.tail _ h,fun b h=>(List.mem_cons.mp h).elim (fun q=>.inr (q ▸ ha)) .inl⟩
theorem St.turnObj {h₀:Heap}{env:Env}{X:List Addr}{s0 s:Shared}{a:Addr}{c c':Cn}{h':Heap}{tk:Nat}(S:St h₀ sc env X s0 ((a,c) :: ω) σ s) (hk:∀ b o,b ≠ a → s.heap.get? b = some o → h'.get? b = some o) (hcode:∀ q, ¬ s.heap.CodeRec (.ref a) q)
    (hal:∃ o,h'.get? a = some o) (hc:CnIs X { s with heap:=h',toks:=tk } a c'):St h₀ sc env X s0 ((a,c') :: ω) σ { s with heap:=h',toks:=tk }:=by
  obtain ⟨haX,hn,hca⟩:=S.owns.is _ (.head _)
  have hT:a ≠ Tb:=fun q=>by
    obtain ⟨ps,e,_⟩:=S.gi0.tab
    rw [← q,hn] at e; cases e
  have up:∀ v d,R X s.heap v d → R X h' v d:=fun v d r=>r.keep fun b o hb e=>hk b o (fun q=>hb (q ▸ haX)) e
  have upA:∀ v d,RAll X s.heap v d → RAll X h' v d:=fun v d r=>r.keep fun b o hb e=>hk b o (fun q=>hb (q ▸ haX)) e
  have hmem:a ∈ ((a,c) :: ω).map (·.1):=.head _
  refine ⟨S.ok,S.scope,S.glob,S.blt, ?_,⟨fun b o e=>?_, ?_,S.gi.off⟩,S.gi0, ?_, ?_,S.inj,S.locX,S.new,S.newc, ?_,S.tabX, ?_⟩
  · obtain ⟨h,t,rfl,k⟩:=S.base
    refine ⟨h',tk,rfl,fun b o hb e=>hk b o (fun q=>?_) (k b o hb e)⟩
    rw [q,hn] at e; cases e
  · refine hk b o (fun q=>?_) (S.gi.keep b o e)
    have:=S.gi0.keep b o e
    rw [q,hn] at this; cases this
  · obtain ⟨ps,e,x⟩:=S.gi.tab
    refine ⟨ps,hk _ _ (Ne.symm hT) e, ?_⟩
    rcases x with x | ⟨c',hne,e1,c,o,vs,t,e2,g,r⟩
    · exact .inl x
    · cases e2
      exact .inr ⟨_,hne,e1,_,o,vs,t,rfl,hk _ _ (fun q=>hcode tourQual (q ▸ ⟨_,o,vs,t,rfl,g,r⟩)) g,r⟩
  · obtain ⟨m,hm,hv⟩:=S.ns
    refine ⟨m,ns_at hm fun o e=>hk _ _ (fun q=>kba S.owns hm (q ▸ hmem)) e,fun e he hk' d hd=>?_⟩
    obtain ⟨v,h1,h2⟩:=hv e he hk' d hd
    exact ⟨v,h1,up _ _ h2⟩
  · intro e he hk'
    obtain ⟨c',ov,h1,h2,h3,h4⟩:=S.cell e he hk'
    refine ⟨c',ov,h1,kaf h2 fun o e=>hk _ _ (fun q=>kbi S.owns h2 (q ▸ hmem)) e,h3,fun d hd=>?_⟩
    obtain ⟨v,e1,e2⟩:=h4 d hd
    exact ⟨v,e1,up _ _ e2⟩
  · intro b hb
    by_cases q:b = a
    · exact q ▸ hal
    · obtain ⟨o,e⟩:=S.alive b hb
      exact ⟨o,hk b o q e⟩
  · have hnd:=S.owns.nd
    refine ⟨hnd,fun p hp=>?_⟩
    rcases List.mem_cons.mp hp with rfl | hp
    · exact ⟨haX,hn,hc⟩
    · obtain ⟨h1,h2,h3⟩:=S.owns.is p (.tail _ hp)
      have hne:p.1 ≠ a:=fun q=>by
        rw [List.map_cons,List.nodup_cons] at hnd
        exact hnd.1 (List.mem_map.mpr ⟨p,hp,q⟩)
      refine ⟨h1,h2, ?_⟩
      obtain ⟨b,c'⟩:=p
      cases c' with
      | lst ds=>obtain ⟨vs,q1,q2⟩:=h3; exact ⟨vs,q1.at fun o e=>hk _ _ hne e,upA _ _ q2⟩
      | obj o=>exact ⟨hk _ _ hne h3.1,h3.2⟩
theorem kfr {A:Around}{s:Shared}{t:Expr}{I:Addr}{v:Value}{o:Obj}{T:String}{Q:Unit → Shared → Prop}{E:Value → Shared → Prop}(ho:s.heap.get? I = some o) (hc:o.cls = .type T)
    (hT:(["enumerate", "zip", "dict_itemiterator", "dict_reverseitemiterator", "odict_iterator", "itertools.zip_longest", "itertools.pairwise"].contains T) = false) (h:Q () s):wpAny (model prog w) A (letOwnedTupleGo t (.ref I) v) Q E s:=by
  have body:∀ a,wpAny (model prog w) A (do
      let o ← load I
      match o.cls,o.data with
      | .type n, .fields vs =>
        if ["enumerate", "zip", "dict_itemiterator", "dict_reverseitemiterator", "odict_iterator", "itertools.zip_longest", "itertools.pairwise"].contains n && vs[0]? == some (rawInt a) then
          rule "for.unpacks-the-owned-tuple"
          updateField I 0 .none
      | _,_=>pure ():Sem Unit) Q E s:=fun a=>by
    refine wpAny_bind (wpAny_load ho ?_)
    rw [hc]
    cases hd:o.data with
    | fields vs =>
      show wpAny _ _ (if (List.contains _ T && _) = true then _ else _) _ _ _
      rw [hT]
      exact wpAny_pure h
    | _=>exact wpAny_pure h
  cases t with
  | Tuple _ _ _=>cases v <;> first | exact wpAny_pure h | exact body _
  | List _ _=>cases v <;> first | exact wpAny_pure h | exact body _
  | _=>exact wpAny_pure h
theorem St.erase {h₀:Heap}{env:Env}{X:List Addr}{s0 s:Shared}{a:Addr}{c:Cn}{h':Heap}{tk:Nat}(S:St h₀ sc env X s0 ((a,c) :: ω) σ s) (hk:∀ b o,b ≠ a → s.heap.get? b = some o → h'.get? b = some o) (hcode:∀ q, ¬ s.heap.CodeRec (.ref a) q) :
    St h₀ sc env (X.filter (· != a)) s0 ω σ { s with heap:=h',toks:=tk }:=by
  obtain ⟨haX,hn,hca⟩:=S.owns.is _ (.head _)
  have hT:a ≠ Tb:=fun q=>by
    obtain ⟨ps,e,_⟩:=S.gi0.tab
    rw [← q,hn] at e; cases e
  have inX:∀ b ∈ X,b ≠ a → b ∈ X.filter (· != a):=fun b hb hne=>List.mem_filter.mpr ⟨hb,by simpa using hne⟩
  have up:∀ v d,R X s.heap v d → R (X.filter (· != a)) h' v d:=fun v d r=>(r.keep fun b o hb e=>hk b o (fun q=>hb (q ▸ haX)) e).weak fun b hb _=>(List.mem_filter.mp hb).1
  have upA:∀ v d,RAll X s.heap v d → RAll (X.filter (· != a)) h' v d:=fun v d r=>(r.keep fun b o hb e=>hk b o (fun q=>hb (q ▸ haX)) e).weak fun b hb _=>(List.mem_filter.mp hb).1
  have hmem:a ∈ ((a,c) :: ω).map (·.1):=.head _
  obtain ⟨m,hm,hv⟩:=S.ns
  refine ⟨S.ok,S.scope,S.glob,S.blt, ?_,⟨fun b o e=>?_, ?_,S.gi.off⟩,S.gi0, ?_, ?_,S.inj,inX _ S.locX (fun q=>kba S.owns hm (q ▸ hmem)),S.new,S.newc, ?_,inX _ S.tabX (Ne.symm hT), ?_⟩
  · obtain ⟨h,t,rfl,k⟩:=S.base
    refine ⟨h',tk,rfl,fun b o hb e=>hk b o (fun q=>?_) (k b o hb e)⟩
    rw [q,hn] at e; cases e
  · refine hk b o (fun q=>?_) (S.gi.keep b o e)
    have:=S.gi0.keep b o e
    rw [q,hn] at this; cases this
  · obtain ⟨ps,e,x⟩:=S.gi.tab
    refine ⟨ps,hk _ _ (Ne.symm hT) e, ?_⟩
    rcases x with x | ⟨c',hne,e1,c,o,vs,t,e2,g,r⟩
    · exact .inl x
    · cases e2
      exact .inr ⟨_,hne,e1,_,o,vs,t,rfl,hk _ _ (fun q=>hcode tourQual (q ▸ ⟨_,o,vs,t,rfl,g,r⟩)) g,r⟩
  · refine ⟨m,ns_at hm fun o e=>hk _ _ (fun q=>kba S.owns hm (q ▸ hmem)) e,fun e he hk' d hd=>?_⟩
    obtain ⟨v,h1,h2⟩:=hv e he hk' d hd
    exact ⟨v,h1,up _ _ h2⟩
  · intro e he hk'
    obtain ⟨c',ov,h1,h2,h3,h4⟩:=S.cell e he hk'
    have hne:c' ≠ a:=fun q=>kbi S.owns h2 (q ▸ hmem)
    refine ⟨c',ov,h1,kaf h2 fun o e=>hk _ _ hne e,inX _ h3 hne,fun d hd=>?_⟩
    obtain ⟨v,e1,e2⟩:=h4 d hd
    exact ⟨v,e1,up _ _ e2⟩
  · intro b hb
    obtain ⟨hb1,hb2⟩:=List.mem_filter.mp hb
    obtain ⟨o,e⟩:=S.alive b hb1
    exact ⟨o,hk b o (by simpa using hb2) e⟩
  · have hnd:=S.owns.nd
    rw [List.map_cons,List.nodup_cons] at hnd
    refine ⟨hnd.2,fun p hp=>?_⟩
    obtain ⟨h1,h2,h3⟩:=S.owns.is p (.tail _ hp)
    have hne:p.1 ≠ a:=fun q=>hnd.1 (List.mem_map.mpr ⟨p,hp,q⟩)
    refine ⟨inX _ h1 hne,h2, ?_⟩
    obtain ⟨b,c'⟩:=p
    cases c' with
    | lst ds=>obtain ⟨vs,q1,q2⟩:=h3; exact ⟨vs,q1.at fun o e=>hk _ _ hne e,upA _ _ q2⟩
    | obj o=>exact ⟨hk _ _ hne h3.1,h3.2⟩
theorem wp_for {A:Around}{env:Env}{s0 sB:Shared}{t:Expr}{body:List Stmt}{I:Addr}{fp XB:List Addr}{P:Nat → Value → Prop}{Si:Nat → Heap → Prop}{all:List D}(rm:Room A n) (hIX:I ∉ XB) {ds:List D}{out:Out}(F:FL w h₀ n sc t body ω σ ds out)
    (W:Walks prog w A I fp [I] all.length P Si) (al:∀ i h,Si i h → ItObj I h) :
    ∀ {i:Nat}{o:Obj}{X:List Addr}{s:Shared}{RR:Result → Shared → Prop},St h₀ sc env X s0 ((I, .obj o) :: ω) σ s → Grow XB sB X s → Si i s.heap → i ≤ all.length → all.drop i = ds → (∀ b ∈ fp,b = I ∨ (b ∉ X ∧ ∃ o,s.heap.get? b = some o)) → (∀ i v d,P i v → all[i]? = some d → R X s.heap v d) →
    (∀ fl s',OutOk h₀ sc env XB s0 sB out fl s' → RR (.ok fl) s') → codeAny (model prog w) A (.forLoop t (.ref I) body [] env) RR s:=by
  have item:∀ {ω:Owns}{σ σ₁:List Var}{d:D}{i:Nat}{o:Obj}{X:List Addr}{s:Shared}{RR:Result → Shared → Prop},St h₀ sc env X s0 ((I, .obj o) :: ω) σ s → Si i s.heap → all[i]? = some d → (∀ b ∈ fp,b = I ∨ (b ∉ X ∧ ∃ o,s.heap.get? b = some o)) → (∀ i v d,P i v → all[i]? = some d → R X s.heap v d) →
      (∀ p,AsgR w h₀ n sc (p :: ω) t d σ σ₁) →
      (∀ o' s',St h₀ sc env X s0 ((I, .obj o') :: ω) σ₁ s' → Grow X s X s' → Si (i + 1) s'.heap → wpAny (model prog w) A (execs body env) (fun f s₃=>match f with
            | .next | .cont=>codeAny (model prog w) A (.forLoop t (.ref I) body [] env) RR s₃
            | .brk=>RR (.ok .next) s₃
            | .ret v=>RR (.ok (.ret v)) s₃) (notedBy (model prog w) A env fun e s'=>RR (.error e) s') s') → codeAny (model prog w) A (.forLoop t (.ref I) body [] env) RR s:=by
    intro ω σ σ₁ d i o X s RR S st hd hfp hit asg k
    refine codeAny_of_tree ?_
    show wpAny _ A ((forTurn t (.ref I) body [] env).onRaise (fun x=>do noteFrame x env; theTreesLotGoes x)) _ _ s
    refine wpAny_noted ?_
    simp only [forTurn]
    have hlt:i < all.length:=(List.getElem?_eq_some_iff.mp hd).1
    refine wpAny_bind (wpAny_standAt (wpAny_bind (wpAny_onRaise (W.item i s _ _ hlt st fun v h' tk hPv st' hk=>?_))))
    obtain ⟨o',vs',T,e1,e2,e3,e4,e5⟩:=al _ _ st'
    obtain ⟨o₀,vs₀,T₀,f1,f2,f3,f4,f5⟩:=al _ _ st
    have S':St h₀ sc env X s0 ((I, .obj o') :: ω) σ { s with heap:=h',toks:=tk } :=
      S.turnObj (fun b o hb e=>hk b o (by simpa using hb) e) f3 ⟨o',e1⟩ ⟨e1, .inl ⟨vs',e2⟩⟩
    have haX:I ∈ X:=(S.owns.is _ (.head _)).1
    have g':Grow X s X { s with heap:=h',toks:=tk }:=⟨⟨_,_,rfl⟩,fun b o hb e=>hk b o (fun m=>hb (by rw [List.mem_singleton.mp m]; exact haX)) e,fun _ h=>h,fun _ h=>.inl h⟩
    refine wpAny_bind (kfr e1 e4 e5 (wpAny_bind (asg _ A env X s0 _ v _ _ rm S' ((hit i v d hPv hd).grow g') fun s₂ g₂ S₂=>?_)))
    have st₂:Si (i + 1) s₂.heap:=W.frame _ _ _ st' fun b hb ob e=>by
      rcases hfp b hb with rfl | ⟨hbX,ob',eb⟩
      · have q:=(S₂.owns.is _ (.head _)).2.2
        have q1:s₂.heap.get? b = some o':=q.1
        rw [e1] at e; cases e; exact q1
      · exact g₂.keep b ob hbX e
    refine wpAny_bind (wpAny_mono (k o' s₂ S₂ (g'.trans g₂) st₂) (fun f s₃ hf=>?_) fun _ _ e=>e)
    cases f with
    | next=>exact wpAny_pure ⟨rfl,hf⟩
    | cont=>exact wpAny_pure ⟨rfl,hf⟩
    | brk=>exact wpAny_pure hf
    | ret v=>exact wpAny_pure hf
  have after:∀ {ω₁ ω₂:Owns}{σ₁ σ₂:List Var}{i:Nat}{o:Obj}{X X':List Addr}{s s':Shared},St h₀ sc env X s0 ((I, .obj o) :: ω₁) σ₁ s → Si i s.heap → Grow X s X' s' → St h₀ sc env X' s0 ((I, .obj o) :: ω₂) σ₂ s' → (∀ b ∈ fp,b = I ∨ (b ∉ X ∧ ∃ o,s.heap.get? b = some o)) →
      Si i s'.heap ∧ (∀ b ∈ fp,b = I ∨ (b ∉ X' ∧ ∃ o,s'.heap.get? b = some o)):=by
    intro ω₁ ω₂ σ₁ σ₂ i o X X' s s' S st g S' hfp
    have hI:s.heap.get? I = some o:=(S.owns.is _ (.head _)).2.2.1
    refine ⟨W.frame _ _ _ st fun b hb ob e=>?_,fun b hb=>?_⟩
    · rcases hfp b hb with rfl | ⟨hbX,_⟩
      · have q1:s'.heap.get? b = some o:=(S'.owns.is _ (.head _)).2.2.1
        rw [hI] at e; cases e; exact q1
      · exact g.keep b ob hbX e
    · rcases hfp b hb with rfl | ⟨hbX,ob,eb⟩
      · exact .inl rfl
      · refine .inr ⟨fun q=>(g.new b q).elim hbX fun z=>?_,ob,g.keep b ob hbX eb⟩
        rw [z] at eb; cases eb
  have same:∀ {X:List Addr}{s s':Shared},Grow X s X s' → (∀ b ∈ fp,b = I ∨ (b ∉ X ∧ ∃ o,s.heap.get? b = some o)) → (∀ b ∈ fp,b = I ∨ (b ∉ X ∧ ∃ o,s'.heap.get? b = some o)):=fun g hfp b hb =>
    (hfp b hb).imp id fun ⟨h1,o,h2⟩=>⟨h1,o,g.keep b o h1 h2⟩
  have lift:∀ {X X':List Addr}{s s':Shared},Grow X s X' s' → (∀ i v d,P i v → all[i]? = some d → R X s.heap v d) → (∀ i v d,P i v → all[i]? = some d → R X' s'.heap v d):=by
    intro X X' s s' g hit i v d h1 h2
    refine ((hit i v d h1 h2).weak (Y:=X') fun a ha ⟨o,e⟩=>(g.new a ha).elim id fun z=>?_).keep fun b o hb e=>g.keep b o (fun q=>hb (g.sub b q)) e
    rw [z] at e; cases e
  have headAt:∀ {i:Nat}{d:D}{ds:List D},all.drop i = d :: ds → all[i]? = some d ∧ all.drop (i + 1) = ds ∧ i + 1 ≤ all.length:=by
    intro i d ds hd
    have hlt:i < all.length:=by
      have:=congrArg List.length hd
      simp only [List.length_drop,List.length_cons] at this
      omega
    have e2:=List.drop_eq_getElem_cons hlt
    rw [e2] at hd
    cases hd
    exact ⟨by simp [hlt],rfl,hlt⟩
  induction F with
  | nil =>
    intro i o X s RR S gB st hi hd hfp hit h
    refine codeAny_of_tree ?_
    show wpAny _ A ((forTurn t (.ref I) body [] env).onRaise (fun x=>do noteFrame x env; theTreesLotGoes x)) _ _ s
    refine wpAny_noted ?_
    simp only [forTurn]
    have hn:i = all.length:=by
      have:=List.drop_eq_nil_iff.mp hd
      omega
    subst hn
    refine wpAny_bind (wpAny_standAt (wpAny_bind (wpAny_onRaise (W.done s _ _ st fun h' tk hk=>?_))))
    obtain ⟨o₀,vs₀,T₀,f1,f2,f3,f4,f5⟩:=al _ _ st
    have haX:I ∈ X:=(S.owns.is _ (.head _)).1
    refine wpAny_pure ⟨rfl,codeAny_block (wpAny_execs_nil (h _ _ ⟨X.filter (· != I), ?_,S.erase (fun b o hb e=>hk b o (by simpa using hb) e) f3⟩))⟩
    refine ⟨?_,fun b o hb e=>hk b o (fun m=>?_) (gB.keep b o hb e),fun a ha=>List.mem_filter.mpr ⟨gB.sub a ha,by simpa using fun q:a = I=>hIX (q ▸ ha)⟩,fun a ha=>gB.new a (List.mem_filter.mp ha).1⟩
    · obtain ⟨h1,t1,rfl⟩:=gB.same
      exact ⟨h',tk,rfl⟩
    · have hbI:b = I:=List.mem_singleton.mp m
      subst hbI
      rcases gB.new b haX with z | z
      · exact hb z
      · rw [z] at e; cases e
  | next asg hb F' ih =>
    intro i o X s RR S gB st hi hd hfp hit h
    obtain ⟨h1,h2,h3⟩:=headAt hd
    refine item S st h1 hfp hit asg fun o' s' S' g' st'=>hb _ A env X s0 s' _ _ rm S' fun fl s₂ oo=>?_
    cases fl with
    | next =>
      obtain ⟨X₂,g₂,S₂⟩:=oo
      obtain ⟨a1,a2⟩:=after S' st' g₂ S₂ (same g' hfp)
      exact ih S₂ (gB.trans (g'.trans g₂)) a1 h3 h2 a2 (lift (g'.trans g₂) hit) h
    | _=>exact oo.elim
  | cont asg hb F' ih =>
    intro i o X s RR S gB st hi hd hfp hit h
    obtain ⟨h1,h2,h3⟩:=headAt hd
    refine item S st h1 hfp hit asg fun o' s' S' g' st'=>hb _ A env X s0 s' _ _ rm S' fun fl s₂ oo=>?_
    cases fl with
    | cont =>
      obtain ⟨X₂,g₂,S₂⟩:=oo
      obtain ⟨a1,a2⟩:=after S' st' g₂ S₂ (same g' hfp)
      exact ih S₂ (gB.trans (g'.trans g₂)) a1 h3 h2 a2 (lift (g'.trans g₂) hit) h
    | _=>exact oo.elim
  | brk asg hb =>
    intro i o X s RR S gB st hi hd hfp hit h
    obtain ⟨h1,h2,h3⟩:=headAt hd
    refine item S st h1 hfp hit asg fun o' s' S' g' st'=>hb _ A env X s0 s' _ _ rm S' fun fl s₂ oo=>?_
    cases fl with
    | brk =>
      obtain ⟨X₂,g₂,S₂⟩:=oo
      exact h _ _ ⟨X₂,gB.trans (g'.trans g₂),S₂.drop⟩
    | _=>exact oo.elim
  | ret asg hb =>
    intro i o X s RR S gB st hi hd hfp hit h
    obtain ⟨h1,h2,h3⟩:=headAt hd
    refine item S st h1 hfp hit asg fun o' s' S' g' st'=>hb _ A env X s0 s' _ _ rm S' fun fl s₂ oo=>?_
    cases fl with
    | ret v=>exact h (.ret v) _ (OutOk.back (out:=.ret _) (gB.trans g') oo)
    | _=>exact oo.elim
theorem kdt {t iter:Expr}{body:List Stmt}{pos:Pos}{ds:List D}{out:Out}(hi:IterE w h₀ n sc ω σ iter ds) (F:FL w h₀ n sc t body ω σ ds out) (hs:∀ env x,foldedSetIterable iter env x = pure x:=by intro _ _; rfl) :
    SS w h₀ n sc ω σ (.For t iter body [] pos) out:=fun A env X s0 s Q E rm S h=>by
  refine wpAny_For (hi A env X s0 s _ _ rm S fun I fp P Si s₂ n₂ hIX hIn it=>?_) (hs env)
  obtain ⟨o,vs,T,e1,e2,e3,e4,e5⟩:=it.al _ _ it.st
  have S₂:St h₀ sc env (I :: X) s0 ((I, .obj o) :: ω) σ s₂:=S.adopt n₂ hIn ⟨o,e1⟩ ⟨e1, .inl ⟨vs,e2⟩⟩
  have gB:Grow X s (I :: X) s₂:=.adopt n₂ S.tabX hIn
  refine wp_for (all:=ds) (ds:=ds) (i:=0) (o:=o) (X:=I :: X) rm hIX F it.W it.al S₂ gB it.st (Nat.zero_le _) rfl (fun b hb=>?_) (fun i v d h1 h2=>?_) fun fl s' oo=>h fl s' oo
  · rcases it.fpk b hb with q | ⟨q1,q2⟩
    · exact .inl q
    · by_cases z:b = I
      · exact .inl z
      · exact .inr ⟨fun m=>(List.mem_cons.mp m).elim z q1,q2⟩
  · refine (it.items i v d h1 h2).weakS fun a ha q=>(List.mem_cons.mp ha).elim (fun z=>?_) id
    obtain ⟨its,q | q⟩:=q <;> (obtain ⟨o',ho',_,k',hd'⟩:=q; rw [z,e1] at ho'; cases ho'; rw [e2] at hd'; cases hd')
end
end
section
noncomputable def mkv:List (Str × VK) → List D → List Var
  | [],_=>[]
  | (x,k) :: vs,[]=>⟨x,k,none⟩ :: mkv vs []
  | (x,k) :: vs,d :: ds=>⟨x,k,some d⟩ :: mkv vs ds
theorem kd0:∀ (vars:List (Str × VK)) (ds:List D),(mkv vars ds).map (fun e=>(e.name,e.kind)) = vars
  | [],_=>rfl
  | (x,k) :: vs,[]=>by simp only [mkv,List.map_cons,kd0 vs []]
  | (x,k) :: vs,d :: ds=>by simp only [mkv,List.map_cons,kd0 vs ds]
theorem ki4 {X:List Addr}{h:Heap} : ∀ (vars:List (Str × VK)) (ds:List D) (us:List Value) (e:Var) (d:D),RAll X h us ds → e ∈ mkv vars ds → e.val = some d → ∃ v,(e.name,v) ∈ (vars.map (·.1)).zip us ∧ R X h v d
  | [],_,_,e,d,_,he,_=>by cases he
  | (x,k) :: vs,[],us,e,d,r,he,hv=>by
    cases r
    simp only [mkv,List.mem_cons] at he
    rcases he with rfl | he
    · cases hv
    · have:=ki4 (X:=X) (h:=h) vs [] [] e d .nil he hv
      obtain ⟨v,h1,h2⟩:=this
      simp at h1
  | (x,k) :: vs,d' :: ds,us,e,d,r,he,hv=>by
    cases r with
    | cons r1 r2 =>
      simp only [mkv,List.mem_cons] at he
      rcases he with rfl | he
      · cases hv
        exact ⟨_, .head _,r1⟩
      · obtain ⟨v,h1,h2⟩:=ki4 vs ds _ e d r2 he hv
        exact ⟨v, .tail _ h1,h2⟩
theorem kgj {kd:Str → Option NameKind} : ∀ {binds:List (Str × Value)}{m:Str → Option Value}{x:Str},x ∉ binds.map (·.1) → bindL kd binds m x = m x
  | [],_,_,_=>rfl
  | (y,v) :: r,m,x,h=>by
    simp only [List.map_cons,List.mem_cons,not_or] at h
    unfold bindL
    rw [kgj h.2]
    split
    · simp only [h.1,if_false]
    · rfl
theorem kgk {kd:Str → Option NameKind} : ∀ {binds:List (Str × Value)}{m:Str → Option Value}{x:Str},x ∉ binds.map (·.1) → bindC kd binds m x = m x
  | [],_,_,_=>rfl
  | (y,v) :: r,m,x,h=>by
    simp only [List.map_cons,List.mem_cons,not_or] at h
    unfold bindC
    rw [kgk h.2]
    split
    · rfl
    · simp only [h.1,if_false]
theorem bindL_get {kd:Str → Option NameKind}{binds:List (Str × Value)}{m:Str → Option Value}{x:Str}{v:Value}(nd:(binds.map (·.1)).Nodup) (hm:(x,v) ∈ binds) (hk:kd x = some .local):bindL kd binds m x = some v:=by
  induction binds generalizing m with
  | nil=>cases hm
  | cons p r ih =>
    simp only [List.map_cons,List.nodup_cons] at nd
    unfold bindL
    rcases List.mem_cons.mp hm with e | hm
    · subst e
      rw [kgj nd.1,if_pos hk]
      simp
    · exact ih nd.2 hm
theorem bindC_get {kd:Str → Option NameKind}{binds:List (Str × Value)}{m:Str → Option Value}{x:Str}{v:Value}(nd:(binds.map (·.1)).Nodup) (hm:(x,v) ∈ binds) (hk:kd x ≠ some .local):bindC kd binds m x = some v:=by
  induction binds generalizing m with
  | nil=>cases hm
  | cons p r ih =>
    simp only [List.map_cons,List.nodup_cons] at nd
    unfold bindC
    rcases List.mem_cons.mp hm with e | hm
    · subst e
      rw [kgk nd.1,if_neg hk]
      simp
    · exact ih nd.2 hm
theorem kfp {α β:Type} : ∀ (xs:List α) (ys:List β), ∃ zs,xs = (xs.zip ys).map (·.1) ++ zs
  | [],_=>⟨[],by simp⟩
  | x :: xs,[]=>⟨x :: xs,by simp⟩
  | x :: xs,y :: ys=>let ⟨zs,h⟩:=kfp xs ys; ⟨zs,by simp [← h]⟩
structure FnAt (h₀:Heap) (f:Addr) (fd:FuncData) (body:List Stmt) (vars:List (Str × VK)):Prop where
  at':∃ o,h₀.get? f = some o ∧ o.data = .func fd
  body:fd.body = .stmts body
  clo:fd.closure = []
  glob:fd.globals = mainGlobals
  blt:fd.builtins = builtinsNs
  code:h₀.CodeRec fd.code fd.qualname
  co:fd.scope.isCoroutine = false
  gen:fd.scope.isGenerator = false
  lim:h₀.NoLimit
  ok:sigOk fd.scope vars = true
  noext:(vars.all fun p=>p.2 != .ext) = true
section
variable {w:World}{h₀:Heap}{n:Nat}{sc:Scope}{ω ω':Owns}{σ σ':List Var}
noncomputable def BindsR (w:World) (h₀:Heap) (fd:FuncData) (vars:List (Str × VK)) (ds ds':List D):Prop :=
  ∀ A X s vs (Q:List (Str × Value) → Shared → Prop) E,Op h₀ X s → RAll X s.heap vs ds → (∀ us s',Nx h₀ s s' → us.length ≤ vars.length → RAll X s'.heap us ds' → Q ((vars.map (·.1)).zip us) s') → wpAny (model prog w) A (bindArgs fd ⟨vs,[]⟩) Q E s
theorem len0 {α:Type}{P:List α → Prop}(h:P []):∀ vs:List α,vs.length = 0 → P vs:=fun vs hv=>by cases vs with | nil=>exact h | cons=>cases hv
theorem lenS {n:Nat}{α:Type}{P:List α → Prop}(h:∀ a, ∀ vs:List α,vs.length = n → P (a :: vs)):∀ vs:List α,vs.length = n + 1 → P vs:=fun vs hv=>by cases vs with | nil=>cases hv | cons a r=>exact h a r (Nat.succ.inj hv)
theorem len1 {α:Type}{P:List α → Prop}(h:∀ a,P [a]):∀ vs:List α,vs.length = 1 → P vs:=lenS fun a=>len0 (h a)
theorem len2 {α:Type}{P:List α → Prop}(h:∀ a b,P [a,b]):∀ vs:List α,vs.length = 2 → P vs:=lenS fun a=>lenS fun b=>len0 (h a b)
theorem len3 {α:Type}{P:List α → Prop}(h:∀ a b c,P [a,b,c]):∀ vs:List α,vs.length = 3 → P vs:=lenS fun a=>len2 (h a)
theorem len4 {α:Type}{P:List α → Prop}(h:∀ a b c d,P [a,b,c,d]):∀ vs:List α,vs.length = 4 → P vs:=lenS fun a=>len3 (h a)
theorem len5 {α:Type}{P:List α → Prop}(h:∀ a b c d e,P [a,b,c,d,e]):∀ vs:List α,vs.length = 5 → P vs:=lenS fun a=>lenS fun b=>len3 (h a b)
theorem kaa {fd:FuncData}{vars:List (Str × VK)}{ds:List D}(h:∀ vs:List Value,vs.length = ds.length → bindArgs fd ⟨vs,[]⟩ = pure ((vars.map (·.1)).zip vs)) (hl:ds.length ≤ vars.length:=by exact Nat.le_of_ble_eq_true rfl):BindsR w h₀ fd vars ds ds :=
  fun A X s vs Q E O r hq=>by
    rw [h vs r.length]
    exact wpAny_pure (hq vs s (.refl O.gi) (by rw [r.length]; exact hl) r)
theorem kif {f:Addr}{fd:FuncData}{body:List Stmt}{vars:List (Str × VK)}{ds ds':List D}(F:FnAt h₀ f fd body vars) (B:BindsR w h₀ fd vars ds ds') {A:Around}{X:List Addr}{s:Shared}{vs:List Value}{Q:Value → Shared → Prop}{E:Value → Shared → Prop}(rm:Room A (n + 1)) (O:Op h₀ X s) (rs:RAll X s.heap vs ds)
    (hx:∀ env X' s₁ s₂ E',Nx h₀ s s₁ → (∀ a ∈ X,a ∈ X') → Room (A.deeper env) n → env.code = fd.code → env.qual = fd.qualname ++ ".<locals>." → St h₀ fd.scope env X' s₁ [] (mkv vars ds') s₂ → wpAny (model prog w) (A.deeper env) (execs body env) (fun fl s'=>∃ v,fl = .ret v ∧ Q v s') E' s₂) :
    wpAny (model prog w) A (call (.ref f) vs) Q E s:=by
    obtain ⟨o,ho,hd⟩:=F.at'
    have hok:=F.ok
    simp only [sigOk,Bool.and_eq_true,beq_iff_eq,decide_eq_true_eq,List.all_eq_true] at hok
    obtain ⟨⟨hk,hnd⟩,hvar⟩:=hok
    have hne:=List.all_eq_true.mp F.noext
    refine wpAny_call (codeAny_call_function rm.lt (O.gi.keep _ _ ho) hd F.co F.gen F.body (F.code.keeps O.gi.keep) (B A.in1 X s vs _ _ O rs fun us s₁ n₁ hlen rus=>?_))
    rw [F.clo]
    have hsub:∀ x ∈ (vars.map (·.1)).zip us, ∃ k,(x.1,k) ∈ vars ∧ k ≠ .ext:=fun x hx=>by
      have h1:x.1 ∈ vars.map (·.1):=(List.of_mem_zip hx).1
      obtain ⟨⟨y,k⟩,hy,e⟩:=List.mem_map.mp h1
      have e':y = x.1:=e
      subst e'
      exact ⟨k,hy,by simpa using hne _ hy⟩
    have hnd':(((vars.map (·.1)).zip us).map (·.1)).Nodup:=by
      obtain ⟨zs,hz⟩:=kfp (vars.map (·.1)) us
      rw [hz] at hnd
      exact (List.nodup_append.mp hnd).1
    refine wpAny_newFunctionEnv_cells hk (fun x hx=>?_) fun env he s₂ ic=>?_
    · obtain ⟨k,hk1,hk2⟩:=hsub x hx
      have hv:=hvar _ hk1
      cases k with
      | ext=>exact absurd rfl hk2
      | loc=>left; simp only [varOk,Bool.and_eq_true,beq_iff_eq] at hv; exact hv.1.1
      | own=>right; simp only [varOk,Bool.and_eq_true,beq_iff_eq] at hv; exact ⟨hv.1.1,cellsFrom_some _ _ _ (.inl hv.1.1)⟩
    · have hL:env.locals = s₁.heap.objs.size:=by subst he; rfl
      have hsc:env.scope = fd.scope:=by subst he; rfl
      have hcells:env.cells = cellsFrom (s₁.heap.objs.size + 1) fd.scope.names []:=by subst he; rfl
      have hkd:∀ x,env.kindOf x = fd.scope.names.lookup x:=fun x=>by unfold Env.kindOf; rw [hsc]
      obtain ⟨h₂,tk₂,e₂,hkeep⟩:=ic.done
      have n₂:Nx h₀ s₁ s₂:=.of_keeps n₁.2 ⟨h₂,tk₂,e₂,hkeep⟩
      have hfresh:∀ a,s₁.heap.objs.size ≤ a → s₁.heap.get? a = none:=fun a ha=>Heap.get?_none_of_le ha
      let cs:List Addr:=(mkv vars ds').filterMap fun e=>if e.kind = .own then env.cells.lookup e.name else none
      let X':List Addr:=env.locals :: (cs ++ X)
      have O₁:=O.nx n₁
      have up:∀ v d,R X s₁.heap v d → R X' s₂.heap v d:=fun v d r=>(r.weak (Y:=X') fun a ha ⟨oa,ea⟩=>by
        rcases List.mem_cons.mp ha with q | ha
        · rw [q,hL,hfresh _ (Nat.le_refl _)] at ea; cases ea
        · rcases List.mem_append.mp ha with ha | ha
          · obtain ⟨e,he,hc⟩:=List.mem_filterMap.mp ha
            split at hc
            · have:=ic.above _ _ (mem_of_lookup hc)
              rw [hL] at this
              rw [hfresh a (Nat.le_of_lt this)] at ea; cases ea
            · cases hc
          · exact ha).nx n₂ (.tail _ (List.mem_append_right _ O.tabX))
      have S:St h₀ fd.scope env X' s₁ [] (mkv vars ds') s₂:=by
        refine ⟨by rw [kd0]; exact F.ok,hsc,by subst he; exact F.glob,by subst he; exact F.blt,n₂.1,n₂.2,n₁.2,⟨_,ic.toInCall.ns,fun e he' hek dd hdd=>?_⟩,fun e he' hek=>?_,fun x y c h1 h2=>?_, .head _, ?_,fun e he' hek c hc=>?_,fun a ha=>?_, .tail _ (List.mem_append_right _ O.tabX),⟨List.nodup_nil,fun p hp=>by cases hp⟩⟩
        · obtain ⟨v,h1,h2⟩:=ki4 vars ds' us e dd rus he' hdd
          refine ⟨v,bindL_get hnd' h1 ?_,up _ _ h2⟩
          have:=hvar (e.name,e.kind) (by rw [← kd0 vars ds']; exact List.mem_map.mpr ⟨e,he',rfl⟩)
          rw [hek] at this
          simp only [varOk,Bool.and_eq_true,beq_iff_eq] at this
          rw [hkd]; exact this.1.1
        · have hmem:(e.name,e.kind) ∈ vars:=by rw [← kd0 vars ds']; exact List.mem_map.mpr ⟨e,he',rfl⟩
          have hown:e.kind = .own:=by
            have:=hne _ hmem
            cases q:e.kind with
            | loc=>exact absurd q hek
            | own=>rfl
            | ext=>rw [q] at this; cases this
          have hv:=hvar _ hmem
          rw [hown] at hv
          simp only [varOk,Bool.and_eq_true,beq_iff_eq] at hv
          obtain ⟨c,hc⟩:=Option.isSome_iff_exists.mp (cellsFrom_some fd.scope.names (s₁.heap.objs.size + 1) [] (.inl hv.1.1))
          rw [← hcells] at hc
          refine ⟨c,_,hc,ic.cell _ _ hc, .tail _ (List.mem_append_left _ (List.mem_filterMap.mpr ⟨e,he',by rw [if_pos hown]; exact hc⟩)),fun dd hdd=>?_⟩
          obtain ⟨v,h1,h2⟩:=ki4 vars ds' us e dd rus he' hdd
          exact ⟨v,bindC_get hnd' h1 (by rw [hkd,hv.1.1]; decide),up _ _ h2⟩
        · exact name_of_addr ic.apart (mem_of_lookup h1) (mem_of_lookup h2)
        · rw [hL]; exact hfresh _ (Nat.le_refl _)
        · have:=ic.above _ _ (mem_of_lookup hc)
          rw [hL] at this
          exact hfresh c (Nat.le_of_lt this)
        · rcases List.mem_cons.mp ha with q | ha
          · obtain ⟨oL,_,_,eL,_⟩:=ic.toInCall.ns
            exact ⟨oL,q ▸ eL⟩
          · rcases List.mem_append.mp ha with ha | ha
            · obtain ⟨e,he,hc⟩:=List.mem_filterMap.mp ha
              split at hc
              · obtain ⟨oc,ec,_⟩:=ic.cell _ _ hc
                exact ⟨oc,ec⟩
              · cases hc
            · exact (O₁.nx n₂).al a ha
      refine ⟨(F.lim.keeps n₂.2.keep),codeAny_func (wpAny_mono (hx env X' s₁ s₂ _ n₁ (fun a ha=>.tail _ (List.mem_append_right _ ha)) rm.deeper (by subst he; rfl) (by subst he; rfl) S) (fun fl s' oo=>?_) fun _ _ z=>z)⟩
      obtain ⟨v,rfl,hv⟩:=oo
      exact hv
theorem kig {f:Addr}{fd:FuncData}{body:List Stmt}{vars:List (Str × VK)}{ds ds':List D}{d:D}(F:FnAt h₀ f fd body vars) (B:BindsR w h₀ fd vars ds ds')
    (hx:∀ A env X s0 s (Q:Flow → Shared → Prop) E,Room A n → env.code = fd.code → env.qual = fd.qualname ++ ".<locals>." → St h₀ fd.scope env X s0 [] (mkv vars ds') s → (∀ fl s',OutOk h₀ fd.scope env X s0 s (.ret d) fl s' → Q fl s') → wpAny (model prog w) A (execs body env) Q E s):CallR w h₀ (n + 1) (.ref f) ds d :=
  fun A X s vs rm O rs Q E hq=>kif F B rm O rs fun env X' s₁ s₂ E' n₁ hX rm' hcode hqual S=>hx _ env X' s₁ s₂ _ _ rm' hcode hqual S fun fl s' oo=>by
    cases fl with
    | ret v =>
      obtain ⟨k,gi,Y,hY,r⟩:=oo
      exact ⟨v,rfl,hq v s' ⟨n₁.1.trans k,gi⟩ (r.sub fun a ha=>hY a (hX a ha) ((O.nx n₁).al a ha))⟩
    | _=>exact oo.elim
theorem kaq {f:Addr}{fd:FuncData}{body:List Stmt}{vars:List (Str × VK)}{ds ds':List D}{d:D}(F:FnAt h₀ f fd body vars) (B:BindsR w h₀ fd vars ds ds') (hx:SX w h₀ n fd.scope [] (mkv vars ds') body (.ret d)):CallR w h₀ (n + 1) (.ref f) ds d :=
  kig F B fun A env X s0 s Q E rm _ _ S hq=>hx A env X s0 s Q E rm S hq
end
end
end Mine
end
section
open PySem PySem.W PyProof.Rows PySem.Calls PySem.Spec
set_option maxRecDepth 100000
namespace Mine
structure Gr (w:World) (h₀:Heap):Prop where
  K:(KF w).In h₀
  g:∃ mg,h₀.Ns mainGlobals mg
  b:∃ mb,h₀.Ns builtinsNs mb ∧ ∀ x:Str,x ≠ "__name__" → mb x = bootBuiltins x
  lim:h₀.NoLimit
  bm:∃ o,h₀.get? 4 = some o ∧ o.cls = .type "module" ∧ o.dict = some builtinsNs ∧ o.data = .plain
theorem kch (es:List DictEntry) (x:Str):nsFind es.toArray x = (es.find? fun e=>e.key.isStr x).map (·.val):=by
  simp [nsFind,findBy]
noncomputable def gEs (w:World):List DictEntry:=match (KF w).lookup 3 with
  | some ⟨_,_, .dict es _,_⟩=>es.toList
  | _=>[]
noncomputable def findG (x:Str):List DictEntry → Option Value
  | []=>none
  | e :: r=>match e.key.isStr x with
    | true=>some e.val
    | false=>findG x r
theorem ke4 (x:Str):∀ es:List DictEntry,(es.find? fun e=>e.key.isStr x).map (·.val) = findG x es
  | []=>rfl
  | e :: r=>by
    unfold findG
    rw [List.find?_cons]
    cases e.key.isStr x with
    | true=>rfl
    | false=>exact ke4 x r
theorem kan {w:World}{h₀:Heap}(G:Gr w h₀) {x:Str}{v:Value}(h:findG x (gEs w) = some v) (hd:(x == ("__debug__" : Str)) = false):GV h₀ x v:=by
  refine ⟨.inl ?_,hd⟩
  obtain ⟨mg,hn⟩:=G.g
  refine ⟨mg,hn, ?_⟩
  obtain ⟨o,es,ep,ho,hd,hk,hm⟩:=hn
  rw [← hm x]
  cases hK:(KF w).lookup 3 with
  | none=>unfold gEs at h; rw [hK] at h; cases h
  | some oK =>
    have h3:=G.K 3 oK hK
    have:some oK = some o:=h3.symm.trans ho
    cases this
    unfold gEs at h; rw [hK] at h
    obtain ⟨c,dd,dt,sl⟩:=o
    simp only at hd; subst hd
    simp only at h
    rw [← h, ← ke4, ← kch]
theorem kbg {w:World}{h₀:Heap}(G:Gr w h₀) {x:Str}{v:Value}(h:findG x (gEs w) = none) (hb:bootBuiltins x = some v) (hx:x ≠ "__name__") (hd:(x == ("__debug__" : Str)) = false):GV h₀ x v:=by
  refine ⟨.inr ?_,hd⟩
  obtain ⟨mg,hn⟩:=G.g
  obtain ⟨mb,hb1,hb2⟩:=G.b
  refine ⟨mg,mb,hn, ?_,hb1,(hb2 x hx).trans hb⟩
  obtain ⟨o,es,ep,ho,hd,hk,hm⟩:=hn
  rw [← hm x]
  cases hK:(KF w).lookup 3 with
  | none=>exact absurd hK (by intro q; cases q)
  | some oK =>
    have h3:=G.K 3 oK hK
    have:some oK = some o:=h3.symm.trans ho
    cases this
    unfold gEs at h; rw [hK] at h
    obtain ⟨c,dd,dt,sl⟩:=o
    simp only at hd; subst hd
    simp only at h
    rw [← h, ← ke4, ← kch]
section
noncomputable def tx:Bool → List Nat → D
  | false,cs=>.str ⟨cs.toArray⟩
  | true,cs=>.bytes (cs.map UInt8.ofNat).toArray
section
variable {w:World}{h₀:Heap}{n:Nat}
theorem R.int_eq {X:List Addr}{h:Heap}{v:Value}{i:Int}(r:R X h v (.int i)):∃ t,v = .int i t:=by cases r; exact ⟨_,rfl⟩
theorem R.str_eq {X:List Addr}{h:Heap}{v:Value}{i:Str}(r:R X h v (.str i)):∃ t,v = .str i t:=by cases r; exact ⟨_,rfl⟩
theorem R.bytes_eq {X:List Addr}{h:Heap}{v:Value}{i:Array UInt8}(r:R X h v (.bytes i)):∃ t,v = .bytes i t:=by cases r; exact ⟨_,rfl⟩
theorem R.val_eq {X:List Addr}{h:Heap}{v u:Value}(r:R X h v (.val u)):v = u:=by cases r; rfl
theorem R.list_eq {X:List Addr}{h:Heap}{v:Value}{ds:List D}(r:R X h v (.list ds)):∃ a vs,v = .ref a ∧ h.IsList a vs.toArray ∧ a ∉ X ∧ RAll X h vs ds:=by cases r with | list h1 h2 h3=>exact ⟨_,_,rfl,h1.isList,h2,h3⟩
inductive ListV (X:List Addr) (h:Heap) (v:Value) (ds:List D):Prop
  | mk (a:Addr) (vs:List Value) (e:v = .ref a) (l:h.PlainList a vs.toArray) (x:a ∉ X) (r:RAll X h vs ds):ListV X h v ds
inductive TupV (X:List Addr) (h:Heap) (v:Value) (ds:List D):Prop
  | mk (a:Addr) (vs:List Value) (e:v = .ref a) (l:h.IsTuple a vs.toArray) (x:a ∉ X) (r:RAll X h vs ds):TupV X h v ds
theorem R.list_plain {X:List Addr}{h:Heap}{v:Value}{ds:List D}(r:R X h v (.list ds)):ListV X h v ds:=by cases r with | list h1 h2 h3=>exact ⟨_,_,rfl,h1,h2,h3⟩
theorem R.tuple_eq {X:List Addr}{h:Heap}{v:Value}{ds:List D}(r:R X h v (.tuple ds)):TupV X h v ds:=by cases r with | tuple h1 h2 h3=>exact ⟨_,_,rfl,h1,h2,h3⟩
theorem kal {a b:Int} : BinR w h₀ n .Add (.int a) (.int b) (.int (a + b)):=fun A X s va vb rm O ra rb Q E h=>by
  obtain ⟨t,rfl⟩:=ra.int_eq; obtain ⟨u,rfl⟩:=rb.int_eq
  exact PyProof.Rows.add_int (h _ _ (.tok O.gi _) (.int _ _))
theorem kcq {a b:Int} : BinR w h₀ n .Sub (.int a) (.int b) (.int (a - b)):=fun A X s va vb rm O ra rb Q E h=>by
  obtain ⟨t,rfl⟩:=ra.int_eq; obtain ⟨u,rfl⟩:=rb.int_eq
  exact PyProof.Rows.sub_int' (h _ _ (.tok O.gi _) (.int _ _))
theorem kgl {a b:Int}(hm:IntMulOk a b:=by mul_fits):BinR w h₀ n .Mult (.int a) (.int b) (.int (a * b)):=fun A X s va vb rm O ra rb Q E h=>by
  obtain ⟨t,rfl⟩:=ra.int_eq; obtain ⟨u,rfl⟩:=rb.int_eq
  exact PyProof.Rows.mul_int (h _ _ (.tok O.gi _) (.int _ _)) hm
theorem kat {a b:Int}(hb:b ≠ 0):BinR w h₀ n .Mod (.int a) (.int b) (.int (a.fmod b)):=fun A X s va vb rm O ra rb Q E h=>by
  obtain ⟨t,rfl⟩:=ra.int_eq; obtain ⟨u,rfl⟩:=rb.int_eq
  exact PyProof.Rows.mod_int hb (h _ _ (.tok O.gi _) (.int _ _))
theorem kas {a b:Int}(hb:b ≠ 0) (hs:b.natAbs < 1073741824):BinR w h₀ n .FloorDiv (.int a) (.int b) (.int (a.fdiv b)):=fun A X s va vb rm O ra rb Q E h=>by
  obtain ⟨t,rfl⟩:=ra.int_eq; obtain ⟨u,rfl⟩:=rb.int_eq
  exact PyProof.Rows.floordiv_int hb (h _ _ (.tok O.gi _) (.int _ _)) (.inl (PyProof.noPylong_small hs))
theorem kcr {a b:Int}(hn:0 ≤ b) (hz:(Builtin.Int.intBits a:Int) * b ≤ 2 ^ 27):BinR w h₀ n .Pow (.int a) (.int b) (.int (a ^ b.toNat)):=fun A X s va vb rm O ra rb Q E h=>by
  obtain ⟨t,rfl⟩:=ra.int_eq; obtain ⟨u,rfl⟩:=rb.int_eq
  exact PyProof.Rows.pow_int hn hz (h _ _ (.tok O.gi _) (.int _ _))
theorem kb9 {a b:Int} : CmpR w h₀ n .Eq (.int a) (.int b) (a == b):=fun A X s va vb rm O ra rb Q E h=>by
  obtain ⟨t,rfl⟩:=ra.int_eq; obtain ⟨u,rfl⟩:=rb.int_eq
  exact PyProof.Rows.eq_int (h _ _ (.refl O.gi) (.bool _))
theorem cmp_lt_int {a b:Int} : CmpR w h₀ n .Lt (.int a) (.int b) (decide (a < b)):=fun A X s va vb rm O ra rb Q E h=>by
  obtain ⟨t,rfl⟩:=ra.int_eq; obtain ⟨u,rfl⟩:=rb.int_eq
  exact PyProof.Rows.lt_int (h _ _ (.refl O.gi) (.bool _))
theorem khe {a b:Int} : CmpR w h₀ n .Gt (.int a) (.int b) (decide (b < a)):=fun A X s va vb rm O ra rb Q E h=>by
  obtain ⟨t,rfl⟩:=ra.int_eq; obtain ⟨u,rfl⟩:=rb.int_eq
  exact PyProof.Rows.gt_int (h _ _ (.refl O.gi) (.bool _))
theorem cmp_le_int {a b:Int} : CmpR w h₀ n .LtE (.int a) (.int b) (decide (a ≤ b)):=fun A X s va vb rm O ra rb Q E h=>by
  obtain ⟨t,rfl⟩:=ra.int_eq; obtain ⟨u,rfl⟩:=rb.int_eq
  exact PyProof.Rows.le_int (h _ _ (.refl O.gi) (.bool _))
theorem cmp_ge_int {a b:Int} : CmpR w h₀ n .GtE (.int a) (.int b) (decide (b ≤ a)):=fun A X s va vb rm O ra rb Q E h=>by
  obtain ⟨t,rfl⟩:=ra.int_eq; obtain ⟨u,rfl⟩:=rb.int_eq
  exact PyProof.Rows.ge_int (h _ _ (.refl O.gi) (.bool _))
theorem kcl {a b:Bool} : CmpR w h₀ n .NotEq (.bool a) (.bool b) (a != b):=fun A X s va vb rm O ra rb Q E h=>by
  rw [ra.bool_eq,rb.bool_eq]
  exact PyProof.Rows.ne_bool (h _ _ (.refl O.gi) (.bool _))
theorem kd5 {a:Int} : UnR w h₀ n .USub (.int a) (.int (-a)):=fun A X s va rm O ra Q E h=>by
  obtain ⟨t,rfl⟩:=ra.int_eq
  exact PyProof.Rows.neg_int (h _ _ (.tok O.gi _) (.int _ _))
theorem un_not {a:D}{b:Bool}(ht:TruR w h₀ n a b):UnR w h₀ n .Not a (.bool (!b)):=fun A X s va rm O ra Q E h =>
  PyProof.Rows.not_of (ht A X s va rm O ra _ _ fun s' n'=>h _ _ n' (.bool _))
theorem kjx {sc:Scope}{ω:Owns}{σ:List Var}{x:Expr}{pos:Pos}{a:D}{b:Bool}(hx:EV w h₀ n sc ω σ x a) (ht:TruR w h₀ n a b):EV w h₀ n sc ω σ (.UnaryOp .Not x pos) (.bool (!b)):=ev_un hx (un_not ht)
noncomputable def okTx (b:Bool) (cs:List Nat):Prop:=cs.length ≤ 1000 ∧ (b = true → ∀ c ∈ cs,c < 128)
theorem ki7:∀ {xs ys:List Nat},(∀ c ∈ xs,c < 128) → (∀ c ∈ ys,c < 128) → xs.map UInt8.ofNat = ys.map UInt8.ofNat → xs = ys
  | [],[],_,_,_=>rfl
  | [],_ :: _,_,_,h=>by cases h
  | _ :: _,[],_,_,h=>by cases h
  | x :: xs,y :: ys,hx,hy,h=>by
    simp only [List.map_cons,List.cons.injEq] at h
    have h1:(UInt8.ofNat x).toNat = (UInt8.ofNat y).toNat:=congrArg UInt8.toNat h.1
    rw [UInt8.toNat_ofNat',UInt8.toNat_ofNat'] at h1
    have a:=hx x (.head _); have b:=hy y (.head _)
    have:x = y:=by lia
    rw [this,ki7 (fun c hc=>hx c (.tail _ hc)) (fun c hc=>hy c (.tail _ hc)) h.2]
theorem ki8 {xs ys:List Nat}(hx:∀ c ∈ xs,c < 128) (hy:∀ c ∈ ys,c < 128):(xs.map UInt8.ofNat == ys.map UInt8.ofNat) = (xs == ys):=by
  rw [Bool.eq_iff_iff,beq_iff_eq,beq_iff_eq]
  exact ⟨ki7 hx hy,fun h=>by rw [h]⟩
theorem kb6 {b:Bool}{x y:List Nat}(hx:okTx b x) (hy:okTx b y):CmpR w h₀ n .Eq (tx b x) (tx b y) (x == y):=fun A X s va vb rm O ra rb Q E h=>by
  cases b with
  | false =>
    obtain ⟨t,rfl⟩:=R.str_eq ra; obtain ⟨u,rfl⟩:=R.str_eq rb
    refine PyProof.Rows.eq_str (h _ _ (.refl O.gi) ?_)
    have:(Str.mk x.toArray == Str.mk y.toArray) = (x == y):=by
      rw [Bool.eq_iff_iff,beq_iff_eq,beq_iff_eq]
      constructor
      · intro e; have:=congrArg (fun z:Str=>z.cps.toList) e; simpa using this
      · intro e; rw [e]
    rw [this]; exact .bool _
  | true =>
    obtain ⟨t,rfl⟩:=R.bytes_eq ra; obtain ⟨u,rfl⟩:=R.bytes_eq rb
    refine PySem.W.eq_bytes (h _ _ (.refl O.gi) ?_)
    rw [ki8 (hx.2 rfl) (hy.2 rfl)]; exact .bool _
theorem kbh {b:Bool}{x y:List Nat}(hx:okTx b x) (hy:okTx b y):CmpR w h₀ n .NotEq (tx b x) (tx b y) (x != y):=fun A X s va vb rm O ra rb Q E h=>by
  cases b with
  | false =>
    obtain ⟨t,rfl⟩:=R.str_eq ra; obtain ⟨u,rfl⟩:=R.str_eq rb
    refine PyProof.Rows.ne_str (h _ _ (.refl O.gi) ?_)
    have:(Str.mk x.toArray != Str.mk y.toArray) = (x != y):=by
      unfold bne; congr 1
      rw [Bool.eq_iff_iff,beq_iff_eq,beq_iff_eq]
      constructor
      · intro e; have:=congrArg (fun z:Str=>z.cps.toList) e; simpa using this
      · intro e; rw [e]
    rw [this]; exact .bool _
  | true =>
    obtain ⟨t,rfl⟩:=R.bytes_eq ra; obtain ⟨u,rfl⟩:=R.bytes_eq rb
    refine PySem.W.ne_bytes (h _ _ (.refl O.gi) ?_)
    have:(List.map UInt8.ofNat x != List.map UInt8.ofNat y) = (x != y):=by unfold bne; rw [ki8 (hx.2 rfl) (hy.2 rfl)]
    rw [this]; exact .bool _
theorem kf3 {b:Bool}{x:List Nat}(hx:okTx b x):TruR w h₀ n (tx b x) (!x.isEmpty):=fun A X s va rm O ra Q E h=>by
  have e:((x.length:Int) != 0) = !x.isEmpty:=by cases x <;> simp; lia
  cases b with
  | false =>
    obtain ⟨t,rfl⟩:=R.str_eq ra
    refine PySem.P.truthy_str (x:=⟨x.toArray⟩) ?_ ?_
    · have:=hx.1; show ¬ ((x.toArray.size:Int) ≥ 2 ^ 63); rw [List.size_toArray]; lia
    · show Q (((x.toArray.size:Nat):Int) != 0) _
      rw [List.size_toArray,e]; exact h _ (.tok O.gi _)
  | true =>
    obtain ⟨t,rfl⟩:=R.bytes_eq ra
    refine PySem.W.truthy_bytes ?_ ?_
    · rw [List.size_toArray,List.length_map]; have:=hx.1; lia
    · rw [List.size_toArray,List.length_map,e]; exact h _ (.tok O.gi _)
theorem kex {b:Bool}{x y:List Nat}(hx:okTx b x) (hy:okTx b y):BinR w h₀ n .Add (tx b x) (tx b y) (tx b (x ++ y)):=fun A X s va vb rm O ra rb Q E h=>by
  have l1:=hx.1; have l2:=hy.1
  cases b with
  | false =>
    obtain ⟨t,rfl⟩:=R.str_eq ra; obtain ⟨u,rfl⟩:=R.str_eq rb
    refine PyProof.Rows.add_str (fun t' tk=>h _ _ (.tok O.gi _) ?_) ?_
    · have e:(Str.mk x.toArray ++ Str.mk y.toArray) = Str.mk (x ++ y).toArray:=by
        apply Str.ext'; rw [Str.cps_append]; simp
      rw [e]; exact .str _ _
    · show x.toArray.size + y.toArray.size ≤ sizeLine
      rw [List.size_toArray,List.size_toArray,sizeLine_eq]; lia
  | true =>
    obtain ⟨t,rfl⟩:=R.bytes_eq ra; obtain ⟨u,rfl⟩:=R.bytes_eq rb
    refine PySem.W.KBy.add_bytes ?_ fun t' k=>h _ _ (.tok O.gi _) ?_
    · simp only [List.size_toArray,List.length_map]; lia
    · have e:(List.map UInt8.ofNat x).toArray ++ (List.map UInt8.ofNat y).toArray = ((x ++ y).map UInt8.ofNat).toArray:=by simp
      rw [e]; exact .bytes _ _
end
end
section
open PySem.Builtin
theorem kct:Slot "bytes" "rfind" "bytes.rfind" :=
  .of (owner := "bytes") (n := "rfind") (by rw [typeLookup_type,builtinLookup_eq_fast]; kernel_rfl) (by decide +kernel) (by decide +kernel) (by decide +kernel)
    (by first | exact .inl (by decide +kernel) | exact .inr (by decide +kernel)) (by rw [isSubtype_type]; kernel_rfl)
theorem kfj:typeOf (.builtin "bytes.rfind") = pure (.type "method_descriptor"):=by show builtinType _ = _; rw [builtinType_eq_fast]; kernel_rfl
theorem kes:entryFor table "bytes.rfind" = some Builtin.«bytes.rfind»:=entryFor_of_tree (by kernel_rfl)
theorem keh (a b:Value):argsOk "bytes.rfind" ⟨[a,b],[]⟩:=by
  unfold argsOk; rw [signature?_of (id := "bytes.rfind") (n := "dnifr".toList) (o:=['s', 'e', 't', 'y', 'b']) (by kernel_rfl) FB.owner_bytes]; kernel_rfl
theorem kc8:Slot "bytes" "rstrip" "bytes.rstrip" :=
  .of (owner := "bytes") (n := "rstrip") (by rw [typeLookup_type,builtinLookup_eq_fast]; kernel_rfl) (by decide +kernel) (by decide +kernel) (by decide +kernel)
    (by first | exact .inl (by decide +kernel) | exact .inr (by decide +kernel)) (by rw [isSubtype_type]; kernel_rfl)
theorem kel:typeOf (.builtin "bytes.rstrip") = pure (.type "method_descriptor"):=by show builtinType _ = _; rw [builtinType_eq_fast]; kernel_rfl
theorem ke6:entryFor table "bytes.rstrip" = some Builtin.«bytes.rstrip»:=entryFor_of_tree (by kernel_rfl)
theorem kdp (a b:Value):argsOk "bytes.rstrip" ⟨[a,b],[]⟩:=by
  unfold argsOk; rw [signature?_of (id := "bytes.rstrip") (n := "pirtsr".toList) (o:=['s', 'e', 't', 'y', 'b']) (by kernel_rfl) FB.owner_bytes]; kernel_rfl
theorem kcs:Slot "bytes" "split" "bytes.split" :=
  .of (owner := "bytes") (n := "split") (by rw [typeLookup_type,builtinLookup_eq_fast]; kernel_rfl) (by decide +kernel) (by decide +kernel) (by decide +kernel)
    (by first | exact .inl (by decide +kernel) | exact .inr (by decide +kernel)) (by rw [isSubtype_type]; kernel_rfl)
theorem kfi:typeOf (.builtin "bytes.split") = pure (.type "method_descriptor"):=by show builtinType _ = _; rw [builtinType_eq_fast]; kernel_rfl
theorem ker:entryFor table "bytes.split" = some Builtin.«bytes.split»:=entryFor_of_tree (by kernel_rfl)
theorem keg (a b:Value):argsOk "bytes.split" ⟨[a,b],[]⟩:=by
  unfold argsOk; rw [signature?_of (id := "bytes.split") (n := "tilps".toList) (o:=['s', 'e', 't', 'y', 'b']) (by kernel_rfl) FB.owner_bytes]; kernel_rfl
theorem kby:Slot "bytes" "join" "bytes.join" :=
  .of (owner := "bytes") (n := "join") (by rw [typeLookup_type,builtinLookup_eq_fast]; kernel_rfl) (by decide +kernel) (by decide +kernel) (by decide +kernel)
    (by first | exact .inl (by decide +kernel) | exact .inr (by decide +kernel)) (by rw [isSubtype_type]; kernel_rfl)
theorem kfu:typeOf (.builtin "bytes.join") = pure (.type "method_descriptor"):=by show builtinType _ = _; rw [builtinType_eq_fast]; kernel_rfl
theorem kcu:entryFor table "bytes.join" = some Builtin.«bytes.join»:=entryFor_of_tree (by kernel_rfl)
theorem kcd (a b:Value):argsOk "bytes.join" ⟨[a,b],[]⟩:=by
  unfold argsOk; rw [signature?_of (id := "bytes.join") (n := "nioj".toList) (o:=['s', 'e', 't', 'y', 'b']) (by kernel_rfl) FB.owner_bytes]; kernel_rfl
theorem khy:Slot "bytes" "__lt__" "bytes.__lt__" :=
  .of (owner := "bytes") (n := "__lt__") (by rw [typeLookup_type,builtinLookup_eq_fast]; kernel_rfl) (by decide +kernel) (by decide +kernel) (by decide +kernel)
    (by first | exact .inl (by decide +kernel) | exact .inr (by decide +kernel)) (by rw [isSubtype_type]; kernel_rfl)
theorem kgw:entryFor table "bytes.__lt__" = some Builtin.«bytes.__lt__»:=entryFor_of_tree (by kernel_rfl)
theorem kgm (a b:Value):argsOk "bytes.__lt__" ⟨[a,b],[]⟩:=by
  unfold argsOk; rw [signature?_of (id := "bytes.__lt__") (n := "__tl__".toList) (o:=['s', 'e', 't', 'y', 'b']) (by kernel_rfl) FB.owner_bytes]; kernel_rfl
theorem khz:Slot "bytes" "__gt__" "bytes.__gt__" :=
  .of (owner := "bytes") (n := "__gt__") (by rw [typeLookup_type,builtinLookup_eq_fast]; kernel_rfl) (by decide +kernel) (by decide +kernel) (by decide +kernel)
    (by first | exact .inl (by decide +kernel) | exact .inr (by decide +kernel)) (by rw [isSubtype_type]; kernel_rfl)
theorem kgx:entryFor table "bytes.__gt__" = some Builtin.«bytes.__gt__»:=entryFor_of_tree (by kernel_rfl)
theorem kgn (a b:Value):argsOk "bytes.__gt__" ⟨[a,b],[]⟩:=by
  unfold argsOk; rw [signature?_of (id := "bytes.__gt__") (n := "__tg__".toList) (o:=['s', 'e', 't', 'y', 'b']) (by kernel_rfl) FB.owner_bytes]; kernel_rfl
theorem kek (n:Nat):Bytes.window n none none = (0,(n:Int)):=by
  unfold Bytes.window
  simp only [Option.getD_none]
  have h1:¬ ((0:Int) < 0):=by lia
  have h2:¬ ((n:Int) < 0):=by lia
  simp only [h1,h2,if_false]
  congr 1
  lia
theorem rfind_eq (b c:Array UInt8) (t u:Tok) : «bytes.rfind» ⟨[.bytes b t, .bytes c u],[]⟩ =
    (match (if (Bytes.window b.size none none).2 - (Bytes.window b.size none none).1 < c.size then none else some ((Bytes.window b.size none none).1.toNat,(Bytes.window b.size none none).2.toNat)).bind (fun x=>Bytes.rfind? b c x.1 x.2) with
      | some i=>retInt i
      | none=>do rule "bytes.rfind.not-found"; retInt (-1)):=by kernel_rfl
noncomputable def bRfind (b c:Array UInt8):Int:=match Bytes.rfind? b c 0 b.size with | some i=>(i:Int) | none=>-1
theorem kks (b c:Array UInt8) (t u:Tok):Meets («bytes.rfind» ⟨[.bytes b t, .bytes c u],[]⟩) (fun _ R s=>c.size ≤ b.size ∧ R (.ok (.ret (.int (bRfind b c) s.toks))) { s with toks:=s.toks + 1 }):=by
  refine .of_wp fun prog w A R s h=>?_
  obtain ⟨hc,h⟩:=h
  rw [rfind_eq,kek]
  have hn:¬ ((b.size:Int) - 0 < (c.size:Int)):=by lia
  simp only [hn,if_false,Option.bind_some,Int.toNat_natCast,Int.toNat_zero]
  unfold bRfind at h
  cases hq:Bytes.rfind? b c 0 b.size with
  | some i=>rw [hq] at h; exact fun _ _ _=>⟨_,rfl,h⟩
  | none=>rw [hq] at h; exact fun _ _ _=>⟨_,rfl,h⟩
noncomputable def bStarts (b c:Array UInt8):Bool:=if (b.size:Int) - 0 < c.size then false else b.extract 0 (0 + c.size) == c
noncomputable def bEnds (b c:Array UInt8):Bool:=if (b.size:Int) - 0 < c.size then false else b.extract (b.size - c.size) b.size == c
theorem starts_eq (b c:Array UInt8) (t u:Tok) : «bytes.startswith» ⟨[.bytes b t, .bytes c u],[]⟩ =
    ret (.bool (if (Bytes.window b.size none none).2 - (Bytes.window b.size none none).1 < c.size then false else b.extract (Bytes.window b.size none none).1.toNat ((Bytes.window b.size none none).1.toNat + c.size) == c)):=by kernel_rfl
theorem ends_eq (b c:Array UInt8) (t u:Tok) : «bytes.endswith» ⟨[.bytes b t, .bytes c u],[]⟩ =
    ret (.bool (if (Bytes.window b.size none none).2 - (Bytes.window b.size none none).1 < c.size then false else b.extract ((Bytes.window b.size none none).2.toNat - c.size) (Bytes.window b.size none none).2.toNat == c)):=by kernel_rfl
theorem kjb (b c:Array UInt8) (t u:Tok):Meets («bytes.startswith» ⟨[.bytes b t, .bytes c u],[]⟩) (fun _ R s=>R (.ok (.ret (.bool (bStarts b c)))) s):=by
  refine .of_wp fun prog w A R s h=>?_
  rw [starts_eq,kek]
  exact fun _ _ _=>⟨_,rfl,h⟩
theorem meets_ends (b c:Array UInt8) (t u:Tok):Meets («bytes.endswith» ⟨[.bytes b t, .bytes c u],[]⟩) (fun _ R s=>R (.ok (.ret (.bool (bEnds b c)))) s):=by
  refine .of_wp fun prog w A R s h=>?_
  rw [ends_eq,kek]
  simp only [Int.toNat_natCast]
  exact fun _ _ _=>⟨_,rfl,h⟩
noncomputable def bRstrip (b c:Array UInt8):Array UInt8:=((b.toList.reverse.dropWhile c.contains).reverse).toArray
theorem rstrip_eq (b c:Array UInt8) (t u:Tok) : «bytes.rstrip» ⟨[.bytes b t, .bytes c u],[]⟩ =
    (if ((b.toList.reverse.dropWhile c.contains).reverse).length == b.size then (do rule "bytes.rstrip.unchanged"; ret (.bytes b t)) else do ret (← mkBytes ((b.toList.reverse.dropWhile c.contains).reverse).toArray)):=by kernel_rfl
set_option tactic.hygienic true in
theorem kem {α:Type}(p:α → Bool):∀ l:List α,(l.dropWhile p).length = l.length → l.dropWhile p = l
  | [],_=>rfl
  | x :: l,h=>by
    rw [List.dropWhile_cons] at h ⊢
    split at h
    · rename_i hp
      have:(l.dropWhile p).length ≤ l.length:=(List.dropWhile_sublist _).length_le
      simp only [List.length_cons] at h
      lia
    · rename_i hp; rw [if_neg hp]
theorem kjc (b c:Array UInt8) (t u:Tok) (hb:b.size ≤ 2000):Meets («bytes.rstrip» ⟨[.bytes b t, .bytes c u],[]⟩) (fun _ R s=>∀ t' tk,R (.ok (.ret (.bytes (bRstrip b c) t'))) { s with toks:=tk }):=by
  refine .of_wp fun prog w A R s h=>?_
  rw [rstrip_eq]
  by_cases hq:(((b.toList.reverse.dropWhile c.contains).reverse).length == b.size) = true
  · rw [if_pos hq]
    have e:bRstrip b c = b:=by
      unfold bRstrip
      rw [kem _ _ (by simpa using hq)]
      simp
    have h':=h t s.toks
    rw [e] at h'
    exact fun _ _ _=>⟨_,rfl,h'⟩
  · rw [if_neg hq]
    have hs:¬ ((b.toList.reverse.dropWhile c.contains).reverse).toArray.size > sizeLine:=by
      have:(b.toList.reverse.dropWhile c.contains).length ≤ b.toList.reverse.length:=(List.dropWhile_sublist _).length_le
      simp only [List.length_reverse,Array.length_toList] at this
      rw [List.size_toArray,List.length_reverse,sizeLine_eq]; lia
    unfold mkBytes
    rw [if_neg hs]
    exact fun _ _ _=>⟨_,rfl,h _ _⟩
end
section
open PySem.Builtin
noncomputable def toS (x:List Nat):Str:=⟨x.toArray⟩
noncomputable def toB (x:List Nat):Array UInt8:=(x.map UInt8.ofNat).toArray
noncomputable def ofS (s:Str):List Nat:=s.cps.toList
noncomputable def ofB (b:Array UInt8):List Nat:=b.toList.map UInt8.toNat
theorem tx_str (s:Str):tx false (ofS s) = .str s:=by obtain ⟨⟨l⟩⟩:=s; rfl
theorem kfl (b:Array UInt8):tx true (ofB b) = .bytes b:=by
  obtain ⟨l⟩:=b
  show D.bytes ((l.map UInt8.toNat).map UInt8.ofNat).toArray = _
  have:(l.map UInt8.toNat).map UInt8.ofNat = l:=by
    rw [List.map_map]
    conv=>rhs; rw [← List.map_id l]
    apply List.map_congr_left
    intro a _
    simp
  rw [this]
theorem kc2 (x:List Nat):(toS x).length = x.length:=by show x.toArray.size = _; simp
theorem kdw (x:List Nat):(toB x).size = x.length:=by simp [toB]
noncomputable def mid (b:Bool) (s t:String):String:=if b then t else s
noncomputable def rfindT (b:Bool) (x y:List Nat):Int:=if b then bRfind (toB x) (toB y) else Txt.rfind (toS x) (toS y)
noncomputable def startsT (b:Bool) (x y:List Nat):Bool:=if b then bStarts (toB x) (toB y) else Txt.startswith (toS x) (toS y)
noncomputable def endsT (b:Bool) (x y:List Nat):Bool:=if b then bEnds (toB x) (toB y) else Txt.endswith (toS x) (toS y)
noncomputable def rstripT (b:Bool) (x y:List Nat):List Nat:=if b then ofB (bRstrip (toB x) (toB y)) else ofS (Txt.rstripChars (toS x) (toS y))
inductive One (X:List Addr) (h:Heap) (vs:List Value) (d:D):Prop
  | mk (v:Value) (e:vs = [v]) (r:R X h v d):One X h vs d
inductive Two (X:List Addr) (h:Heap) (vs:List Value) (d e:D):Prop
  | mk (v u:Value) (q:vs = [v,u]) (r:R X h v d) (r2:R X h u e):Two X h vs d e
inductive Three (X:List Addr) (h:Heap) (vs:List Value) (d e f:D):Prop
  | mk (v u t:Value) (q:vs = [v,u,t]) (r:R X h v d) (r2:R X h u e) (r3:R X h t f):Three X h vs d e f
theorem RAll.one {X:List Addr}{h:Heap}{vs:List Value}{d:D}(r:RAll X h vs [d]):One X h vs d:=by
  cases r with | cons r1 r=>cases r; exact ⟨_,rfl,r1⟩
theorem RAll.two {X:List Addr}{h:Heap}{vs:List Value}{d e:D}(r:RAll X h vs [d,e]):Two X h vs d e:=by
  cases r with | cons r1 r=>obtain ⟨u,rfl,r2⟩:=r.one; exact ⟨_,u,rfl,r1,r2⟩
theorem RAll.three {X:List Addr}{h:Heap}{vs:List Value}{d e f:D}(r:RAll X h vs [d,e,f]):Three X h vs d e f:=by
  cases r with | cons r1 r=>obtain ⟨u,t,rfl,r2,r3⟩:=r.two; exact ⟨_,u,t,rfl,r1,r2,r3⟩
section
variable {w:World}{h₀:Heap}{n:Nat}
theorem khj {b:Bool}{x y:List Nat}(hl:y.length ≤ x.length ∨ b = false):CallR w h₀ n (.builtin (mid b "str.rfind" "bytes.rfind")) [tx b x,tx b y] (.int (rfindT b x y)):=fun A X s vs rm O rs Q E h=>by
  obtain ⟨v,u,rfl,r1,r2⟩:=rs.two
  cases b with
  | false =>
    obtain ⟨t,rfl⟩:=R.str_eq r1; obtain ⟨t',rfl⟩:=R.str_eq r2
    exact SC.rfind (h _ _ (.tok O.gi _) (.int _ _))
  | true =>
    obtain ⟨t,rfl⟩:=R.bytes_eq r1; obtain ⟨t',rfl⟩:=R.bytes_eq r2
    refine call_meets kct rfl kes (keh _ _) (kks _ _ _ _) ⟨?_,h _ _ (.tok O.gi _) (.int _ _)⟩
    rcases hl with hl | hl
    · have a:=kdw x; have b:=kdw y; unfold toB at a b; lia
    · cases hl
theorem kgh {b:Bool}{x y:List Nat} : CallR w h₀ n (.builtin (mid b "str.startswith" "bytes.startswith")) [tx b x,tx b y] (.bool (startsT b x y)):=fun A X s vs rm O rs Q E h=>by
  obtain ⟨v,u,rfl,r1,r2⟩:=rs.two
  cases b with
  | false =>
    obtain ⟨t,rfl⟩:=R.str_eq r1; obtain ⟨t',rfl⟩:=R.str_eq r2
    exact SC.startswith (h _ _ (.refl O.gi) (.bool _))
  | true =>
    obtain ⟨t,rfl⟩:=R.bytes_eq r1; obtain ⟨t',rfl⟩:=R.bytes_eq r2
    exact call_meets FB.slot_bytes_startswith rfl FB.entry_bytes_startswith (FB.args_bytes_startswith_2 _ _) (kjb _ _ _ _) (h _ _ (.refl O.gi) (.bool _))
theorem call_ends {b:Bool}{x y:List Nat} : CallR w h₀ n (.builtin (mid b "str.endswith" "bytes.endswith")) [tx b x,tx b y] (.bool (endsT b x y)):=fun A X s vs rm O rs Q E h=>by
  obtain ⟨v,u,rfl,r1,r2⟩:=rs.two
  cases b with
  | false =>
    obtain ⟨t,rfl⟩:=R.str_eq r1; obtain ⟨t',rfl⟩:=R.str_eq r2
    exact SC.endswith (h _ _ (.refl O.gi) (.bool _))
  | true =>
    obtain ⟨t,rfl⟩:=R.bytes_eq r1; obtain ⟨t',rfl⟩:=R.bytes_eq r2
    exact call_meets FB.slot_bytes_endswith rfl FB.entry_bytes_endswith (FB.args_bytes_endswith_2 _ _) (meets_ends _ _ _ _) (h _ _ (.refl O.gi) (.bool _))
theorem call_rstrip {b:Bool}{x y:List Nat}(hx:okTx b x):CallR w h₀ n (.builtin (mid b "str.rstrip" "bytes.rstrip")) [tx b x,tx b y] (tx b (rstripT b x y)):=fun A X s vs rm O rs Q E h=>by
  obtain ⟨v,u,rfl,r1,r2⟩:=rs.two
  have hl:=hx.1
  cases b with
  | false =>
    obtain ⟨t,rfl⟩:=R.str_eq r1; obtain ⟨t',rfl⟩:=R.str_eq r2
    refine SC.rstripChars (fun t' k=>h _ _ (.tok O.gi _) ?_) ?_
    · show R X s.heap _ (tx false (ofS _)); rw [tx_str]; exact .str _ _
    · have:=kc2 x; unfold toS at this; rw [this,sizeLine_eq]; lia
  | true =>
    obtain ⟨t,rfl⟩:=R.bytes_eq r1; obtain ⟨t',rfl⟩:=R.bytes_eq r2
    refine call_meets kc8 rfl ke6 (kdp _ _) (kjc _ _ _ _ ?_) fun t' k=>h _ _ (.tok O.gi _) ?_
    · have:=kdw x; unfold toB at this; lia
    · show R X s.heap _ (tx true (ofB _)); rw [kfl]; exact .bytes _ _
theorem ken {b:Bool}{x:List Nat}{name:Str}{i j:String}(s1:Slot "str" name i) (t1:typeOf (.builtin i) = pure (.type "method_descriptor")) (s2:Slot "bytes" name j) (t2:typeOf (.builtin j) = pure (.type "method_descriptor")) :
    Meth w (tx b x) name (mid b i j):=fun A X s v pl Q E r h=>by
  cases b with
  | false=>obtain ⟨t,rfl⟩:=R.str_eq r; exact getMethod_builtin (typeIs_str _ _ _) F.plainAttrs_str s1 t1 (fun _ e=>nomatch e) h
  | true=>obtain ⟨t,rfl⟩:=R.bytes_eq r; exact getMethod_builtin (T := "bytes") rfl FB.plainAttrs_bytes s2 t2 (fun _ e=>nomatch e) h
theorem m_rfind {b:Bool}{x:List Nat} : Meth w (tx b x) "rfind" (mid b "str.rfind" "bytes.rfind"):=ken F.slot_str_rfind F.type_str_rfind kct kfj
theorem m_rstrip {b:Bool}{x:List Nat} : Meth w (tx b x) "rstrip" (mid b "str.rstrip" "bytes.rstrip"):=ken F.slot_str_rstrip F.type_str_rstrip kc8 kel
theorem m_starts {b:Bool}{x:List Nat} : Meth w (tx b x) "startswith" (mid b "str.startswith" "bytes.startswith"):=ken F.slot_str_startswith F.type_str_startswith FB.slot_bytes_startswith FB.type_bytes_startswith
theorem m_ends {b:Bool}{x:List Nat} : Meth w (tx b x) "endswith" (mid b "str.endswith" "bytes.endswith"):=ken F.slot_str_endswith F.type_str_endswith FB.slot_bytes_endswith FB.type_bytes_endswith
theorem m_split {b:Bool}{x:List Nat} : Meth w (tx b x) "split" (mid b "str.split" "bytes.split"):=ken F.slot_str_split F.type_str_split kcs kfi
theorem m_join {b:Bool}{x:List Nat} : Meth w (tx b x) "join" (mid b "str.join" "bytes.join"):=ken F.slot_str_join F.type_str_join kby kfu
inductive EVO (w:World) (h₀:Heap) (n:Nat) (sc:Scope) (ω:Owns) (σ:List Var):Option Expr → Option Int → Prop
  | none:EVO w h₀ n sc ω σ .none .none
  | some {e:Expr}{i:Int} : EV w h₀ n sc ω σ e (.int i) → EVO w h₀ n sc ω σ (.some e) (.some i)
noncomputable def partV:Option Int → Value → Prop
  | .none,v=>v = .none
  | .some i,v=>∃ t,v = .int i t
theorem kkd {A:Around}{env:Env}{X:List Addr}{s0 s:Shared}{sc:Scope}{ω:Owns}{σ:List Var}{e:Option Expr}{i:Option Int}{Q:Value → Shared → Prop}{E:Value → Shared → Prop}(rm:Room A n) (h:EVO w h₀ n sc ω σ e i) (S:St h₀ sc env X s0 ω σ s)
    (hq:∀ v s',Nx h₀ s s' → partV i v → Q v s'):wpAny (model prog w) A (evalPart e env) Q E s:=by
  cases h with
  | none=>exact wpAny_pure (hq _ s (.refl S.gi) rfl)
  | some he=>exact he A env X s0 s rm S _ _ fun v s' n' r=>hq v s' n' (by obtain ⟨t,rfl⟩:=r.int_eq; exact ⟨t,rfl⟩)
noncomputable def SlcR (w:World) (h₀:Heap) (n:Nat) (a:D) (lo hi st:Option Int) (d:D):Prop :=
  ∀ A X s va sl vl vu vs,Room A n → Op h₀ X s → R X s.heap va a → s.heap.IsSliceOf sl vl vu vs → partV lo vl → partV hi vu → partV st vs → (∃ T id,s.TypeIs va T ∧ typeLookup (.type T) "__getitem__" = pure (some (.builtin id))) ∧ Yields w h₀ A X s (getItem va (.ref sl)) d
theorem kav {sc:Scope}{ω:Owns}{σ:List Var}{value:Expr}{lower upper step:Option Expr}{p pos:Pos}{a d:D}{lo hi st:Option Int}(hv:EV w h₀ n sc ω σ value a) (hl:EVO w h₀ n sc ω σ lower lo) (hu:EVO w h₀ n sc ω σ upper hi) (hs:EVO w h₀ n sc ω σ step st) (h:SlcR w h₀ n a lo hi st d) :
    EV w h₀ n sc ω σ (.Subscript value (.Slice lower upper step p) pos) d:=fun A env X s0 s rm S Q E hq=>by
  refine Subscript_ (hv A env X s0 s rm S _ _ fun va s₁ n₁ ra=>wpAny_Slice (kkd rm hl (S.nx n₁) fun vl s₂ n₂ pl=>kkd rm hu (S.nx (n₁.trans n₂)) fun vu s₃ n₃ pu=>kkd rm hs (S.nx (n₁.trans (n₂.trans n₃))) fun vs s₄ n₄ ps=>?_))
  have n4:=n₁.trans (n₂.trans (n₃.trans n₄))
  have n5:Nx h₀ s₄ { s₄ with heap:=s₄.heap.push { cls:=.type "slice",data:=.fields #[vl,vu,vs] } }:=.push n4.2 _ _
  obtain ⟨⟨T,id,hT,hg⟩,hy⟩:=h A X _ va _ vl vu vs rm (S.nx (n4.trans n5)).op (ra.nx (n₂.trans (n₃.trans (n₄.trans n5))) S.tabX) (Heap.IsSliceOf.new ..) pl pu ps
  cases step with
  | none=>exact tail_any hT hg (hy _ _ fun v s' n' r=>hq v s' (n4.trans (n5.trans n')) r) rfl
  | some _=>exact tail_any hT hg (hy _ _ fun v s' n' r=>hq v s' (n4.trans (n5.trans n')) r) rfl
end
end
section
open PySem.Builtin PySem.Builtin.Str
noncomputable def sl {α:Type}(lo hi:Option Int) (x:List α):List α:=(x.drop (lo.elim 0 (clipAt x.length))).take (hi.elim x.length (clipAt x.length) - lo.elim 0 (clipAt x.length))
theorem kj1 {α β:Type}(f:α → β) (lo hi:Option Int) (x:List α):sl lo hi (x.map f) = (sl lo hi x).map f:=by
  unfold sl; rw [List.length_map,List.map_take,List.map_drop]
theorem kj2 {α:Type}(lo hi:Option Int) (x:List α):(sl lo hi x).length ≤ x.length:=by
  unfold sl; rw [List.length_take,List.length_drop]; lia
theorem sl_mem {α:Type}{lo hi:Option Int}{x:List α}{a:α}(h:a ∈ sl lo hi x):a ∈ x:=List.mem_of_mem_drop (List.mem_of_mem_take h)
theorem strIdx (lo hi:Option Int) (n:Nat):strSliceIndices lo hi 1 n = sliceRange (sliceBounds lo hi none n).1 (sliceBounds lo hi none n).2.1 1:=by
  cases lo <;> cases hi <;> rfl
theorem txt_slice (x:List Nat) (lo hi:Option Int):Txt.slice (toS x) lo hi = toS (sl lo hi x):=by
  have key:(strSliceIndices lo hi 1 x.length).filterMap ((toS x).cps[·]?) = sl lo hi x:=by
    rw [strIdx,sliceBounds_plain,sliceRange_one,pick_run]
    unfold sl toS; simp
  have hlen:(toS x).length = x.length:=kc2 x
  unfold Txt.slice
  rw [hlen]
  by_cases h:((1:Int) == 1 && (strSliceIndices lo hi 1 x.length).length == x.length) = true
  · rw [if_pos h]
    simp only [Bool.and_eq_true,beq_iff_eq] at h
    have hl:(sl lo hi x).length = x.length:=by
      have e:(strSliceIndices lo hi 1 x.length).length = (sl lo hi x).length:=by
        rw [strIdx,sliceBounds_plain,sliceRange_one,List.length_map,List.length_range]
        unfold sl; rw [List.length_take,List.length_drop]
        have c1:lo.elim 0 (clipAt x.length) ≤ x.length:=by
          cases lo with
          | none=>exact Nat.zero_le _
          | some i=>show clipAt x.length i ≤ _; have:=clipAt_cast x.length i; lia
        have c2:hi.elim x.length (clipAt x.length) ≤ x.length:=by
          cases hi with
          | none=>exact Nat.le_refl _
          | some i=>show clipAt x.length i ≤ _; have:=clipAt_cast x.length i; lia
        lia
      rw [← e]; exact h.2
    have:sl lo hi x = x:=by
      unfold sl at hl ⊢
      rw [List.length_take,List.length_drop] at hl
      have z:lo.elim 0 (clipAt x.length) = 0 ∨ x.length = 0:=by lia
      rcases z with z | z
      · rw [z] at hl ⊢; rw [List.drop_zero]; exact List.take_of_length_le (by lia)
      · have:x = []:=List.eq_nil_of_length_eq_zero z
        subst this; simp
    rw [this]
  · rw [if_neg h,key]; rfl
theorem IsPart.of {o:Option Int}{v:Value}(h:partV o v):IsPart v o:=by
  cases o with
  | none=>cases (h:v = .none); exact .none
  | some i=>obtain ⟨t,rfl⟩:=h; exact .int i t
theorem part_val {o:Option Int}{v:Value}(h:partV o v):∃ p:Option (Int × Tok),v = partValue p ∧ p.map (·.1) = o:=by
  cases o with
  | none=>exact ⟨none,h,rfl⟩
  | some i=>obtain ⟨t,rfl⟩:=h; exact ⟨some (i,t),rfl,rfl⟩
section
variable {w:World}{h₀:Heap}{n:Nat}
theorem kf6 {b:Bool}{x:List Nat}{lo hi:Option Int}(hx:okTx b x):SlcR w h₀ n (tx b x) lo hi none (tx b (sl lo hi x)):=fun A X s va a vl vu vs rm O ra hs pl pu ps=>by
  have hl:=hx.1
  have e3:vs = .none:=ps
  cases b with
  | false =>
    obtain ⟨t,rfl⟩:=R.str_eq ra
    refine ⟨⟨"str",_,typeIs_str _ _ _,F.slot_str_getitem.lookup⟩,fun Q E h=>?_⟩
    obtain ⟨l,rfl,e1⟩:=part_val pl
    obtain ⟨u,rfl,e2⟩:=part_val pu
    subst e3
    refine wpAny_getItem_str_slice (l:=l) (u:=u) (st:=none) hs rfl ?_
    have hpost:∀ t' k,Q (.str (Txt.slice (toS x) lo hi) t') { s with toks:=k }:=fun t' k=>h _ _ (.tok O.gi _) (by rw [txt_slice]; exact .str _ _)
    unfold sliceMade
    unfold Txt.slice at hpost
    rw [show slicePicked ⟨x.toArray⟩ l u none = strSliceIndices lo hi 1 (toS x).length from by unfold slicePicked; rw [e1,e2]; rfl]
    simp only [Option.map_none,Option.getD_none]
    by_cases q:((1:Int) == 1 && (strSliceIndices lo hi 1 (toS x).length).length == (toS x).length) = true
    · rw [if_pos q] at hpost
      have q':((1:Int) == 1 && (strSliceIndices lo hi 1 (toS x).length).length == Str.length ⟨x.toArray⟩) = true:=q
      rw [if_pos q']
      exact hpost t s.toks
    · rw [if_neg q] at hpost
      have q':¬ ((1:Int) == 1 && (strSliceIndices lo hi 1 (toS x).length).length == Str.length ⟨x.toArray⟩) = true:=q
      rw [if_neg q']
      refine ⟨?_,hpost _ _⟩
      show (List.filterMap _ (strSliceIndices lo hi 1 (toS x).length)).toArray.size ≤ sizeLine
      rw [List.size_toArray,sizeLine_eq]
      refine Nat.le_trans (List.length_filterMap_le _ _) ?_
      have h2:=sliceIndices_le lo hi (toS x).length
      have h3:=kc2 x
      lia
  | true =>
    obtain ⟨t,rfl⟩:=R.bytes_eq ra
    refine ⟨⟨"bytes",_,typeIs_bytes _ _ _,FB.slot_bytes_getitem.lookup⟩,fun Q E h=>?_⟩
    subst e3
    have e:KBy.picked (toB x) lo hi = toB (sl lo hi x):=by
      rw [KBc.picked_eq]
      unfold toB
      rw [← kj1]
      unfold sl
      simp
    refine getItem_meets (typeIs_bytes _ _ _) (by decide) FB.slot_bytes_getitem FB.entry_bytes_getitem (FB.args_bytes_getitem_2 _ _) (KBc.meets_slice2 _ t _ (IsPart.of pl) (IsPart.of pu)) ⟨hs, ?_,fun t' k=>h _ _ (.tok O.gi _) ?_⟩
    · have:=KBc.size_picked_le (toB x) lo hi
      rw [kdw] at this
      rw [sizeLine_eq]; unfold toB at this; lia
    · show R X s.heap (.bytes (KBy.picked (toB x) lo hi) t') _
      rw [e]; exact .bytes _ _
theorem RAll.sl {X:List Addr}{h:Heap}{lo hi:Option Int}{vs:List Value}{ds:List D}(r:RAll X h vs ds):RAll X h (Mine.sl lo hi vs) (Mine.sl lo hi ds):=by
  have dr:∀ (k:Nat) {vs:List Value}{ds:List D},RAll X h vs ds → RAll X h (vs.drop k) (ds.drop k):=by
    intro k
    induction k with
    | zero=>intro vs ds r; simpa using r
    | succ k ih=>intro vs ds r; cases r with | nil=>simpa using RAll.nil | cons _ r=>simpa using ih r
  have tk:∀ (k:Nat) {vs:List Value}{ds:List D},RAll X h vs ds → RAll X h (vs.take k) (ds.take k):=by
    intro k
    induction k with
    | zero=>intro vs ds r; simpa using RAll.nil
    | succ k ih=>intro vs ds r; cases r with | nil=>simpa using RAll.nil | cons r1 r=>simpa using RAll.cons r1 (ih r)
  unfold Mine.sl
  rw [r.length]
  exact tk _ (dr _ r)
theorem kcg {ds:List D}{lo hi:Option Int}(hz:ds.length ≤ 100000):SlcR w h₀ n (.list ds) lo hi none (.list (sl lo hi ds)):=fun A X s va a vl vu vs rm O ra hs pl pu ps=>by
  obtain ⟨l,us,rfl,hl,hX,rs⟩:=ra.list_eq
  have e3:vs = .none:=ps
  subst e3
  refine ⟨⟨"list",_,hl.typeIs,list_getitem_lookup⟩,fun Q E h=>?_⟩
  refine wpAny_getItem_list_slice hl hs (IsPart.of pl) (IsPart.of pu) .none (by simp) ?_ ?_
  · rw [slicePick_plain]
    have e:(us.toArray.toList.drop (lo.elim 0 (clipAt us.toArray.size))).take (hi.elim us.toArray.size (clipAt us.toArray.size) - lo.elim 0 (clipAt us.toArray.size)) = sl lo hi us:=by unfold sl; simp
    rw [e]
    exact h _ _ (.push O.gi _ _) (.list ⟨_,Heap.get?_push_size _ rfl⟩ O.fresh ((rs.sl).nx (.push O.gi _ s.toks) O.tabX))
  · rw [List.size_toArray,rs.length,sizeLine_eq]; lia
end
end
section
open PySem.Builtin PySem.Builtin.Str
theorem kja (d:Int) (t:Tok) : «issubclass.nested» ⟨[.type "str", .type "str", .int d t],[]⟩ = ret (.bool true):=by kernel_rfl
theorem kgt (d:Int) (t:Tok) : «issubclass.nested» ⟨[.type "bytes", .type "str", .int d t],[]⟩ = ret (.bool false):=by kernel_rfl
theorem kfk (d:Int) (t:Tok) : «issubclass.nested» ⟨[.type "bytes", .type "bytes", .int d t],[]⟩ = ret (.bool true):=by kernel_rfl
theorem kkw:builtinKind "issubclass.nested" = none:=by decide +kernel
theorem kj5:plainId "issubclass.nested" = true:=by decide +kernel
theorem kio (a b c:Value):argsOk "issubclass.nested" ⟨[a,b,c],[]⟩:=by unfold argsOk; kernel_rfl
theorem sub_tuple_self:isSubtype (.type "tuple") (.type "tuple") = pure true:=by rw [isSubtype_type]; kernel_rfl
section
variable {w:World}{h₀:Heap}{n:Nat}
theorem kdm {pg:Program}{A:Around}{s:Shared}{X Y:String}{b:Bool}{k:Value}{Q:Value → Shared → Prop}{E:Value → Shared → Prop}(he : «issubclass.nested» ⟨[.type X, .type Y,k],[]⟩ = ret (.bool b)) (h:Q (.bool b) s) :
    wpAny (model pg w) A (call (.builtin "issubclass.nested") [.type X, .type Y,k]) Q E s :=
  call_function_entry kkw kj5 F.entry_issubclass_nested (kio _ _ _) (by rw [he]; exact wpAny_pure ⟨_,rfl,h⟩)
theorem issub_tx {b:Bool} : CallR w h₀ n (.builtin "issubclass") [.val (.type (mid b "str" "bytes")), .tuple [.val (.type "str"), .val (.type "bytes")]] (.bool true):=fun A X s vs rm O rs Q E h=>by
  obtain ⟨v,u,rfl,r1,r2⟩:=rs.two
  have e1:=r1.val_eq
  subst e1
  obtain ⟨tp,us,rfl,ht,_,ru⟩:=r2.tuple_eq
  obtain ⟨a,c,rfl,ra,rc⟩:=ru.two
  have e2:=ra.val_eq; have e3:=rc.val_eq
  subst e2 e3
  have hT:s.TypeIs (.ref tp) "tuple" := ht.typeIs
  have hq:=h _ _ (.refl O.gi) (.bool true)
  refine call_issubclass (S:=fun A' R s'=>s' = s ∧ R (.ok (.ret (.bool true))) s) (fun pg w' A' R s' hs=>issubclass_outer ?_) ⟨rfl,hq⟩
  obtain ⟨rfl,hR⟩:=hs
  obtain ⟨o,ho,hc,k,hd⟩:=ht
  show wpAny _ _ (typeOf (.ref tp) >>= fun r=>_) _ _ _
  refine wpAny_bind (wpAny_typeOf hT ?_)
  show wpAny _ _ (if (Value.type "tuple" == Value.type "type") = true then _ else _) _ _ _
  rw [if_neg (by decide +kernel)]
  refine wpAny_bind (m:=Builtins.unionMembers (.ref tp)) ?_
  unfold Builtins.unionMembers
  refine wpAny_bind (wpAny_typeOf hT ?_)
  show wpAny _ _ (if (Value.type "tuple" == Value.type "types.UnionType") = true then _ else _) _ _ _
  rw [if_neg (by decide +kernel)]
  refine wpAny_pure ?_
  refine wpAny_bind (m:=isInstance (.ref tp) (.type "tuple")) (wpAny_isInstance hT sub_tuple_self ?_)
  simp only [if_true]
  rw [if_neg (by decide +kernel)]
  refine wpAny_bind (wpAny_seqItems ho hd ?_)
  simp only [Option.getD_some]
  rw [← Array.forIn_toList]
  refine wpAny_bind ?_
  cases b with
  | false =>
    rw [List.forIn_cons]
    refine wpAny_bind (wpAny_bind (kdm (kja _ _) (wpAny_bind (wpAny_truthy_bool ?_))))
    exact wpAny_pure (wpAny_pure (wpAny_pure hR))
  | true =>
    rw [List.forIn_cons]
    refine wpAny_bind (wpAny_bind (kdm (kgt _ _) (wpAny_bind (wpAny_truthy_bool ?_))))
    refine wpAny_pure ?_
    show wpAny _ _ (forIn [Value.type "bytes"] _ _) _ _ _
    rw [List.forIn_cons]
    refine wpAny_bind (wpAny_bind (kdm (kfk _ _) (wpAny_bind (wpAny_truthy_bool ?_))))
    exact wpAny_pure (wpAny_pure (wpAny_pure hR))
theorem type_tx {b:Bool}{x:List Nat} : CallR w h₀ n (.type "type") [tx b x] (.val (.type (mid b "str" "bytes"))):=fun A X s vs rm O rs Q E h=>by
  obtain ⟨v,rfl,r1⟩:=rs.one
  cases b with
  | false=>obtain ⟨t,rfl⟩:=R.str_eq r1; exact call_type_of (typeIs_str _ _ _) (by decide +kernel) (h _ _ (.refl O.gi) (.val _))
  | true=>obtain ⟨t,rfl⟩:=R.bytes_eq r1; exact call_type_of (typeIs_bytes _ _ _) (by decide +kernel) (h _ _ (.refl O.gi) (.val _))
theorem kc4 {b:Bool}{x:List Nat} : CallR w h₀ n (.builtin "isinstance") [tx b x, .val (.type "bytes")] (.bool b):=fun A X s vs rm O rs Q E h=>by
  obtain ⟨v,u,rfl,r1,r2⟩:=rs.two
  have e2:=r2.val_eq
  subst e2
  cases b with
  | false=>obtain ⟨t,rfl⟩:=R.str_eq r1; exact IsiPair.str_bytes (h _ _ (.tok O.gi _) (.bool _))
  | true =>
    obtain ⟨t,rfl⟩:=R.bytes_eq r1
    exact call_isinstance (isinstance_true (Tx := "bytes") F.isi_meta_bytes (by rw [isSubtype_type]; kernel_rfl)) ⟨typeIs_bytes _ _ _,h _ _ (.refl O.gi) (.bool _)⟩
end
end
section
noncomputable def gNames:List Str:=[Str.ofString "reduce",Str.ofString "fspath",Str.ofString "_get_sep",Str.ofString "join",Str.ofString "splitroot",Str.ofString "basename",Str.ofString "dirname",Str.ofString "normpath",Str.ofString "commonpath",Str.ofString "_law_pieces",Str.ofString "_law_names",Str.ofString "_law_place",Str.ofString "_law_depth",Str.ofString "_law_child",Str.ofString "_law_answer",Str.ofString "_law_table",Str.ofString "_law_walk",Str.ofString "_law_sides",Str.ofString "_law_orders",Str.ofString "_law_tour",Str.ofString "_law_together",Str.ofString "_law_tours",Str.ofString "_law_keys",Str.ofString "_initial_missing",Str.ofString "cmp_to_key",Str.ofString "isinstance",Str.ofString "bytes",Str.ofString "str",Str.ofString "type",Str.ofString "issubclass",Str.ofString "len",Str.ofString "range",Str.ofString "ord",Str.ofString "iter",Str.ofString "tuple",Str.ofString "map",Str.ofString "min",Str.ofString "max",Str.ofString "enumerate",Str.ofString "sum",Str.ofString "sorted",Str.ofString "object"]
noncomputable def gVals:List (Option Value):=[some (.ref 37),some (.ref 110),some (.ref 124),some (.ref 131),some (.ref 138),some (.ref 145),some (.ref 152),some (.ref 159),some (.ref 164),some (.ref 169),some (.ref 176),some (.ref 181),some (.ref 188),some (.ref 195),some (.ref 202),some (.ref 207),some (.ref 212),some (.ref 217),some (.ref 222),some (.ref 229),some (.ref 234),some (.ref 239),some (.ref 246),some (.ref 29),some (.ref 28),none,none,none,none,none,none,none,none,none,none,none,none,none,none,none,none,none]
theorem gTab (w:World):gNames.map (fun x=>findG x (gEs w)) = gVals:=by kernel_rfl
theorem gAt {w:World}{x:Str}{o:Option Value}(i:Nat) (hx:gNames[i]? = some x) (ho:gVals[i]? = some o):findG x (gEs w) = o:=by
  have h:=congrArg (fun l=>l[i]?) (gTab w)
  simp only [List.getElem?_map,hx,ho,Option.map_some,Option.some.injEq] at h
  exact h
section
variable {w:World}{h₀:Heap}(G:Gr w h₀)
include G
theorem kg5:GV h₀ "reduce" (.ref 37):=kan G (gAt 0 rfl rfl) (by decide +kernel)
theorem kc0:GV h₀ "fspath" (.ref 110):=kan G (gAt 1 rfl rfl) (by decide +kernel)
theorem kep:GV h₀ "_get_sep" (.ref 124):=kan G (gAt 2 rfl rfl) (by decide +kernel)
theorem gv_join:GV h₀ "join" (.ref 131):=kan G (gAt 3 rfl rfl) (by decide +kernel)
theorem kjj:GV h₀ "splitroot" (.ref 138):=kan G (gAt 4 rfl rfl) (by decide +kernel)
theorem gv_basename:GV h₀ "basename" (.ref 145):=kan G (gAt 5 rfl rfl) (by decide +kernel)
theorem kd9:GV h₀ "dirname" (.ref 152):=kan G (gAt 6 rfl rfl) (by decide +kernel)
theorem kg6:GV h₀ "normpath" (.ref 159):=kan G (gAt 7 rfl rfl) (by decide +kernel)
theorem ke3:GV h₀ "commonpath" (.ref 164):=kan G (gAt 8 rfl rfl) (by decide +kernel)
theorem kia:GV h₀ "_law_pieces" (.ref 169):=kan G (gAt 9 rfl rfl) (by decide +kernel)
theorem kjo:GV h₀ "_law_names" (.ref 176):=kan G (gAt 10 rfl rfl) (by decide +kernel)
theorem kjn:GV h₀ "_law_place" (.ref 181):=kan G (gAt 11 rfl rfl) (by decide +kernel)
theorem kd2:GV h₀ "_law_depth" (.ref 188):=kan G (gAt 12 rfl rfl) (by decide +kernel)
theorem kf9:GV h₀ "_law_child" (.ref 195):=kan G (gAt 13 rfl rfl) (by decide +kernel)
theorem kib:GV h₀ "_law_answer" (.ref 202):=kan G (gAt 14 rfl rfl) (by decide +kernel)
theorem kjl:GV h₀ "_law_table" (.ref 207):=kan G (gAt 15 rfl rfl) (by decide +kernel)
theorem kg7:GV h₀ "_law_walk" (.ref 212):=kan G (gAt 16 rfl rfl) (by decide +kernel)
theorem kjm:GV h₀ "_law_sides" (.ref 217):=kan G (gAt 17 rfl rfl) (by decide +kernel)
theorem ke1:GV h₀ "_law_orders" (.ref 222):=kan G (gAt 18 rfl rfl) (by decide +kernel)
theorem kkz:GV h₀ "_law_tour" (.ref 229):=kan G (gAt 19 rfl rfl) (by decide +kernel)
theorem kg8:GV h₀ "_law_together" (.ref 234):=kan G (gAt 20 rfl rfl) (by decide +kernel)
theorem kjk:GV h₀ "_law_tours" (.ref 239):=kan G (gAt 21 rfl rfl) (by decide +kernel)
theorem gv_law_keys:GV h₀ "_law_keys" (.ref 246):=kan G (gAt 22 rfl rfl) (by decide +kernel)
theorem ke2:GV h₀ "_initial_missing" (.ref 29):=kan G (gAt 23 rfl rfl) (by decide +kernel)
theorem kid:GV h₀ "cmp_to_key" (.ref 28):=kan G (gAt 24 rfl rfl) (by decide +kernel)
theorem kbp:GV h₀ "isinstance" (.builtin "isinstance"):=kbg G (gAt 25 rfl rfl) (by decide +kernel) (by decide +kernel) (by decide +kernel)
theorem kda:GV h₀ "bytes" (.type "bytes"):=kbg G (gAt 26 rfl rfl) (by decide +kernel) (by decide +kernel) (by decide +kernel)
theorem gv_str:GV h₀ "str" (.type "str"):=kbg G (gAt 27 rfl rfl) (by decide +kernel) (by decide +kernel) (by decide +kernel)
theorem gv_type:GV h₀ "type" (.type "type"):=kbg G (gAt 28 rfl rfl) (by decide +kernel) (by decide +kernel) (by decide +kernel)
theorem kic:GV h₀ "issubclass" (.builtin "issubclass"):=kbg G (gAt 29 rfl rfl) (by decide +kernel) (by decide +kernel) (by decide +kernel)
theorem ke0:GV h₀ "len" (.builtin "len"):=kbg G (gAt 30 rfl rfl) (by decide +kernel) (by decide +kernel) (by decide +kernel)
theorem kbo:GV h₀ "range" (.type "range"):=kbg G (gAt 31 rfl rfl) (by decide +kernel) (by decide +kernel) (by decide +kernel)
theorem gv_ord:GV h₀ "ord" (.builtin "ord"):=kbg G (gAt 32 rfl rfl) (by decide +kernel) (by decide +kernel) (by decide +kernel)
theorem gv_iter:GV h₀ "iter" (.builtin "iter"):=kbg G (gAt 33 rfl rfl) (by decide +kernel) (by decide +kernel) (by decide +kernel)
theorem gv_tuple:GV h₀ "tuple" (.type "tuple"):=kbg G (gAt 34 rfl rfl) (by decide +kernel) (by decide +kernel) (by decide +kernel)
theorem gv_map:GV h₀ "map" (.type "map"):=kbg G (gAt 35 rfl rfl) (by decide +kernel) (by decide +kernel) (by decide +kernel)
theorem gv_min:GV h₀ "min" (.builtin "min"):=kbg G (gAt 36 rfl rfl) (by decide +kernel) (by decide +kernel) (by decide +kernel)
theorem gv_max:GV h₀ "max" (.builtin "max"):=kbg G (gAt 37 rfl rfl) (by decide +kernel) (by decide +kernel) (by decide +kernel)
theorem kjp:GV h₀ "enumerate" (.type "enumerate"):=kbg G (gAt 38 rfl rfl) (by decide +kernel) (by decide +kernel) (by decide +kernel)
theorem gv_sum:GV h₀ "sum" (.builtin "sum"):=kbg G (gAt 39 rfl rfl) (by decide +kernel) (by decide +kernel) (by decide +kernel)
theorem gv_sorted:GV h₀ "sorted" (.builtin "sorted"):=kbg G (gAt 40 rfl rfl) (by decide +kernel) (by decide +kernel) (by decide +kernel)
theorem gv_object:GV h₀ "object" (.type "object"):=kbg G (gAt 41 rfl rfl) (by decide +kernel) (by decide +kernel) (by decide +kernel)
end
end
section
open PySem.Builtin PySem.Builtin.Str
theorem ki3:typeLookup (.type "bytes") (dunderI "add") = pure none:=by rw [typeLookup_type,builtinLookup_eq_fast]; kernel_rfl
theorem toS_rep (c:Nat) (k:Nat):Txt.mul (toS [c]) k = toS (List.replicate k c):=by
  have fold:∀ (m:Nat) (acc:List Nat),(List.replicate m (#[c]:Array Nat)).foldl (· ++ ·) acc.toArray = (acc ++ List.replicate m c).toArray:=by
    intro m
    induction m with
    | zero=>intro acc; simp
    | succ m ih =>
      intro acc
      rw [List.replicate_succ,List.foldl_cons]
      have:acc.toArray ++ #[c] = (acc ++ [c]).toArray:=by simp
      rw [this,ih (acc ++ [c]),List.replicate_succ,List.append_assoc]; rfl
  unfold Txt.mul
  match k with
  | 0=>rfl
  | 1=>rfl
  | k + 2 =>
    have h1:¬ (((k + 2:Nat):Int) < 1):=by lia
    have h2:¬ ((((k + 2:Nat):Int) == 1 || (toS [c]).length == 0) = true):=by
      have:(toS [c]).length = 1:=kc2 [c]
      rw [this]; simp; lia
    rw [if_neg h1,if_neg h2]
    have:=fold (k + 2) []
    simp only [List.nil_append] at this
    show Str.mk ((List.replicate ((k + 2:Nat):Int).toNat #[c]).foldl (· ++ ·) #[]) = _
    rw [Int.toNat_natCast,this]; rfl
section
variable {w:World}{h₀:Heap}{n:Nat}
theorem CallR.mono {m:Nat}{f:Value}{ds:List D}{d:D}(h:CallR w h₀ n f ds d) (hm:n ≤ m):CallR w h₀ m f ds d:=fun A X s vs rm O rs=>h A X s vs (rm.down hm) O rs
theorem call_len_tx {b:Bool}{x:List Nat}(hx:okTx b x):CallR w h₀ n (.builtin "len") [tx b x] (.int x.length):=fun A X s vs rm O rs Q E h=>by
  obtain ⟨v,rfl,r1⟩:=rs.one
  have hl:=hx.1
  cases b with
  | false =>
    obtain ⟨t,rfl⟩:=R.str_eq r1
    have e:=kc2 x; unfold toS at e
    refine PyProof.Rows.len_str (by rw [e]; lia) ?_
    rw [e]; exact h _ _ (.tok O.gi _) (.int _ _)
  | true =>
    obtain ⟨t,rfl⟩:=R.bytes_eq r1
    have e:=kdw x; unfold toB at e
    refine PySem.W.len_bytes (by rw [e]; lia) ?_
    rw [e]; exact h _ _ (.tok O.gi _) (.int _ _)
theorem kha {b:Bool}{x y:List Nat}(hx:okTx b x) (hy:okTx b y):IopR w h₀ n .Add (tx b x) (tx b y) (tx b (x ++ y)):=fun A X s va vb rm O ra rb Q E h=>by
  have l1:=hx.1; have l2:=hy.1
  cases b with
  | false =>
    obtain ⟨t,rfl⟩:=R.str_eq ra; obtain ⟨u,rfl⟩:=R.str_eq rb
    refine PySem.SB.iadd (fun t' tk=>h _ _ (.tok O.gi _) ?_) ?_
    · have e:(Str.mk x.toArray ++ Str.mk y.toArray) = Str.mk (x ++ y).toArray:=by
        apply Str.ext'; rw [Str.cps_append]; simp
      rw [e]; exact .str _ _
    · show x.toArray.size + y.toArray.size ≤ sizeLine
      rw [List.size_toArray,List.size_toArray,sizeLine_eq]; lia
  | true =>
    obtain ⟨t,rfl⟩:=R.bytes_eq ra; obtain ⟨u,rfl⟩:=R.bytes_eq rb
    have hs:(List.map UInt8.ofNat x).toArray.size + (List.map UInt8.ofNat y).toArray.size ≤ 16777216:=by simp only [List.size_toArray,List.length_map]; lia
    have hq:∀ t' k,Q (.bytes ((List.map UInt8.ofNat x).toArray ++ (List.map UInt8.ofNat y).toArray) t') { s with toks:=k }:=fun t' k=>h _ _ (.tok O.gi _) (by
      have e:(List.map UInt8.ofNat x).toArray ++ (List.map UInt8.ofNat y).toArray = ((x ++ y).map UInt8.ofNat).toArray:=by simp
      rw [e]; exact .bytes _ _)
    refine iconcat_gives (typeIs_bytes s _ t) (typeIs_bytes s _ u) ki3 KBy.noFill_bytes_add KBy.seq_bytes_add FB.slot_bytes_add FB.entry_bytes_add (FB.args_bytes_add_2 _ _) (KBy.gives_bytes_add (KBy.tooLong_not hs)) ?_
    generalize (List.map UInt8.ofNat x).toArray = b at hs hq
    generalize (List.map UInt8.ofNat y).toArray = c at hs hq
    by_cases hb:b.isEmpty = true
    · rw [if_pos hb]
      have e:b = #[]:=Array.isEmpty_iff.1 hb
      have h':=hq u s.toks
      rw [e,Array.empty_append] at h'
      exact h'
    · rw [if_neg hb]
      by_cases hc:c.isEmpty = true
      · rw [if_pos hc]
        have e:c = #[]:=Array.isEmpty_iff.1 hc
        have h':=hq t s.toks
        rw [e,Array.append_empty] at h'
        exact h'
      · rw [if_neg hc]
        exact ⟨by rw [Array.size_append,sizeLine_eq]; exact hs,hq s.toks (s.toks + 1)⟩
theorem bin_mul_tx {b:Bool}{c k:Nat}(hk:k ≤ 1000):BinR w h₀ n .Mult (tx b [c]) (.int k) (tx b (List.replicate k c)):=fun A X s va vb rm O ra rb Q E h=>by
  obtain ⟨u,rfl⟩:=rb.int_eq
  cases b with
  | false =>
    obtain ⟨t,rfl⟩:=R.str_eq ra
    refine PySem.SB.mul ?_ fun t' tk=>h _ _ (.tok O.gi _) ?_
    · have e:(Str.mk [c].toArray).length = 1:=kc2 [c]
      refine ⟨?_,fun h1 _=>?_,fun _ _=>?_⟩
      · rw [Bool.or_eq_false_iff]; exact ⟨decide_eq_false (by lia),decide_eq_false (by lia)⟩
      · rw [e]
        have:(1:Int) ≤ (2 ^ 63 - 1) / (k:Int):=by
          rw [Int.le_ediv_iff_mul_le (by lia)]; lia
        lia
      · rw [e]; unfold tooLong; rw [decide_eq_false]; rw [sizeLine_eq]; simp; lia
    · have:=toS_rep c k
      unfold toS at this
      rw [this]; exact .str _ _
  | true =>
    obtain ⟨t,rfl⟩:=R.bytes_eq ra
    refine bytes_mul_any (b:=[UInt8.ofNat c]) (by simp) (by lia) (by lia) (by simp) fun t' tk=>h _ _ (.tok O.gi _) ?_
    have e:(List.replicate (k:Int).toNat [UInt8.ofNat c]).flatten = (List.replicate k c).map UInt8.ofNat:=by
      rw [Int.toNat_natCast,List.flatten_replicate_singleton,List.map_replicate]
    rw [e]; exact .bytes _ _
theorem kht {sc:Scope}{ω:Owns}{σ:List Var}{e₁ e₂:Expr}{b₁ b₂:Bool}(h1:TV w h₀ n sc ω σ e₁ b₁) (h2:b₁ = true → TV w h₀ n sc ω σ e₂ b₂):TVs w h₀ n sc ω σ .And [e₁,e₂] (b₁ && b₂):=by
  refine .cons h1 (fun hb=>?_) fun hb=>?_
  · cases b₁ with
    | false=>cases hb
    | true => refine .cons (h2 rfl) (fun q=>?_) fun q=>?_
              · cases b₂ with
                | false=>cases q
                | true=>exact .nil
              · cases b₂ <;> first | rfl | exact absurd rfl q
  · cases b₁ <;> first | rfl | exact absurd rfl hb
theorem kfv {sc:Scope}{ω:Owns}{σ:List Var}{e₁ e₂:Expr}{b₁ b₂:Bool}(h1:TV w h₀ n sc ω σ e₁ b₁) (h2:b₁ = false → TV w h₀ n sc ω σ e₂ b₂):TVs w h₀ n sc ω σ .Or [e₁,e₂] (b₁ || b₂):=by
  refine .cons h1 (fun hb=>?_) fun hb=>?_
  · cases b₁ with
    | true=>cases hb
    | false => refine .cons (h2 rfl) (fun q=>?_) fun q=>?_
               · cases b₂ with
                 | true=>cases q
                 | false=>exact .nil
               · cases b₂ <;> first | rfl | exact absurd rfl q
  · cases b₁ <;> first | rfl | exact absurd rfl hb
end
end
section
open PySem.Builtin PySem.Builtin.Str
noncomputable def basenameT (b:Bool) (x:List Nat):List Nat:=sl (some (rfindT b x [47] + 1)) none x
noncomputable def headT (b:Bool) (x:List Nat):List Nat:=sl none (some (rfindT b x [47] + 1)) x
noncomputable def dirnameT (b:Bool) (x:List Nat):List Nat :=
  if (!(headT b x).isEmpty && (headT b x != List.replicate (headT b x).length 47)) = true then rstripT b (headT b x) [47] else headT b x
theorem okTx.sl {b:Bool}{x:List Nat}{lo hi:Option Int}(h:okTx b x):okTx b (sl lo hi x):=⟨Nat.le_trans (kj2 lo hi x) h.1,fun hb c hc=>h.2 hb c (sl_mem hc)⟩
theorem okTx.sep {b:Bool} : okTx b [47]:=⟨by decide,fun _ c hc=>by simp at hc; lia⟩
theorem okTx.rep {b:Bool}{k c:Nat}(hk:k ≤ 1000) (hc:c < 128):okTx b (List.replicate k c):=⟨by simpa using hk,fun _ d hd=>by have:=List.eq_of_mem_replicate hd; lia⟩
section
variable {w:World}{h₀:Heap}(G:Gr w h₀)
include G
theorem kgb {b:Bool}{x:List Nat} : CallR w h₀ 2 (.ref 124) [tx b x] (tx b [47]):=by
  refine kaq (vars:=[("path", .loc)]) ⟨⟨_,G.K 124 _ rfl,rfl⟩,rfl,rfl,rfl,rfl,⟨_,_,_,_,rfl,G.K _ _ rfl,rfl,rfl⟩,rfl,rfl,G.lim,by decide +kernel,rfl⟩ (kaa (len1 fun _=>?_)) ?_
  · rfl
  · refine ka4 (ss_if (kap (ka8 (ka3 (kbp G) (by decide +kernel)) (.inl ⟨_,rfl⟩) (.cons rfl (ka0 .z) (.cons rfl (ka3 (kda G) (by decide +kernel)) .nil)) kc4) kau) (fun hb=>?_) fun hb=>?_)
    · subst hb; exact ka4 (kab kci)
    · subst hb; exact ka4 (kab kag)
theorem kdn:Cal h₀ (.ref 124):=.inr (.inr ⟨_,_,_,rfl,G.K 124 _ rfl,rfl⟩)
theorem kc5 {b:Bool}{x:List Nat} : CallR w h₀ 2 (.ref 110) [tx b x] (tx b x):=by
  refine kaq (vars:=[("path", .loc),("kind", .loc)]) ⟨⟨_,G.K 110 _ rfl,rfl⟩,rfl,rfl,rfl,rfl,⟨_,_,_,_,rfl,G.K _ _ rfl,rfl,rfl⟩,rfl,rfl,G.lim,by decide +kernel,rfl⟩ (kaa (len1 fun _=>?_)) ?_
  · rfl
  · refine ka5 (ka1 (ka8 (ka3 (gv_type G) (by decide +kernel)) (.inr (.inl ⟨_,rfl⟩)) (.cons rfl (ka0 .z) .nil) type_tx) (.s .z)) ?_
    refine kdh (ss_if (kap (ka8 (ka3 (kic G) (by decide +kernel)) (.inl ⟨_,rfl⟩) (.cons rfl (ka0 (.s .z)) (.cons rfl (kb4 (.cons rfl (ka3 (gv_str G) (by decide +kernel)) (.cons rfl (ka3 (kda G) (by decide +kernel)) .nil))) .nil)) issub_tx) kau)
      (fun _=>ka4 (kab (ka0 .z))) (fun h=>by cases h)) rfl
theorem kbu:Cal h₀ (.ref 110):=.inr (.inr ⟨_,_,_,rfl,G.K 110 _ rfl,rfl⟩)
theorem f_basename {b:Bool}{x:List Nat}(hx:okTx b x) (hl:1 ≤ x.length):CallR w h₀ 4 (.ref 145) [tx b x] (tx b (basenameT b x)):=by
  refine kaq (vars:=[("p", .loc),("sep", .loc),("i", .loc)]) ⟨⟨_,G.K 145 _ rfl,rfl⟩,rfl,rfl,rfl,rfl,⟨_,_,_,_,rfl,G.K _ _ rfl,rfl,rfl⟩,rfl,rfl,G.lim,by decide +kernel,rfl⟩ (kaa (len1 fun _=>?_)) ?_
  · rfl
  · refine ka5 (ka1 (ka8 (ka3 (kc0 G) (by decide +kernel)) (kbu G) (.cons rfl (ka0 .z) .nil) ((kc5 G).mono (by decide))) .z) ?_
    refine ka5 (ka1 (ka8 (ka3 (kep G) (by decide +kernel)) (kdn G) (.cons rfl (ka0 .z) .nil) ((kgb G).mono (by decide))) (.s .z)) ?_
    refine ka5 (ka1 (kad (kbj (ka0 .z) m_rfind (.cons rfl (ka0 (.s .z)) .nil) (khj (.inl hl))) ka7 kal) (.s (.s .z))) ?_
    exact ka4 (kab (kav (ka0 .z) (.some (ka0 (.s (.s .z)))) .none .none (kf6 hx)))
theorem ke5 {b:Bool}{x:List Nat}(hx:okTx b x) (hl:1 ≤ x.length):CallR w h₀ 4 (.ref 152) [tx b x] (tx b (dirnameT b x)):=by
  refine kaq (vars:=[("p", .loc),("sep", .loc),("i", .loc),("head", .loc)]) ⟨⟨_,G.K 152 _ rfl,rfl⟩,rfl,rfl,rfl,rfl,⟨_,_,_,_,rfl,G.K _ _ rfl,rfl,rfl⟩,rfl,rfl,G.lim,by decide +kernel,rfl⟩ (kaa (len1 fun _=>?_)) ?_
  · rfl
  · refine ka5 (ka1 (ka8 (ka3 (kc0 G) (by decide +kernel)) (kbu G) (.cons rfl (ka0 .z) .nil) ((kc5 G).mono (by decide))) .z) ?_
    refine ka5 (ka1 (ka8 (ka3 (kep G) (by decide +kernel)) (kdn G) (.cons rfl (ka0 .z) .nil) ((kgb G).mono (by decide))) (.s .z)) ?_
    refine ka5 (ka1 (kad (kbj (ka0 .z) m_rfind (.cons rfl (ka0 (.s .z)) .nil) (khj (.inl hl))) ka7 kal) (.s (.s .z))) ?_
    refine ka5 (ka1 (d:=tx b (headT b x)) (kav (ka0 .z) .none (.some (ka0 (.s (.s .z)))) .none (kf6 hx)) (.s (.s (.s .z)))) ?_
    have hh:okTx b (headT b x):=hx.sl
    refine ka5 (ω':=[]) (σ':=[⟨"p", .loc,some (tx b x)⟩,⟨"sep", .loc,some (tx b [47])⟩,⟨"i", .loc,some (.int (rfindT b x [47] + 1))⟩,⟨"head", .loc,some (tx b (dirnameT b x))⟩])
      (ss_if (kbv (kht (kap (ka0 (.s (.s (.s .z)))) (kf3 hh)) fun _=>kam (ka0 (.s (.s (.s .z)))) (kad (ka0 (.s .z)) (ka8 (ka3 (ke0 G) (by decide +kernel)) (.inl ⟨_,rfl⟩) (.cons rfl (ka0 (.s (.s (.s .z)))) .nil) (call_len_tx hh)) (bin_mul_tx hh.1)) (kbh hh (.rep hh.1 (by decide))))) (fun hc=>?_) fun hc=>?_) ?_
    · have e:dirnameT b x = rstripT b (headT b x) [47]:=by unfold dirnameT; rw [if_pos hc]
      rw [e]
      exact ka4 (ka1 (kbj (ka0 (.s (.s (.s .z)))) m_rstrip (.cons rfl (ka0 (.s .z)) .nil) (call_rstrip hh)) (.s (.s (.s .z))))
    · have e:dirnameT b x = headT b x:=by unfold dirnameT; rw [if_neg (by rw [hc]; exact Bool.false_ne_true)]
      rw [e]
      exact kbw
    · exact ka4 (kab (ka0 (.s (.s (.s .z)))))
end
end
section
open PySem.Builtin PySem.Builtin.Str
section
variable {w:World}{h₀:Heap}{n:Nat}{sc:Scope}{ω ω':Owns}{σ σ':List Var}
theorem kaw {h:Heap}{a:Addr}{o:Obj}{vs:Array Value}(ho:h.get? a = some o) (hd:o.data = .fields vs) (hv:∀ x t,vs[1]? ≠ some (.str x t)) (q:Str):¬ h.CodeRec (.ref a) q:=fun ⟨_,o',vs',t,e,g,hd',e'⟩=>by
  cases e
  rw [ho] at g; cases g
  rw [hd] at hd'; cases hd'
  exact hv _ _ e'
theorem kae {ds:List D} : IterR w h₀ n (.list ds) ds:=fun A X s v rm O r Q E h=>by
  obtain ⟨l,vs,rfl,hl,hX,rs⟩:=r.list_eq
  have hlt:l < s.heap.objs.size:=let ⟨o,ho,_⟩:=hl; Heap.lt_size ho
  have hne:l ≠ s.heap.objs.size:=Nat.ne_of_lt hlt
  refine wpAny_pyIter_list hl (h _ [s.heap.objs.size,l] (fun i v=>vs.toArray[i]? = some v) (fun i h=>h.IsListIter s.heap.objs.size l i ∧ h.IsList l vs.toArray) _ (.push O.gi _ s.toks) O.fresh (Heap.get?_none_of_le (Nat.le_refl _)) ⟨?_,⟨⟨_,Heap.get?_push_size _ rfl,rfl,rfl⟩,hl.push _⟩,fun b hb=>?_,fun i h' st=>?_,fun i v d hv hd=>?_⟩)
  · have W:=Walks.list (prog:=prog) (w:=w) (A:=A) rm.handled s.heap.objs.size l hne vs.toArray
    have e:vs.toArray.size = ds.length:=by rw [List.size_toArray,rs.length]
    rw [e] at W; exact W
  · rcases List.mem_cons.mp hb with q | hb
    · exact .inl q
    · rw [List.mem_singleton.mp hb]
      obtain ⟨o,ho,_⟩:=hl
      exact .inr ⟨hX,o,Heap.get?_push_of_some _ ho⟩
  · obtain ⟨o,ho,hc,hd⟩:=st.1
    exact ⟨o,_,_,ho,hd,kaw ho hd (fun x t e=>by simp at e),hc,by decide⟩
  · obtain ⟨v',h1,h2⟩:=rs.get hd
    have:v' = v:=by
      have hv':vs.toArray[i]? = some v:=hv
      rw [List.getElem?_toArray,h1] at hv'
      exact Option.some.inj hv'
    subst this
    exact h2.nx (.push O.gi _ s.toks) O.tabX
theorem keo {ds:List D} : IterR w h₀ n (.tuple ds) ds:=fun A X s v rm O r Q E h=>by
  obtain ⟨l,vs,rfl,hl,hX,rs⟩:=r.tuple_eq
  have hlt:l < s.heap.objs.size:=let ⟨o,ho,_⟩:=hl; Heap.lt_size ho
  have hne:l ≠ s.heap.objs.size:=Nat.ne_of_lt hlt
  refine wpAny_pyIter_tuple hl (h _ [s.heap.objs.size,l] (fun i v=>vs.toArray[i]? = some v) (fun i h=>h.IsTupleIter s.heap.objs.size l i ∧ h.IsTuple l vs.toArray) _ (.push O.gi _ s.toks) O.fresh (Heap.get?_none_of_le (Nat.le_refl _)) ⟨?_,⟨⟨_,Heap.get?_push_size _ rfl,rfl,rfl⟩,hl.push _⟩,fun b hb=>?_,fun i h' st=>?_,fun i v d hv hd=>?_⟩)
  · have W:=Walks.tuple (prog:=prog) (w:=w) (A:=A) rm.handled s.heap.objs.size l hne vs.toArray
    have e:vs.toArray.size = ds.length:=by rw [List.size_toArray,rs.length]
    rw [e] at W; exact W
  · rcases List.mem_cons.mp hb with q | hb
    · exact .inl q
    · rw [List.mem_singleton.mp hb]
      obtain ⟨o,ho,_⟩:=hl
      exact .inr ⟨hX,o,Heap.get?_push_of_some _ ho⟩
  · obtain ⟨o,ho,hc,hd⟩:=st.1
    exact ⟨o,_,_,ho,hd,kaw ho hd (fun x t e=>by simp at e),hc,by decide⟩
  · obtain ⟨v',h1,h2⟩:=rs.get hd
    have:v' = v:=by
      have hv':vs.toArray[i]? = some v:=hv
      rw [List.getElem?_toArray,h1] at hv'
      exact Option.some.inj hv'
    subst this
    exact h2.nx (.push O.gi _ s.toks) O.tabX
inductive Upds:List Var → List Expr → List D → List Var → Prop
  | nil {σ:List Var} : Upds σ [] [] σ
  | cons {σ σ₁ σ₂:List Var}{x:Str}{p:Pos}{k:VK}{d:D}{es:List Expr}{ds:List D}(hk:k ≠ .ext):Upd σ x k d σ₁ → Upds σ₁ es ds σ₂ → Upds σ (.Name x p :: es) (d :: ds) σ₂
theorem Upds.each {es:List Expr}{ds:List D}{env:Env}(U:Upds σ es ds σ'):(assignEach es env).length = ds.length ∧ (assignEach es env).findIdx? (·.1) = none:=by
  induction U with
  | nil=>exact ⟨rfl,rfl⟩
  | cons _ _ _ ih =>
    refine ⟨?_, ?_⟩
    · show ((false,_) :: assignEach _ env).length = _
      rw [List.length_cons,List.length_cons,ih.1]
    · show ((false,_) :: assignEach _ env).findIdx? _ = none
      rw [List.findIdx?_cons,if_neg (by simp),ih.2]; rfl
theorem kgz {A:Around}{env:Env}{X:List Addr}{s0:Shared}{E:Value → Shared → Prop}{es:List Expr}{ds:List D}{vs:List Value}{σ σ':List Var}{s:Shared}{Q:Unit → Shared → Prop}(H:Upds σ es ds σ') (S:St h₀ sc env X s0 ω σ s) (r:RAll X s.heap vs ds)
    (h:∀ s',Grow X s X s' → St h₀ sc env X s0 ω σ' s' → Q () s'):wpAny (model prog w) A (assignInOrder ((assignEach es env).map (·.2)) vs) Q E s:=by
  induction H generalizing vs s with
  | nil=>cases r; exact wpAny_pure (h s (.refl X s) S)
  | cons hk U Us ih =>
    cases r with
    | cons r1 r2 =>
      show wpAny _ A (do holding _ (assign _ env _); assignInOrder ((assignEach _ env).map (·.2)) _) Q E s
      exact wpAny_bind (wpAny_holding (wpAny_assign_Name (S.store U hk r1 fun s₁ g₁ S₁=>ih S₁ (r2.grow g₁) fun s' g' S'=>h s' (g₁.trans g') S')))
theorem ked {es:List Expr}{ds:List D}{k:Nat}{p:Pos}(U:Upds σ es ds σ'):AsgR w h₀ n sc ω (.Tuple es k p) (.tuple ds) σ σ':=fun A env X s0 s v Q E rm S r h=>by
  obtain ⟨t,vs,rfl,ht,hX,rs⟩:=r.tuple_eq
  obtain ⟨u1,u2⟩:=U.each (env:=env)
  refine wpAny_assign_Tuple rm.handled ht (by rw [u1,List.size_toArray,rs.length]) u2 fun h' he=>?_
  have hk:∀ b o,s.heap.get? b = some o → h'.get? b = some o:=fun b o e=>he b o (Nat.ne_of_lt (Heap.lt_size e)) e
  have n₁:Nx h₀ s { s with heap:=h' }:=.of_keeps S.gi ⟨h',s.toks,rfl,hk⟩
  exact kgz (vs:=vs) U (S.nx n₁) (rs.nx n₁ S.tabX) fun s' g' S'=>h s' ((Grow.of_nx n₁ S.tabX).trans g') S'
theorem khw {e:Expr}{es:List Expr}{ds:List D}{k:Nat}{p pos:Pos}(he:EV w h₀ n sc ω σ e (.tuple ds)) (U:Upds σ es ds σ')
    (hs:∀ env,swapsWithSole [.Tuple es k p] e pos.line env = pure false:=by intro _; rfl) (hw:∀ env,swappedStores [.Tuple es k p] e env = pure none:=by intro _; rfl):SS w h₀ n sc ω σ (.Assign [.Tuple es k p] e pos) (.next ω σ') :=
  fun A env X s0 s Q E rm S h=>Assign_Tuple (he A env X s0 s rm S _ _ fun v s₁ n₁ r=>ked U A env X s0 s₁ v _ _ rm (S.nx n₁) r fun s₂ g₂ S₂=>h _ _ ⟨X,(Grow.of_nx n₁ S.tabX).trans g₂,S₂⟩) (hs env) (hw env)
theorem Own.perm {X:List Addr}{s0 s:Shared}(O:Own X s0 s ω) (p:ω.Perm ω'):Own X s0 s ω':=⟨(p.map _).nodup_iff.mp O.nd,fun q hq=>O.is q (p.mem_iff.mpr hq)⟩
theorem St.perm {env:Env}{X:List Addr}{s0 s:Shared}(S:St h₀ sc env X s0 ω σ s) (p:ω.Perm ω'):St h₀ sc env X s0 ω' σ s:={ S with owns:=S.owns.perm p }
theorem kh3 {x:Str}{k:VK}{p p' pos:Pos}{rest:List Stmt}{out:Out}{τ:Addr → List Var}(U:∀ a,Upd σ x k (.val (.ref a)) (τ a)) (hk:k ≠ .ext) (h:∀ a,SX w h₀ n sc ((a, .lst []) :: ω) (τ a) rest out):SX w h₀ n sc ω σ (.Assign [.Name x p] (.List [] p') pos :: rest) out :=
  fun A env X s0 s Q E rm S hq=>by
    refine wpAny_execs_cons (wpAny_Assign_Name ?_ rfl)
    show wpAny _ A (do standAt p'; newList (← spliced [])) _ _ s
    refine wpAny_bind (wpAny_standAt (wpAny_bind (spliced_nil (wpAny_newObj_type ?_))))
    have n₁:Nx h₀ s { s with heap:=s.heap.push { cls:=.type "list",dict:=none,data:=.seq ([]:List Value).toArray } }:=.push S.gi _ s.toks
    have hn:s.heap.get? s.heap.objs.size = none:=Heap.get?_none_of_le (Nat.le_refl _)
    have S₁:St h₀ sc env (s.heap.objs.size :: X) s0 ((s.heap.objs.size, .lst []) :: ω) σ { s with heap:=s.heap.push { cls:=.type "list",dict:=none,data:=.seq ([]:List Value).toArray } } :=
      S.adopt n₁ hn ⟨_,Heap.get?_push_size _ rfl⟩ ⟨[],⟨_,Heap.get?_push_size _ rfl⟩, .nil⟩
    refine S₁.store (U _) hk (.val _) fun s₂ g₂ S₂=>?_
    exact h _ A env _ s0 s₂ Q E rm S₂ fun fl s' oo=>hq fl s' (oo.back ((Grow.adopt n₁ S.tabX hn).trans g₂))
end
end
section
open PySem.Builtin PySem.Builtin.Str
theorem okTx.app {b:Bool}{x y:List Nat}(hx:okTx b x) (hy:okTx b y) (hl:x.length + y.length ≤ 1000):okTx b (x ++ y):=⟨by rw [List.length_append]; exact hl,fun hb c hc=>(List.mem_append.mp hc).elim (hx.2 hb c) (hy.2 hb c)⟩
noncomputable def splitrootT (x:List Nat):List Nat × List Nat :=
  if sl none (some 1) x ≠ [47] then ([],x)
  else if sl (some 1) (some 2) x ≠ [47] ∨ sl (some 2) (some 3) x = [47] then ([47],sl (some 1) none x)
  else (sl none (some 2) x,sl (some 2) none x)
noncomputable def joinT (b:Bool) (x y:List Nat):List Nat :=
  if (startsT b y [47] || x.isEmpty) = true then y
  else if endsT b x [47] = true then x ++ y
  else x ++ ([47] ++ y)
section
variable {w:World}{h₀:Heap}(G:Gr w h₀)
include G
theorem f_splitroot {b:Bool}{x:List Nat}(hx:okTx b x):CallR w h₀ 4 (.ref 138) [tx b x] (.tuple [tx b [],tx b (splitrootT x).1,tx b (splitrootT x).2]):=by
  refine kaq (vars:=[("p", .loc),("sep", .loc),("empty", .loc)]) ⟨⟨_,G.K 138 _ rfl,rfl⟩,rfl,rfl,rfl,rfl,⟨_,_,_,_,rfl,G.K _ _ rfl,rfl,rfl⟩,rfl,rfl,G.lim,by decide +kernel,rfl⟩ (kaa (len1 fun _=>?_)) ?_
  · rfl
  · refine ka5 (ka1 (ka8 (ka3 (kc0 G) (by decide +kernel)) (kbu G) (.cons rfl (ka0 .z) .nil) ((kc5 G).mono (by decide))) .z) ?_
    refine ka5 (ω':=[]) (σ':=[⟨"p", .loc,some (tx b x)⟩,⟨"sep", .loc,some (tx b [47])⟩,⟨"empty", .loc,some (tx b [])⟩])
      (ss_if (kap (ka8 (ka3 (kbp G) (by decide +kernel)) (.inl ⟨_,rfl⟩) (.cons rfl (ka0 .z) (.cons rfl (ka3 (kda G) (by decide +kernel)) .nil)) kc4) kau) (fun hb=>?_) fun hb=>?_) ?_
    · subst hb; exact ka5 (ka1 kci (.s .z)) (ka4 (ka1 kci (.s (.s .z))))
    · subst hb; exact ka5 (ka1 kag (.s .z)) (ka4 (ka1 kag (.s (.s .z))))
    refine ka4 (ss_if (kam (kav (ka0 .z) .none (.some ka7) .none (kf6 hx)) (ka0 (.s .z)) (kbh hx.sl okTx.sep)) (fun h1=>?_) fun h1=>?_)
    · have e:splitrootT x = ([],x):=by unfold splitrootT; rw [if_pos (by simpa using h1)]
      rw [e]
      exact ka4 (kab (kb4 (.cons rfl (ka0 (.s (.s .z))) (.cons rfl (ka0 (.s (.s .z))) (.cons rfl (ka0 .z) .nil)))))
    · have h1':¬ (sl none (some 1) x ≠ [47]):=by simpa using h1
      refine ka4 (ss_if (kbv (kfv (kam (kav (ka0 .z) (.some ka7) (.some ka7) .none (kf6 hx)) (ka0 (.s .z)) (kbh hx.sl okTx.sep)) fun _=>kam (kav (ka0 .z) (.some ka7) (.some ka7) .none (kf6 hx)) (ka0 (.s .z)) (kb6 hx.sl okTx.sep))) (fun h2=>?_) fun h2=>?_)
      · have e:splitrootT x = ([47],sl (some 1) none x):=by unfold splitrootT; rw [if_neg h1',if_pos (by simpa using h2)]
        rw [e]
        exact ka4 (kab (kb4 (.cons rfl (ka0 (.s (.s .z))) (.cons rfl (ka0 (.s .z)) (.cons rfl (kav (ka0 .z) (.some ka7) .none .none (kf6 hx)) .nil)))))
      · have h2':¬ (sl (some 1) (some 2) x ≠ [47] ∨ sl (some 2) (some 3) x = [47]):=by simpa using h2
        have e:splitrootT x = (sl none (some 2) x,sl (some 2) none x):=by unfold splitrootT; rw [if_neg h1',if_neg h2']
        rw [e]
        exact ka4 (kab (kb4 (.cons rfl (ka0 (.s (.s .z))) (.cons rfl (kav (ka0 .z) .none (.some ka7) .none (kf6 hx)) (.cons rfl (kav (ka0 .z) (.some ka7) .none .none (kf6 hx)) .nil)))))
theorem kin:Cal h₀ (.ref 138):=.inr (.inr ⟨_,_,_,rfl,G.K 138 _ rfl,rfl⟩)
theorem f_join {b:Bool}{x y:List Nat}(hx:okTx b x) (hy:okTx b y) (hl:x.length + y.length < 1000):CallR w h₀ 4 (.ref 131) [tx b x,tx b y] (tx b (joinT b x y)):=by
  refine kaq (vars:=[("a", .loc),("p", .loc),("sep", .loc),("path", .loc),("b", .loc)]) (ds':=[tx b x, .tuple [tx b y]]) ⟨⟨_,G.K 131 _ rfl,rfl⟩,rfl,rfl,rfl,rfl,⟨_,_,_,_,rfl,G.K _ _ rfl,rfl,rfl⟩,rfl,rfl,G.lim,by decide +kernel,rfl⟩ ?_ ?_
  · intro A X s vs Q E O rs hq
    obtain ⟨v,u,rfl,r1,r2⟩:=rs.two
    show wpAny _ A (do let t ← newTuple [u]; pure [(("a" : Str),v),(("p" : Str),t)]) Q E s
    have n₁:Nx h₀ s { s with heap:=s.heap.push { cls:=.type "tuple",dict:=none,data:=.seq ([u]:List Value).toArray } }:=.push O.gi _ s.toks
    refine wpAny_bind (wpAny_newObj_type (wpAny_pure (hq [v, .ref s.heap.objs.size] _ n₁ (Nat.le_of_ble_eq_true rfl) (.cons (r1.nx n₁ O.tabX) (.cons (.tuple ⟨_,Heap.get?_push_size _ rfl,rfl,_,rfl⟩ O.fresh (.cons (r2.nx n₁ O.tabX) .nil)) .nil)))) ?_)
    show 1 ≤ sizeLine
    rw [sizeLine_eq]; lia
  · refine ka5 (ka1 (ka8 (ka3 (kc0 G) (by decide +kernel)) (kbu G) (.cons rfl (ka0 .z) .nil) ((kc5 G).mono (by decide))) .z) ?_
    refine ka5 (ka1 (ka8 (ka3 (kep G) (by decide +kernel)) (kdn G) (.cons rfl (ka0 .z) .nil) ((kgb G).mono (by decide))) (.s (.s .z))) ?_
    refine ka5 (ka1 (ka0 .z) (.s (.s (.s .z)))) ?_
    refine ka5 (ω':=[]) (σ':=[⟨"a", .loc,some (tx b x)⟩,⟨"p", .loc,some (.tuple [tx b y])⟩,⟨"sep", .loc,some (tx b [47])⟩,⟨"path", .loc,some (tx b (joinT b x y))⟩,⟨"b", .loc,some (tx b y)⟩])
      (ss_try (ka4 (kdt (.of (ka0 (.s .z)) keo) (.next (fun p=>kac (.s (.s (.s (.s .z))))) (fun p=>?_) .nil))) rfl) (ka4 (kab (ka0 (.s (.s (.s .z))))))
    refine ka5 (ka1 (ka8 (ka3 (kc0 G) (by decide +kernel)) (kbu G) (.cons rfl (ka0 (.s (.s (.s (.s .z))))) .nil) ((kc5 G).mono (by decide))) (.s (.s (.s (.s .z))))) ?_
    refine ka4 (ss_if (kbv (kfv (kap (kbj (ka0 (.s (.s (.s (.s .z))))) m_starts (.cons rfl (ka0 (.s (.s .z))) .nil) kgh) kau) fun _=>kfw (kap (ka0 (.s (.s (.s .z)))) (kf3 hx)))) (fun h1=>?_) fun h1=>?_)
    · have e:joinT b x y = y:=by unfold joinT; rw [if_pos (by simpa using h1)]
      rw [e]
      exact ka4 (ka1 (ka0 (.s (.s (.s (.s .z))))) (.s (.s (.s .z))))
    · have h1':¬ ((startsT b y [47] || x.isEmpty) = true):=by rw [Bool.not_not] at h1; rw [h1]; exact Bool.false_ne_true
      refine ka4 (ss_if (kap (kbj (ka0 (.s (.s (.s .z)))) m_ends (.cons rfl (ka0 (.s (.s .z))) .nil) call_ends) kau) (fun h2=>?_) fun h2=>?_)
      · have e:joinT b x y = x ++ y:=by unfold joinT; rw [if_neg h1',if_pos h2]
        rw [e]
        exact ka4 (ss_aug (.s (.s (.s .z))) (ka0 (.s (.s (.s (.s .z))))) (kha hx hy) (.s (.s (.s .z))))
      · have e:joinT b x y = x ++ ([47] ++ y):=by unfold joinT; rw [if_neg h1',if_neg (by rw [h2]; exact Bool.false_ne_true)]
        rw [e]
        exact ka4 (ss_aug (.s (.s (.s .z))) (kad (ka0 (.s (.s .z))) (ka0 (.s (.s (.s (.s .z))))) (kex .sep hy)) (kha hx (okTx.sep.app hy (by simp; lia))) (.s (.s (.s .z))))
theorem cal_join:Cal h₀ (.ref 131):=.inr (.inr ⟨_,_,_,rfl,G.K 131 _ rfl,rfl⟩)
end
end
section
open PySem.Builtin PySem.Builtin.Str
inductive OUpd:Owns → Addr → Cn → Cn → Owns → Prop
  | z {a:Addr}{c c':Cn}{ω:Owns} : OUpd ((a,c) :: ω) a c c' ((a,c') :: ω)
  | s {p:Addr × Cn}{a:Addr}{c c':Cn}{ω ω':Owns} : OUpd ω a c c' ω' → OUpd (p :: ω) a c c' (p :: ω')
set_option tactic.hygienic true in
theorem OUpd.perm {ω ω':Owns}{a:Addr}{c c':Cn}(u:OUpd ω a c c' ω'):∃ ω₀,ω.Perm ((a,c) :: ω₀) ∧ ((a,c') :: ω₀).Perm ω':=by
  induction u with
  | z=>exact ⟨_, .refl _, .refl _⟩
  | s _ ih =>
    rename_i p a c c' ω ω' _
    obtain ⟨ω₀,h1,h2⟩:=ih
    exact ⟨p :: ω₀,(h1.cons p).trans (.swap _ _ _),(List.Perm.swap _ _ _).trans (h2.cons p)⟩
theorem OUpd.mem {ω ω':Owns}{a:Addr}{c c':Cn}(u:OUpd ω a c c' ω'):(a,c) ∈ ω:=by
  induction u with
  | z=>exact .head _
  | s _ ih=>exact .tail _ ih
section
variable {w:World}{h₀:Heap}{n:Nat}{sc:Scope}{ω ω':Owns}{σ σ':List Var}
theorem kbc {h:Heap}{a:Addr}{its:Array Value}(x:h.PlainList a its) (q:Str):¬ h.CodeRec (.ref a) q:=fun ⟨_,o',vs',t,e,g,hd',e'⟩=>by
  obtain ⟨k,e1⟩:=x
  cases e
  rw [e1] at g; cases g; cases hd'
theorem St.turnList {env:Env}{X:List Addr}{s0 s:Shared}{a:Addr}{ds ds':List D}{vs:List Value}{h':Heap}{tk:Nat}(S:St h₀ sc env X s0 ω σ s) (u:OUpd ω a (.lst ds) (.lst ds') ω') (hs:Heap.SameBut a s.heap h') (hl:h'.PlainList a vs.toArray) (hr:RAll X s.heap vs ds') :
    St h₀ sc env X s0 ω' σ { s with heap:=h',toks:=tk } ∧ Grow X s X { s with heap:=h',toks:=tk }:=by
  obtain ⟨ω₀,p1,p2⟩:=u.perm
  obtain ⟨h1,h2,us,h3,h4⟩:=S.owns.is _ u.mem
  have hk:∀ b o,b ≠ a → s.heap.get? b = some o → h'.get? b = some o:=fun b o hb e=>(hs.2 b hb).trans e
  refine ⟨((S.perm p1).turnObj hk (kbc h3) (let ⟨k,e⟩:=hl; ⟨_,e⟩) (c':=.lst ds') ⟨vs,hl,hr.keep fun b o hb e=>hk b o (fun q=>hb (q ▸ h1)) e⟩).perm p2, .of_turn h1 hs⟩
theorem wp_meth {x name:Str}{k:VK}{v:Value}{xp apos pos:Pos}{args:List Expr}{id:String}{ds:List D}{A:Around}{env:Env}{X:List Addr}{s0 s:Shared}{Q:Value → Shared → Prop}{E:Value → Shared → Prop}(rm:Room A n) (S:St h₀ sc env X s0 ω σ s) (hx:Has σ x k (.val v))
    (hg:∀ s' pl (Q:Value × List Value → Shared → Prop) E,Nx h₀ s s' → Q (.builtin id,[v]) s' → wpAny (model prog w) A (getMethod v name pl) Q E s') (ha:EVs w h₀ n sc ω σ args ds)
    (h:∀ vs s',Nx h₀ s s' → RAll X s'.heap vs ds → wpAny (model prog w) A (call (.builtin id) (v :: vs)) Q E s')
    (hp:(apos.endLine == pos.line) = true) (hl:args.length < 29):wpAny (model prog w) A (eval (.Call (.Attribute (.Name x xp) name apos) args [] pos) env) Q E s:=by
  show wpAny _ A (do
    let ov ← eval (.Name x xp) env
    standAt apos.atName
    methodCall (.Name x xp) name apos pos env ov (args.length + 0) (backTo pos (starEach args env)) []) Q E s
  refine wpAny_bind (ka0 hx A env X s0 s rm S _ _ fun v' s₁ n₁ rv=>wpAny_bind (wpAny_standAt ?_))
  have:=rv.val_eq; subst this
  have hform:methodCallForm (args.length + 0) (backTo pos (starEach args env)) [] = true:=by
    have e:=ha.noStar (env:=env) (pos:=pos)
    unfold methodCallForm
    rw [List.all_eq_not_any_not]
    simp only [Bool.not_not,e,List.all_nil,List.isEmpty_nil,if_true]
    simpa using Nat.lt_succ_of_lt hl
  unfold methodCall calleeOf methodCallPos
  rw [hform]
  simp only [if_true,Bool.not_true,Bool.false_or,hp]
  refine wpAny_bind (wpAny_holding (hg s₁ _ _ _ n₁ (wpAny_bind (wpAny_pure ?_))))
  exact kb0 rm (.inl ⟨id,rfl⟩) ha (S.nx n₁) fun vs s₂ n₂ rs=>h vs s₂ (n₁.trans n₂) rs
theorem kc3 {env:Env}{X:List Addr}{s0 s:Shared}{a:Addr}{ds:List D}(S:St h₀ sc env X s0 ω σ s) (hm:(a, .lst ds) ∈ ω):∃ vs:List Value,s.heap.PlainList a vs.toArray ∧ RAll X s.heap vs ds:=(S.owns.is _ hm).2.2
theorem kkf {A:Around}{s:Shared}{a:Addr}{its:Array Value}{name:Str}{id:String}{pl:Sem Bool}{Q:Value × List Value → Shared → Prop}{E:Value → Shared → Prop}(hl:s.heap.PlainList a its) (slot:Slot "list" name id) (hty:typeOf (.builtin id) = pure (.type "method_descriptor"))
    (h:Q (.builtin id,[.ref a]) s):wpAny (model prog w) A (getMethod (.ref a) name pl) Q E s :=
  getMethod_builtin hl.isList.typeIs F.plainAttrs_list slot hty (fun b e=>by cases e; obtain ⟨k,e⟩:=hl; exact ⟨_,e,rfl⟩) h
theorem St.quiet {env:Env}{X:List Addr}{s0 s:Shared}(S:St h₀ sc env X s0 ω σ s):interactive env = false:=by
  unfold interactive; rw [S.kind]; rfl
theorem kiz {x:Str}{k:VK}{a:Addr}{e:Expr}{d:D}{ds:List D}{xp apos pos pos':Pos}(hx:Has σ x k (.val (.ref a))) (he:EV w h₀ n sc ω σ e d) (u:OUpd ω a (.lst ds) (.lst (ds ++ [d])) ω') (hz:ds.length ≤ 1000) (ns:isStarred e = false:=by rfl)
    (hp:(apos.endLine == pos.line) = true:=by rfl):SS w h₀ n sc ω σ (.Expr (.Call (.Attribute (.Name x xp) "append" apos) [e] [] pos) pos') (.next ω' σ):=fun A env X s0 s Q E rm S h=>by
  refine wpAny_Expr (wp_meth (id := "list.append") rm S hx (fun s' pl Q E n' hq=>?_) (.cons ns he .nil) (fun vs s' n' rs=>?_) hp (Nat.le_of_ble_eq_true rfl)) S.quiet
  · obtain ⟨vs,h1,_⟩:=kc3 (S.nx n') u.mem
    exact kkf h1 F.slot_list_append F.type_list_append hq
  · obtain ⟨v,rfl,r⟩:=rs.one
    have S':=S.nx n'
    obtain ⟨vs,h1,h2⟩:=kc3 S' u.mem
    refine wpAny_list_append_plain h1 (fun h' hl hs=>?_) (by rw [List.size_toArray,h2.length,sizeLine_eq]; lia)
    have e':vs.toArray.push v = (vs ++ [v]).toArray:=by simp
    rw [e'] at hl
    obtain ⟨S₂,g₂⟩:=S'.turnList (tk:=s'.toks) u hs hl (h2.append (.cons r .nil))
    exact h _ _ ⟨X,(Grow.of_nx n' S.tabX).trans g₂,S₂⟩
theorem RAll.dropLast {X:List Addr}{h:Heap}{vs:List Value}{ds:List D}(r:RAll X h vs ds):RAll X h vs.dropLast ds.dropLast :=
  r.ind (P:=fun vs ds=>RAll X h vs.dropLast ds.dropLast) .nil fun hd r ih=>by cases r with | nil=>exact .nil | cons _ _=>exact .cons hd ih
theorem ss_pop {x:Str}{k:VK}{a:Addr}{ds:List D}{xp apos pos pos':Pos}(hx:Has σ x k (.val (.ref a))) (u:OUpd ω a (.lst ds) (.lst ds.dropLast) ω') (hne:ds ≠ []) (hz:ds.length ≤ 1000)
    (hp:(apos.endLine == pos.line) = true:=by rfl):SS w h₀ n sc ω σ (.Expr (.Call (.Attribute (.Name x xp) "pop" apos) [] [] pos) pos') (.next ω' σ):=fun A env X s0 s Q E rm S h=>by
  refine wpAny_Expr_any (wp_meth (id := "list.pop") rm S hx (fun s' pl Q E n' hq=>?_) .nil (fun vs s' n' rs=>?_) hp (Nat.le_of_ble_eq_true rfl)) S.quiet
  · obtain ⟨vs,h1,_⟩:=kc3 (S.nx n') u.mem
    exact kkf h1 F.slot_list_pop F.type_list_pop hq
  · cases rs
    have S':=S.nx n'
    obtain ⟨vs,h1,h2⟩:=kc3 S' u.mem
    have hl:=h2.length
    have hpos:0 < vs.length:=by rw [hl]; exact List.length_pos_iff.mpr hne
    have hy:vs.toArray[vs.toArray.size - 1]? = some (vs.getLast (List.length_pos_iff.mp hpos)):=by
      rw [List.getElem?_toArray,List.size_toArray,List.getLast_eq_getElem,List.getElem?_eq_getElem (by lia)]
    obtain ⟨k',e1⟩:=id h1
    refine call_meets F.slot_list_pop h1.isList.typeIs F.entry_list_pop (F.args_list_pop_1 _) (MeetsSeq.list_pop_last a vs.toArray k' _ hy (by rw [List.size_toArray,hl,sizeLine_eq]; lia)) ⟨e1, ?_⟩
    have e2:(vs.toArray.eraseIdxIfInBounds (vs.toArray.size - 1)) = vs.dropLast.toArray:=by
      unfold Array.eraseIdxIfInBounds
      rw [dif_pos (by rw [List.size_toArray]; lia)]
      simp [List.eraseIdx_length_sub_one]
    have e3:Obj.mapSeq (fun xs=>xs.eraseIdxIfInBounds (vs.toArray.size - 1)) { cls:=.type "list",data:=.seq vs.toArray k' } = { cls:=.type "list",data:=.seq vs.dropLast.toArray (k' + 1) }:=by
      simp only [Obj.mapSeq,e2]
      rw [if_neg]
      simp; lia
    have hpl:(s'.heap.update a (Obj.mapSeq fun xs=>xs.eraseIdxIfInBounds (vs.toArray.size - 1))).PlainList a vs.dropLast.toArray:=⟨_,by rw [Heap.get?_update_self _ e1 (by rw [e3]; rfl),e3]⟩
    obtain ⟨S₂,g₂⟩:=S'.turnList (tk:=s'.toks) u (Heap.SameBut.update ..) hpl h2.dropLast
    exact h _ _ ⟨X,(Grow.of_nx n' S.tabX).trans g₂,S₂⟩
theorem tv_own {x:Str}{k:VK}{a:Addr}{ds:List D}{xp:Pos}(hx:Has σ x k (.val (.ref a))) (hm:(a, .lst ds) ∈ ω) (hz:ds.length ≤ 1000):TV w h₀ n sc ω σ (.Name x xp) (!ds.isEmpty):=fun A env X s0 s rm S Q E hq=>by
  rw [kf8 rfl]
  refine wpAny_bind (ka0 hx A env X s0 s rm S _ _ fun va s₁ n₁ ra=>wpAny_bind (wpAny_standAt (wpAny_holding ?_)))
  have:=ra.val_eq; subst this
  obtain ⟨vs,h1,h2⟩:=kc3 (S.nx n₁) hm
  have hl:=h2.length
  refine wpAny_truthy_list h1.isList (by rw [List.size_toArray]; lia) ?_
  have e:(!vs.toArray.isEmpty) = !ds.isEmpty:=by
    cases vs <;> cases ds <;> simp_all
  rw [e]
  exact hq _ (n₁.trans (.tok n₁.2 _))
theorem RAll.last {X:List Addr}{h:Heap}{vs:List Value}{ds:List D}{d:D}(r:RAll X h vs ds) (hd:ds.getLast? = some d):∃ v,vs.getLast? = some v ∧ R X h v d:=by
  rw [List.getLast?_eq_getElem?] at hd ⊢
  rw [r.length]
  exact r.get hd
theorem ev_own_last {x:Str}{k:VK}{a:Addr}{ds:List D}{d:D}{xp pos:Pos}{slice:Expr}(hx:Has σ x k (.val (.ref a))) (hm:(a, .lst ds) ∈ ω) (hs:EV w h₀ n sc ω σ slice (.int (-1))) (hd:ds.getLast? = some d)
    (hsub:∀ o i,subscripted slice false o i = operate [o,i] (getItem o i):=by intro _ _; rfl):EV w h₀ n sc ω σ (.Subscript (.Name x xp) slice pos) d:=fun A env X s0 s rm S Q E hq =>
  Subscript_ (ka0 hx A env X s0 s rm S _ _ fun va s₁ n₁ ra=>hs A env X s0 s₁ rm (S.nx n₁) _ _ fun vi s₂ n₂ ri=>by
    have:=ra.val_eq; subst this
    obtain ⟨t,rfl⟩:=ri.int_eq
    obtain ⟨vs,h1,h2⟩:=kc3 (S.nx (n₁.trans n₂)) hm
    obtain ⟨v,h3,h4⟩:=h2.last hd
    have hpos:vs ≠ []:=by intro q; rw [q] at h3; cases h3
    have hp':=List.length_pos_iff.mpr hpos
    refine tail_any h1.isList.typeIs slot_list_getitem.lookup (wpAny_getItem_list_neg h1.isList (by decide) (by rw [List.size_toArray]; lia) (by decide) (x:=v) ?_ (hq v s₂ (n₁.trans n₂) h4)) (hsub _ _)
    rw [List.getElem?_toArray,List.size_toArray, ← h3,List.getLast?_eq_getElem?]
    congr 1; lia)
theorem St.retype {env:Env}{X:List Addr}{s0 s:Shared}{x:Str}{k:VK}{v:Value}{d:D}(S:St h₀ sc env X s0 ω σ s) (hx:Has σ x k (.val v)) (U:Upd σ x k d σ') (r:R X s.heap v d):St h₀ sc env X s0 ω σ' s:=by
  have hm:=hx.mem
  refine { S with ok:=by rw [U.names]; exact S.ok,ns:=?_,cell:=?_,newc:=?_ }
  · obtain ⟨m,hm',hv⟩:=S.ns
    refine ⟨m,hm',fun e he hk d' hd'=>?_⟩
    rcases U.mem S.nd he with rfl | ⟨h1,_⟩
    · cases hd'
      obtain ⟨u,h1,h2⟩:=hv _ hm hk _ rfl
      have:=h2.val_eq; subst this
      exact ⟨_,h1,r⟩
    · exact hv e h1 hk d' hd'
  · intro e he hk
    rcases U.mem S.nd he with rfl | ⟨h1,_⟩
    · obtain ⟨c,ov,q1,q2,q3,q4⟩:=S.cell _ hm hk
      refine ⟨c,ov,q1,q2,q3,fun d' hd'=>?_⟩
      cases hd'
      obtain ⟨u,q5,q6⟩:=q4 _ rfl
      have:=q6.val_eq; subst this
      exact ⟨_,q5,r⟩
    · exact S.cell e h1 hk
  · intro e he hk c hc
    rcases U.mem S.nd he with rfl | ⟨h1,_⟩
    · exact S.newc _ hm hk c hc
    · exact S.newc e h1 hk c hc
theorem kiw {x:Str}{k:VK}{a:Addr}{ds:List D}{rest:List Stmt}{r:D}(hx:Has σ x k (.val (.ref a))) (hp:ω.Perm ((a, .lst ds) :: ω')) (U:Upd σ x k (.list ds) σ') (h:SX w h₀ n sc ω' σ' rest (.ret r)):SX w h₀ n sc ω σ rest (.ret r):=fun A env X s0 s Q E rm S hq=>by
  have S₁:=S.perm hp
  obtain ⟨h1,h2,vs,h3,h4⟩:=S₁.owns.is _ (.head _)
  have S₂:=S₁.erase (h':=s.heap) (tk:=s.toks) (fun b o _ e=>e) (kbc h3)
  have S₃:=S₂.retype hx U (.list h3 (fun q=>by simpa using (List.mem_filter.mp q).2) (h4.weak fun b hb _=>(List.mem_filter.mp hb).1))
  refine h A env _ s0 s Q E rm S₃ fun fl s' oo=>hq fl s' ?_
  cases fl with
  | ret v =>
    obtain ⟨q1,q2,Y,q3,q4⟩:=oo
    refine ⟨q1,q2,Y,fun b hb ⟨o,ho⟩=>q3 b (List.mem_filter.mpr ⟨hb, ?_⟩) ⟨o,ho⟩,q4⟩
    simp only [bne_iff_ne,ne_eq]
    intro q
    have hn:s0.heap.get? a = none:=h2
    rw [q,hn] at ho; cases ho
  | _=>exact oo.elim
end
end
section
open PySem.Builtin PySem.Builtin.Str
noncomputable def bsplitRest (b c:Array UInt8) (t:Tok):Sem Fin :=
     if ((Bytes.occurrences b c 0 b.size).take (b.size + 1)).isEmpty = true then (do rule "bytes.split.no-separator"; ret (← newList [.bytes b t])) else
     (do ret (← newList (← (Bytes.between b c.size ((Bytes.occurrences b c 0 b.size).take (b.size + 1))).mapM mkBytes)))
theorem bsplit_tree (b c:Array UInt8) (t u:Tok) : «bytes.split» ⟨[.bytes b t, .bytes c u],[]⟩ =
    (if c.isEmpty = true then (do rule "bytes.split.empty-separator"; (raiseError "ValueError" "empty separator" : Sem PUnit); bsplitRest b c t) else bsplitRest b c t):=by kernel_rfl
noncomputable def bSplit (b c:Array UInt8):List (Array UInt8):=if ((Bytes.occurrences b c 0 b.size).take (b.size + 1)).isEmpty = true then [b] else Bytes.between b c.size ((Bytes.occurrences b c 0 b.size).take (b.size + 1))
noncomputable def bytesFrom (n:Nat):List (Array UInt8) → List Value
  | []=>[]
  | b :: r=>.bytes b n :: bytesFrom (n + 1) r
theorem kbk (n:Nat):∀ l:List (Array UInt8),(bytesFrom n l).length = l.length
  | []=>rfl
  | _ :: r=>by simp only [bytesFrom,List.length_cons,kbk (n + 1) r]
theorem kei {M:Model}{A:Around}{E:Value → Shared → Prop}{b:Array UInt8}{s:Shared}{Q:Value → Shared → Prop}(hb:b.size ≤ 2000) (h:Q (.bytes b s.toks) { s with toks:=s.toks + 1 }):wpAny M A (mkBytes b) Q E s:=by
  unfold mkBytes
  rw [if_neg (by rw [sizeLine_eq]; lia)]
  exact fun _ _ _=>h
theorem kcv {M:Model}{A:Around}{E:Value → Shared → Prop} : ∀ (l:List (Array UInt8)) (s:Shared) (Q:List Value → Shared → Prop),(∀ b ∈ l,b.size ≤ 2000) → (∀ k,Q (bytesFrom s.toks l) { s with toks:=k }) → wpAny M A (l.mapM mkBytes) Q E s
  | [],s,Q,_,h=>by rw [List.mapM_nil]; exact wpAny_pure (h s.toks)
  | b :: r,s,Q,hs,h=>by
    rw [List.mapM_cons]
    have hb:=hs b (.head _)
    refine wpAny_bind (kei (by lia) (wpAny_bind (kcv r _ _ (fun c hc=>hs c (.tail _ hc)) fun k=>wpAny_pure (h k))))
theorem kjd (b c:Array UInt8) (t u:Tok) (hc:c.isEmpty = false) (hn:(bSplit b c).length ≤ 1000) (hs:∀ p ∈ bSplit b c,p.size ≤ 2000):Meets («bytes.split» ⟨[.bytes b t, .bytes c u],[]⟩) (fun _ R s =>
    ∀ (vs:List Value) k,vs.length = (bSplit b c).length → (∀ (i:Nat) p,(bSplit b c)[i]? = some p → ∃ t',vs[i]? = some (Value.bytes p t')) → R (.ok (.ret (.ref s.heap.objs.size))) { s with toks:=k,heap:=s.heap.push { cls:=.type "list",data:=.seq vs.toArray } }):=by
  have htree:=bsplit_tree b c t u
  refine .of_wp fun prog w A R s h=>?_
  rw [htree,hc,if_neg Bool.false_ne_true]
  unfold bsplitRest
  unfold bSplit at h hn hs
  by_cases hq:((Bytes.occurrences b c 0 b.size).take (b.size + 1)).isEmpty = true
  · rw [if_pos hq] at h hn hs ⊢
    exact wpAny_bind (wpAny_rule (wpAny_bind (wpAny_newList (wpAny_pure ⟨_,rfl,h [.bytes b t] s.toks rfl fun i p hp=>by
      match i,hp with
      | 0,hp=>cases hp; exact ⟨t,rfl⟩
      | i + 1,hp=>simp at hp⟩) (by show 1 ≤ sizeLine; decide))))
  · rw [if_neg hq] at h hn hs ⊢
    refine wpAny_bind (kcv _ _ _ hs fun k=>wpAny_bind (wpAny_newList (wpAny_pure ⟨_,rfl,h _ k (kbk _ _) ?_⟩) (by rw [kbk,sizeLine_eq]; lia)))
    have key:∀ (l:List (Array UInt8)) (n i:Nat) (p:Array UInt8),l[i]? = some p → ∃ t',(bytesFrom n l)[i]? = some (.bytes p t'):=by
      intro l
      induction l with
      | nil=>intro n i p hp; simp at hp
      | cons b r ih =>
        intro n i p hp
        match i,hp with
        | 0,hp=>simp only [List.getElem?_cons_zero,Option.some.injEq] at hp; subst hp; exact ⟨n,rfl⟩
        | i + 1,hp=>simp only [List.getElem?_cons_succ] at hp; exact ih (n + 1) i p hp
    exact key _ _
theorem tbq (b:Array UInt8) (t:Tok):Bytes.takeBufferQuiet? "bytes.join" (.bytes b t) 0 = pure (some (b,none)):=by kernel_rfl
theorem wp_range {M:Model}{A:Around}{E:Value → Shared → Prop}{s:Shared}{β:Type}(f:Nat → β → Sem (ForInStep β)) (g:Nat → β) {init:β}{n:Nat}{Q:β → Shared → Prop}(h0:init = g 0)
    (step:∀ i,i < n → ∀ (Q:ForInStep β → Shared → Prop),Q (.yield (g (i + 1))) s → wpAny M A (f i (g i)) Q E s) (h:Q (g n) s):wpAny M A (forIn [:n] init f) Q E s:=by
  rw [Std.Legacy.Range.forIn_eq_forIn_range']
  have key:∀ k i,i + k = n → wpAny M A (forIn (List.range' i k) (g i) f) Q E s:=by
    intro k
    induction k with
    | zero => intro i hi; rw [List.range'_zero]; rw [List.forIn_nil]; have:i = n:=by lia
              subst this; exact wpAny_pure h
    | succ k ih =>
      intro i hi
      rw [List.range'_succ,List.forIn_cons]
      exact wpAny_bind (step i (by lia) _ (ih (i + 1) (by lia)))
  rw [h0]
  have:=key n 0 (by lia)
  simpa [Std.Legacy.Range.size] using this
noncomputable def bvals (its:List (Array UInt8 × Tok)):List Value:=its.map fun p=>.bytes p.1 p.2
noncomputable def btaken (its:List (Array UInt8 × Tok)):List (Value × Option Value):=its.map fun p=>(.bytes p.1 p.2,none)
theorem kdo {M:Model}{A:Around}{E:Value → Shared → Prop}{s:Shared}{keep:List Value}{Q:Unit → Shared → Prop} : ∀ (its:List (Array UInt8 × Tok)),Q () s → wpAny M A (Bytes.joinLetGo (btaken its) keep) Q E s
  | [],h=>wpAny_pure h
  | p :: r,h=>by
    show wpAny M A (do letGo (Value.bytes p.1 p.2 :: []) _; Bytes.joinLetGo (btaken r) keep) Q E s
    exact wpAny_bind (wpAny_letGo (kdo r h))
theorem btaken_any (its:List (Array UInt8 × Tok)):((btaken its).any fun x=>x.1.onHeap) = false:=by
  rw [List.any_eq_false]
  intro x hx
  obtain ⟨p,_,rfl⟩:=List.mem_map.mp hx
  exact Bool.false_ne_true
theorem kkt (b:Array UInt8) (t:Tok) (l:Addr) (its:List (Array UInt8 × Tok)) (hsz:(Bytes.joined b (its.map (·.1))).size ≤ 2000) (htl:Bytes.tooLong ((its.map (·.1)).toArray.foldl (· + ·.size) (b.size * (its.length - 1))) = false) (hone:its.length ≠ 1):Meets («bytes.join» ⟨[.bytes b t, .ref l],[]⟩) (fun _ R s =>
    s.heap.IsList l (bvals its).toArray ∧ ∀ t' k,R (.ok (.ret (.bytes (Bytes.joined b (its.map (·.1))) t'))) { s with toks:=k }):=by
  refine .of_wp fun prog w A R s h=>?_
  obtain ⟨hl,h⟩:=h
  obtain ⟨o,ho,hc,n,hd⟩:=id hl
  unfold «bytes.join» Bytes.joinM
  refine wpAny_bind (wpAny_pure ?_)
  change wpAny _ _ (Bytes.joinItems (.ref l) >>= _) _ _ s
  refine wpAny_bind (Q:=fun v s'=>_) ?_
  unfold Bytes.joinItems
  change wpAny _ _ (typeOf (.ref l) >>= _) _ _ s
  refine wpAny_bind (wpAny_typeOf hl.typeIs ?_)
  rw [if_pos (by decide +kernel)]
  refine wpAny_pure (wpAny_bind (wpAny_seqItems ho hd ?_))
  rcases its with _ | ⟨p,_ | ⟨q,r⟩⟩
  · change wpAny _ _ (forIn [:0] _ _ >>= _) _ _ s
    refine wpAny_bind (wp_range _ (fun _=>(#[],[])) rfl (fun i hi=>absurd hi (Nat.not_lt_zero i)) ?_)
    refine wpAny_bind (wpAny_pure ?_)
    refine wpAny_bind (kei hsz ?_)
    exact wpAny_bind (wpAny_holding (wpAny_point (wpAny_bind (kdo [] (wpAny_pure ⟨_,rfl,h _ _⟩)))))
  · exact absurd rfl hone
  · change wpAny _ _ (forIn [:(bvals (p :: q :: r)).toArray.size] _ _ >>= _) _ _ s
    generalize hits:(p :: q :: r) = its at *
    refine wpAny_bind (wp_range _ (fun i=>(((its.take i).map (·.1)).toArray,btaken (its.take i))) rfl (fun i hi Q hQ=>?_) ?_)
    · have hi':i < its.length:=by simpa [bvals] using hi
      refine wpAny_bind (wpAny_seqItems ho hd ?_)
      have e1:(bvals its).toArray.getD i .none = .bytes its[i].1 its[i].2:=by
        simp [bvals,Array.getD,hi']
      have e2:(Bytes.Kind.bytes == Bytes.Kind.bytearray || (btaken (its.take i)).any fun x=>x.fst.onHeap) = false:=by rw [btaken_any]; rfl
      change wpAny _ _ (if (Bytes.Kind.bytes == Bytes.Kind.bytearray || (btaken (its.take i)).any fun x=>x.fst.onHeap) = true then _ else _) _ _ s
      rw [e2,if_neg Bool.false_ne_true,e1]
      refine wpAny_bind (wpAny_holding ?_)
      change wpAny _ _ (Bytes.takeBufferQuiet? "bytes.join" (.bytes its[i].1 its[i].2) 0) _ _ s
      rw [tbq]
      refine wpAny_pure (wpAny_bind (wpAny_seqItems ho hd ?_))
      change wpAny _ _ (if ((bvals its).toArray.size != (bvals its).toArray.size) = true then _ else _) _ _ s
      rw [if_neg (by simp)]
      refine wpAny_pure ?_
      have e3:((its.take i).map (·.1)).toArray.push its[i].1 = ((its.take (i + 1)).map (·.1)).toArray:=by
        rw [List.push_toArray,List.take_succ_eq_append_getElem hi',List.map_append]; rfl
      have e4:btaken (its.take i) ++ [(.bytes its[i].1 its[i].2,none)] = btaken (its.take (i + 1)):=by
        unfold btaken; rw [List.take_succ_eq_append_getElem hi',List.map_append]; rfl
      show Q (.yield (((its.take i).map (·.1)).toArray.push its[i].1,btaken (its.take i) ++ [(.bytes its[i].1 its[i].2,none)])) s
      rw [e3,e4]; exact hQ
    · have e5:its.take (bvals its).toArray.size = its:=by simp [bvals]
      rw [e5]
      refine wpAny_bind (wpAny_pure ?_)
      change wpAny _ _ (if Bytes.tooLong ((its.map (·.1)).toArray.foldl (· + ·.size) (b.size * ((its.map (·.1)).toArray.size - 1))) = true then _ else _) _ _ s
      have e6:(its.map (·.1)).toArray.size = its.length:=by simp
      have e7:Bytes.tooLong ((its.map (·.1)).toArray.foldl (· + ·.size) (b.size * ((its.map (·.1)).toArray.size - 1))) = false:=by
        have:=htl
        rw [← e6] at this
        exact this
      rw [e7,if_neg Bool.false_ne_true]
      refine wpAny_bind (kei hsz ?_)
      exact wpAny_bind (wpAny_holding (wpAny_point (wpAny_bind (kdo its (wpAny_pure ⟨_,rfl,h _ _⟩)))))
theorem kje (b c:Array UInt8) (t u:Tok) (l:Addr):Meets («bytes.join» ⟨[.bytes b t, .ref l],[]⟩) (fun _ R s=>s.heap.IsList l #[.bytes c u] ∧ R (.ok (.ret (.bytes c u))) s):=by
  refine .of_wp fun prog w A R s h=>?_
  obtain ⟨hl,h⟩:=h
  obtain ⟨o,ho,hc,n,hd⟩:=id hl
  unfold «bytes.join» Bytes.joinM
  refine wpAny_bind (wpAny_pure ?_)
  change wpAny _ _ (Bytes.joinItems (.ref l) >>= _) _ _ s
  refine wpAny_bind (Q:=fun v s'=>_) ?_
  unfold Bytes.joinItems
  change wpAny _ _ (typeOf (.ref l) >>= _) _ _ s
  refine wpAny_bind (wpAny_typeOf hl.typeIs ?_)
  rw [if_pos (by decide +kernel)]
  refine wpAny_pure (wpAny_bind (wpAny_seqItems ho hd ?_))
  change wpAny _ _ (typeOf (.bytes c u) >>= _) _ _ s
  exact fun _ _ _=>⟨_,rfl,h⟩
noncomputable def splitT (b:Bool) (x y:List Nat):List (List Nat):=if b then (bSplit (toB x) (toB y)).map ofB else (Txt.split (toS x) (toS y)).map ofS
noncomputable def joinAllT (b:Bool) (x:List Nat) (ys:List (List Nat)):List Nat:=if b then ofB (match ys with | [y]=>toB y | _=>Bytes.joined (toB x) (ys.map toB)) else ofS (Txt.join (toS x) (ys.map toS))
noncomputable def joinOkT (b:Bool) (x:List Nat) (ys:List (List Nat)):Bool :=
  if b then (!Bytes.tooLong ((ys.map toB).toArray.foldl (· + ·.size) ((toB x).size * (ys.length - 1))) && decide ((Bytes.joined (toB x) (ys.map toB)).size ≤ 2000)) else JoinOk (toS x) (ys.map toS)
section
variable {w:World}{h₀:Heap}{n:Nat}
theorem RAll.mk {X:List Addr}{h:Heap}{vs:List Value}{ds:List D}(h':vs.length = ds.length) (k:∀ (i:Nat) d,ds[i]? = some d → ∃ v,vs[i]? = some v ∧ R X h v d):RAll X h vs ds:=by
  induction vs generalizing ds with
  | nil=>cases ds with | nil=>exact .nil | cons _ _=>cases h'
  | cons v vs ih =>
    cases ds with
    | nil=>cases h'
    | cons d ds =>
      obtain ⟨v',e,r⟩:=k 0 d rfl
      exact .cons (Option.some.inj e ▸ r) (ih (Nat.succ.inj h') fun i d' hd=>k (i + 1) d' hd)
theorem khi {b:Bool}{x y:List Nat}(hx:okTx b x) (hy:y.isEmpty = false) (hn:(splitT b x y).length ≤ 1000) (hp:(splitT b x y).all (fun p=>decide (p.length ≤ 1000)) = true):CallR w h₀ n (.builtin (mid b "str.split" "bytes.split")) [tx b x,tx b y] (.list ((splitT b x y).map (tx b))):=fun A X s vs rm O rs Q E h=>by
  obtain ⟨v,u,rfl,r1,r2⟩:=rs.two
  have fin:∀ (us:List Value) (k:Nat),RAll X s.heap us ((splitT b x y).map (tx b)) → Q (.ref s.heap.objs.size) { s with toks:=k,heap:=s.heap.push { cls:=.type "list",data:=.seq us.toArray } }:=fun us k r =>
    h _ _ (.push O.gi _ k) (.list ⟨_,Heap.get?_push_size _ rfl⟩ O.fresh (r.nx (.push O.gi _ k) O.tabX))
  cases b with
  | false =>
    obtain ⟨t,rfl⟩:=R.str_eq r1; obtain ⟨t',rfl⟩:=R.str_eq r2
    have hl:=hx.1
    have e:=kc2 x
    have hy':((toS y).length == 0) = false:=by rw [kc2]; cases y <;> simp_all
    have key:∀ (l:List (Str × Tok)),l.map (·.1) = Txt.split (toS x) (toS y) → RAll X s.heap (strValues l) ((splitT false x y).map (tx false)):=fun l hl=>by
      refine RAll.mk ?_ fun i d hd=>?_
      · have:=congrArg List.length hl
        simp only [List.length_map] at this
        simp [strValues,splitT,this]
      · have hd':((Txt.split (toS x) (toS y))[i]?).map (fun z=>tx false (ofS z)) = some d:=by simpa [splitT] using hd
        rw [← hl,List.getElem?_map] at hd'
        cases hli:l[i]? with
        | none=>rw [hli] at hd'; cases hd'
        | some z =>
          rw [hli] at hd'
          simp only [Option.map_some,Option.some.injEq] at hd'
          subst hd'
          refine ⟨.str z.1 z.2,by simp [strValues,hli], ?_⟩
          rw [tx_str]; exact .str _ _
    have hsz:(toS x).length ≤ sizeLine:=by rw [e,sizeLine_eq]; lia
    have hn':(Txt.split (toS x) (toS y)).length ≤ 1000:=by simpa [splitT] using hn
    cases h1:(decide ((toS x).length < (toS y).length) || decide (strKind (toS x) < strKind (toS y)))
    · cases hf:(occurrences (toS x) (toS y) 0 (toS x).length ((toS x).length + 1)).isEmpty
      · have es:Txt.split (toS x) (toS y) = partsBetween (toS x) (occurrences (toS x) (toS y) 0 (toS x).length ((toS x).length + 1)) (toS y).length:=(if_neg (ne_true_of_eq_false h1)).trans (if_neg (ne_true_of_eq_false hf))
        refine call_meets F.slot_str_split (typeIs_str _ _ _) F.entry_str_split (F.args_str_split_2 _ _) (meets_str_split_sep (toS x) (toS y) t t' h1 hy' hf hsz (by rw [← es,sizeLine_eq]; lia)) ?_
        show Q _ { s with toks:=_,heap:=s.heap.push { cls:=.type "list",data:=.seq (strsFrom s.toks (partsBetween (toS x) (occurrences (toS x) (toS y) 0 (toS x).length ((toS x).length + 1)) (toS y).length)).toArray } }
        rw [strsFrom_eq]
        exact fin _ _ (key _ ((numbered_texts _ _).trans es.symm))
      · exact call_meets F.slot_str_split (typeIs_str _ _ _) F.entry_str_split (F.args_str_split_2 _ _) (meets_str_split_not_found (toS x) (toS y) t t' h1 hy' hf)
          (fin _ s.toks (key [(toS x,t)] ((if_neg (ne_true_of_eq_false h1)).trans (if_pos hf)).symm))
    · exact call_meets F.slot_str_split (typeIs_str _ _ _) F.entry_str_split (F.args_str_split_2 _ _) (meets_str_split_cannot_occur (toS x) (toS y) t t' h1)
        (fin _ s.toks (key [(toS x,t)] (if_pos h1).symm))
  | true =>
    obtain ⟨t,rfl⟩:=R.bytes_eq r1; obtain ⟨t',rfl⟩:=R.bytes_eq r2
    refine call_meets kcs rfl ker (keg _ _) (kjd (toB x) (toB y) t t' ?_ (by simpa [splitT] using hn) fun p hp'=>?_) fun us k hl hi=>fin us k (RAll.mk ?_ fun i d hd=>?_)
    · cases y <;> simp_all [toB]
    · rw [List.all_eq_true] at hp
      have:=hp (ofB p) (by simp only [splitT,if_true]; exact List.mem_map_of_mem hp')
      simp [ofB] at this; lia
    · rw [hl]; simp [splitT]
    · have hd':((bSplit (toB x) (toB y))[i]?).map (fun z=>tx true (ofB z)) = some d:=by simpa [splitT] using hd
      cases hli:(bSplit (toB x) (toB y))[i]? with
      | none=>rw [hli] at hd'; cases hd'
      | some z =>
        rw [hli] at hd'
        simp only [Option.map_some,Option.some.injEq] at hd'
        subst hd'
        obtain ⟨t'',e⟩:=hi i z hli
        refine ⟨_,e, ?_⟩
        rw [kfl]; exact .bytes _ _
theorem RAll.strs {X:List Addr}{h:Heap} : ∀ {vs:List Value}{ys:List (List Nat)},RAll X h vs (ys.map (tx false)) → ∃ l:List (Str × Tok),vs = strValues l ∧ l.map (·.1) = ys.map toS
  | _,[],r=>by cases r; exact ⟨[],rfl,rfl⟩
  | _,y :: ys,r=>by
    cases r with
    | cons r1 r2 =>
      obtain ⟨l,e1,e2⟩:=RAll.strs r2
      obtain ⟨t,rfl⟩:=R.str_eq r1
      exact ⟨(toS y,t) :: l,by rw [e1]; rfl,by rw [List.map_cons,e2]; rfl⟩
theorem RAll.bts {X:List Addr}{h:Heap} : ∀ {vs:List Value}{ys:List (List Nat)},RAll X h vs (ys.map (tx true)) → ∃ l:List (Array UInt8 × Tok),vs = bvals l ∧ l.map (·.1) = ys.map toB
  | _,[],r=>by cases r; exact ⟨[],rfl,rfl⟩
  | _,y :: ys,r=>by
    cases r with
    | cons r1 r2 =>
      obtain ⟨l,e1,e2⟩:=RAll.bts r2
      obtain ⟨t,rfl⟩:=R.bytes_eq r1
      exact ⟨(toB y,t) :: l,by rw [e1]; rfl,by rw [List.map_cons,e2]; rfl⟩
theorem kff {b:Bool}{x:List Nat}{ys:List (List Nat)}(hok:joinOkT b x ys = true):CallR w h₀ n (.builtin (mid b "str.join" "bytes.join")) [tx b x, .list (ys.map (tx b))] (tx b (joinAllT b x ys)):=fun A X s vs rm O rs Q E h=>by
  obtain ⟨v,u,rfl,r1,r2⟩:=rs.two
  obtain ⟨a,us,rfl,hl,_,ru⟩:=r2.list_eq
  cases b with
  | false =>
    obtain ⟨t,rfl⟩:=R.str_eq r1
    obtain ⟨l,rfl,e⟩:=ru.strs
    refine SC.join (texts:=ys.map toS) hl e hok fun t' k=>h _ _ (.tok O.gi _) ?_
    show R X s.heap _ (tx false (ofS _)); rw [tx_str]; exact .str _ _
  | true =>
    obtain ⟨t,rfl⟩:=R.bytes_eq r1
    obtain ⟨l,rfl,e⟩:=ru.bts
    have hlen:l.length = ys.length:=by have:=congrArg List.length e; simpa using this
    simp only [joinOkT,if_true,Bool.and_eq_true,Bool.not_eq_true',decide_eq_true_eq] at hok
    by_cases h1:l.length = 1
    · obtain ⟨p,hp⟩:=List.length_eq_one_iff.mp h1
      obtain ⟨y,hy⟩:=List.length_eq_one_iff.mp (hlen.symm.trans h1)
      subst hp; subst hy
      have e':p.1 = toB y:=by simpa using e
      refine call_meets kby rfl kcu (kcd _ _) (kje (toB x) p.1 t p.2 a) ⟨hl,h _ _ (.refl O.gi) ?_⟩
      have e9:joinAllT true x [y] = ofB (toB y):=rfl
      rw [e9,kfl, ← e']; exact .bytes _ _
    · refine call_meets kby rfl kcu (kcd _ _) (kkt (toB x) t a l (by rw [e]; exact hok.2) (by rw [e,hlen]; exact hok.1) h1) ⟨hl,fun t' k=>h _ _ (.tok O.gi _) ?_⟩
      have e9:joinAllT true x ys = ofB (Bytes.joined (toB x) (ys.map toB)):=by
        unfold joinAllT
        rw [if_pos rfl]
        rcases ys with _ | ⟨y,_ | ⟨y',r⟩⟩
        · rfl
        · exact absurd hlen h1
        · rfl
      rw [e9,kfl,e]; exact .bytes _ _
end
end
section
open PySem.Builtin PySem.Builtin.Str
section
variable {w:World}{h₀:Heap}{n:Nat}{sc:Scope}{ω ω':Owns}{σ σ':List Var}
theorem TV.cast {e:Expr}{b c:Bool}(h:b = c) (t:TV w h₀ n sc ω σ e b):TV w h₀ n sc ω σ e c:=h ▸ t
theorem EV.cast {e:Expr}{b c:D}(h:b = c) (t:EV w h₀ n sc ω σ e b):EV w h₀ n sc ω σ e c:=h ▸ t
theorem tvs_or3 {e₁ e₂ e₃:Expr}{b₁ b₂ b₃:Bool}(h1:TV w h₀ n sc ω σ e₁ b₁) (h2:b₁ = false → TV w h₀ n sc ω σ e₂ b₂) (h3:b₁ = false → b₂ = false → TV w h₀ n sc ω σ e₃ b₃):TVs w h₀ n sc ω σ .Or [e₁,e₂,e₃] (b₁ || b₂ || b₃):=by
  refine .cons h1 (fun hb=>?_) fun hb=>?_
  · cases b₁ with
    | true=>cases hb
    | false=>simpa using kfv (h2 rfl) (h3 rfl)
  · cases b₁ <;> first | rfl | exact absurd rfl hb
theorem ev_or_first {e₁ e₂:Expr}{pos:Pos}{d:D}(h1:EV w h₀ n sc ω σ e₁ d) (ht:TruR w h₀ n d true):EV w h₀ n sc ω σ (.BoolOp .Or [e₁,e₂] pos) d:=fun A env X s0 s rm S Q E hq =>
  BoolOp_or (h1 A env X s0 s rm S _ _ fun v s₁ n₁ r=>ht A X s₁ v rm (S.nx n₁).op r _ _ fun s₂ n₂=>hq v s₂ (n₁.trans n₂) (r.nx n₂ S.tabX))
theorem FL.fold {β St:Type}{t:Expr}{body:List Stmt}(ωf:St → Owns) (σf:St → List Var) (f:St → β → St) (g:β → D) (Inv:Nat → St → Prop):∀ (cs:List β) (i:Nat) (st:St),Inv i st →
    (∀ k st c,cs[k]? = some c → Inv (i + k) st → Inv (i + k + 1) (f st c) ∧ ∃ σ₁,(∀ p,AsgR w h₀ n sc (p :: ωf st) t (g c) (σf st) σ₁) ∧ ((∀ p,SX w h₀ n sc (p :: ωf st) σ₁ body (.next (p :: ωf (f st c)) (σf (f st c)))) ∨ (∀ p,SX w h₀ n sc (p :: ωf st) σ₁ body (.cont (p :: ωf (f st c)) (σf (f st c)))))) →
    FL w h₀ n sc t body (ωf st) (σf st) (cs.map g) (.next (ωf (cs.foldl f st)) (σf (cs.foldl f st)))
  | [],i,st,_,_=>.nil
  | c :: cs,i,st,hI,step=>by
    obtain ⟨hI',σ₁,ha,hb⟩:=step 0 st c rfl hI
    have ih:=FL.fold (t:=t) (body:=body) ωf σf f g Inv cs (i + 1) (f st c) hI' fun k st' c' hc hk=>by
      have e:i + 1 + k = i + (k + 1):=by lia
      rw [e] at hk ⊢
      exact step (k + 1) st' c' (by simpa using hc) hk
    rcases hb with hb | hb
    · exact .next ha hb ih
    · exact .cont ha hb ih
end
noncomputable def normStep (root:List Nat) (acc:List (List Nat)) (c:List Nat):List (List Nat) :=
  if (c.isEmpty || c == [46]) = true then acc
  else if (c != [46,46] || (root.isEmpty && acc.isEmpty) || (!acc.isEmpty && acc.getLast? == some [46,46])) = true then acc ++ [c]
  else acc.dropLast
noncomputable def normComps (b:Bool) (x:List Nat):List (List Nat):=(splitT b (splitrootT x).2 [47]).foldl (normStep (splitrootT x).1) []
noncomputable def normpathT (b:Bool) (x:List Nat):List Nat:=(splitrootT x).1 ++ joinAllT b [47] (normComps b x)
noncomputable def okTxB (b:Bool) (x:List Nat):Bool:=decide (x.length ≤ 1000) && (!b || x.all fun c=>decide (c < 128))
theorem okTxB.ok {b:Bool}{x:List Nat}(h:okTxB b x = true):okTx b x:=by
  unfold okTxB at h
  rw [Bool.and_eq_true,decide_eq_true_eq,Bool.or_eq_true] at h
  refine ⟨h.1,fun hb c hc=>?_⟩
  rcases h.2 with q | q
  · rw [hb] at q; cases q
  · rw [List.all_eq_true] at q; simpa using q c hc
noncomputable def okNorm (b:Bool) (x:List Nat):Bool:=okTxB b x && !x.isEmpty && !(splitrootT x).1.isEmpty && okTxB b (splitrootT x).1 && okTxB b (splitrootT x).2 && decide ((splitT b (splitrootT x).2 [47]).length ≤ 500)
  && (splitT b (splitrootT x).2 [47]).all (okTxB b) && joinOkT b [47] (normComps b x) && okTxB b (joinAllT b [47] (normComps b x)) && okTxB b (normpathT b x)
theorem kj8 {root:List Nat}{acc:List (List Nat)}{c:List Nat} : (normStep root acc c).length ≤ acc.length + 1:=by
  unfold normStep
  split
  · lia
  · split
    · simp
    · simp; lia
theorem kj9 {root:List Nat}{acc:List (List Nat)}{c:List Nat}{P:List Nat → Prop}(ha:∀ x ∈ acc,P x) (hc:P c):∀ x ∈ normStep root acc c,P x:=by
  unfold normStep
  intro x hx
  split at hx
  · exact ha x hx
  · split at hx
    · rcases List.mem_append.mp hx with h | h
      · exact ha x h
      · rw [List.mem_singleton.mp h]; exact hc
    · exact ha x (List.dropLast_subset _ hx)
theorem okTx.dot {b:Bool} : okTx b [46]:=⟨by decide,fun _ c hc=>by simp at hc; lia⟩
theorem okTx.dotdot {b:Bool} : okTx b [46,46]:=⟨by decide,fun _ c hc=>by simp at hc; lia⟩
noncomputable abbrev normVars (b:Bool) (root rest:List Nat) (comps:D) (a:Addr) (st:List (List Nat) × Option D):List Var :=
  [⟨"path", .loc,some (tx b rest)⟩,⟨"sep", .loc,some (tx b [47])⟩,⟨"dot", .loc,some (tx b [46])⟩,⟨"dotdot", .loc,some (tx b [46,46])⟩,⟨"_", .loc,some (tx b [])⟩,⟨"initial_slashes", .loc,some (tx b root)⟩,⟨"comps", .loc,some comps⟩,⟨"new_comps", .loc,some (.val (.ref a))⟩,⟨"comp", .loc,st.2⟩]
theorem fold_fst {root:List Nat}{b:Bool} : ∀ (cs:List (List Nat)) (acc:List (List Nat)) (o:Option D),(cs.foldl (fun (st:List (List Nat) × Option D) c=>(normStep root st.1 c,some (tx b c))) (acc,o)).1 = cs.foldl (normStep root) acc
  | [],_,_=>rfl
  | c :: cs,acc,o=>by rw [List.foldl_cons,List.foldl_cons]; exact fold_fst cs _ _
section
variable {w:World}{h₀:Heap}(G:Gr w h₀)
include G
theorem khc {b:Bool}{x:List Nat}(hok:okNorm b x = true):CallR w h₀ 5 (.ref 159) [tx b x] (tx b (normpathT b x)):=by
  simp only [okNorm,Bool.and_eq_true,Bool.not_eq_true',decide_eq_true_eq] at hok
  obtain ⟨⟨⟨⟨⟨⟨⟨⟨⟨o1,o2⟩,o3⟩,o4⟩,o5⟩,o6⟩,o7⟩,o8⟩,o9⟩,o10⟩:=hok
  have hx:=okTxB.ok o1
  have hcs:∀ c ∈ splitT b (splitrootT x).2 [47],okTx b c:=fun c hc=>okTxB.ok (List.all_eq_true.mp o7 c hc)
  refine kaq (vars:=[("path", .loc),("sep", .loc),("dot", .loc),("dotdot", .loc),("_", .loc),("initial_slashes", .loc),("comps", .loc),("new_comps", .loc),("comp", .loc)]) ⟨⟨_,G.K 159 _ rfl,rfl⟩,rfl,rfl,rfl,rfl,⟨_,_,_,_,rfl,G.K _ _ rfl,rfl,rfl⟩,rfl,rfl,G.lim,by decide +kernel,rfl⟩ (kaa (len1 fun _=>?_)) ?_
  · rfl
  · refine ka5 (ka1 (ka8 (ka3 (kc0 G) (by decide +kernel)) (kbu G) (.cons rfl (ka0 .z) .nil) ((kc5 G).mono (by decide))) .z) ?_
    refine ka5 (ω':=[]) (σ':=[⟨"path", .loc,some (tx b x)⟩,⟨"sep", .loc,some (tx b [47])⟩,⟨"dot", .loc,some (tx b [46])⟩,⟨"dotdot", .loc,some (tx b [46,46])⟩,⟨"_", .loc,none⟩,⟨"initial_slashes", .loc,none⟩,⟨"comps", .loc,none⟩,⟨"new_comps", .loc,none⟩,⟨"comp", .loc,none⟩])
      (ss_if (kap (ka8 (ka3 (kbp G) (by decide +kernel)) (.inl ⟨_,rfl⟩) (.cons rfl (ka0 .z) (.cons rfl (ka3 (kda G) (by decide +kernel)) .nil)) kc4) kau) (fun hb=>?_) fun hb=>?_) ?_
    · subst hb; exact ka5 (ka1 kci (.s .z)) (ka5 (ka1 kci (.s (.s .z))) (ka4 (ka1 kci (.s (.s (.s .z))))))
    · subst hb; exact ka5 (ka1 kag (.s .z)) (ka5 (ka1 kag (.s (.s .z))) (ka4 (ka1 kag (.s (.s (.s .z))))))
    refine ka5 (ss_if (kfw (kap (ka0 .z) (kf3 hx))) (fun h=>?_) fun _=>kbw) ?_
    · rw [o2] at h; cases h
    refine ka5 (khw (ka8 (ka3 (kjj G) (by decide +kernel)) (kin G) (.cons rfl (ka0 .z) .nil) (f_splitroot G hx)) (.cons (by decide) (.s (.s (.s (.s .z)))) (.cons (by decide) (.s (.s (.s (.s (.s .z))))) (.cons (by decide) .z .nil)))) ?_
    refine ka5 (ka1 (kbj (ka0 .z) m_split (.cons rfl (ka0 (.s .z)) .nil) (khi (okTxB.ok o5) rfl (by lia) (List.all_eq_true.mpr fun p hp=>decide_eq_true (hcs p hp).1))) (.s (.s (.s (.s (.s (.s .z))))))) ?_
    refine kh3 (τ:=fun a=>normVars b (splitrootT x).1 (splitrootT x).2 (.list ((splitT b (splitrootT x).2 [47]).map (tx b))) a ([],none)) (fun a=>.s (.s (.s (.s (.s (.s (.s .z))))))) (by decide) fun a=>?_
    refine ka5 (kdt (.of (ka0 (.s (.s (.s (.s (.s (.s .z))))))) kae) (FL.fold (fun st=>[(a, .lst (st.1.map (tx b)))]) (normVars b (splitrootT x).1 (splitrootT x).2 (.list ((splitT b (splitrootT x).2 [47]).map (tx b))) a) (fun st c=>(normStep (splitrootT x).1 st.1 c,some (tx b c))) (tx b)
      (fun k st=>st.1.length ≤ k ∧ k ≤ 500 ∧ ∀ c ∈ st.1,okTx b c) (splitT b (splitrootT x).2 [47]) 0 ([],none) ⟨Nat.le_refl _,by lia,fun c hc=>by cases hc⟩ ?_)) ?_
    · intro k st c hc hI
      obtain ⟨acc,o⟩:=st
      obtain ⟨i1,i2,i3⟩:=hI
      have hcm:=List.mem_of_getElem? hc
      have hcx:=hcs c hcm
      have hk:k < 500:=by
        have:=(List.getElem?_eq_some_iff.mp hc).1; lia
      refine ⟨⟨Nat.le_trans kj8 (by simpa using i1),by lia,kj9 i3 hcx⟩,normVars b (splitrootT x).1 (splitrootT x).2 (.list ((splitT b (splitrootT x).2 [47]).map (tx b))) a (acc,some (tx b c)),fun p=>kac (.s (.s (.s (.s (.s (.s (.s (.s .z)))))))), ?_⟩
      by_cases h1:(c.isEmpty || c == [46]) = true
      · refine .inr fun p=>?_
        have e:normStep (splitrootT x).1 acc c = acc:=by unfold normStep; rw [if_pos h1]
        show SX _ _ _ _ _ _ _ (.cont (p :: [(a, .lst ((normStep (splitrootT x).1 acc c).map (tx b)))]) (normVars b (splitrootT x).1 (splitrootT x).2 (.list ((splitT b (splitrootT x).2 [47]).map (tx b))) a (normStep (splitrootT x).1 acc c,some (tx b c))))
        rw [e]
        refine kdh (ss_if (kbv (kfv (kfw (kap (ka0 (.s (.s (.s (.s (.s (.s (.s (.s .z))))))))) (kf3 hcx))) fun _=>kam (ka0 (.s (.s (.s (.s (.s (.s (.s (.s .z))))))))) (ka0 (.s (.s .z))) (kb6 hcx okTx.dot))) (fun _=>ka4 kkm) fun h=>?_) rfl
        rw [Bool.not_not,h1] at h; cases h
      · refine .inl fun p=>?_
        refine ka5 (ss_if (kbv (kfv (kfw (kap (ka0 (.s (.s (.s (.s (.s (.s (.s (.s .z))))))))) (kf3 hcx))) fun _=>kam (ka0 (.s (.s (.s (.s (.s (.s (.s (.s .z))))))))) (ka0 (.s (.s .z))) (kb6 hcx okTx.dot))) (fun h=>absurd (by rwa [Bool.not_not] at h) h1) fun _=>kbw) ?_
        have hlast:∀ l,acc.getLast? = some l → okTx b l:=fun l hl=>i3 l (List.mem_of_getLast? hl)
        have hz:(acc.map (tx b)).length ≤ 1000:=by rw [List.length_map]; have:acc.length ≤ 0 + k:=i1; lia
        have hm:∀ p:Addr × Cn,(a,Cn.lst (acc.map (tx b))) ∈ p :: [(a,Cn.lst (acc.map (tx b)))]:=fun p=>.tail _ (.head _)
        have hemp:(acc.map (tx b)).isEmpty = acc.isEmpty:=by cases acc <;> rfl
        refine ka4 (ss_if (c:=(c != [46,46] || ((splitrootT x).1.isEmpty && acc.isEmpty) || (!acc.isEmpty && acc.getLast? == some [46,46]))) (kbv (tvs_or3 (kam (ka0 (.s (.s (.s (.s (.s (.s (.s (.s .z))))))))) (ka0 (.s (.s (.s .z)))) (kbh hcx okTx.dotdot)) (fun _=>?_) fun _ _=>?_)) (fun h2=>?_) fun h2=>?_)
        · exact TV.cast (by rw [hemp,Bool.not_not,Bool.not_not]) (kbv (kht (kfw (kap (ka0 (.s (.s (.s (.s (.s .z)))))) (kf3 (okTxB.ok o4)))) fun _=>kfw (tv_own (.s (.s (.s (.s (.s (.s (.s .z))))))) (hm p) hz)))
        · rw [← hemp]
          refine kbv (kht (tv_own (.s (.s (.s (.s (.s (.s (.s .z))))))) (hm p) hz) fun hne=>?_)
          obtain ⟨l,hl⟩ : ∃ l,acc.getLast? = some l:=by
            cases acc with
            | nil=>cases hne
            | cons y ys=>exact ⟨_,List.getLast?_eq_some_getLast (List.cons_ne_nil _ _)⟩
          have e5:(acc.getLast? == some [46,46]) = (l == [46,46]):=by rw [hl]; rfl
          rw [e5]
          exact kam (ev_own_last (.s (.s (.s (.s (.s (.s (.s .z))))))) (hm p) (ev_un ka7 kd5) (by rw [List.getLast?_map,hl]; rfl)) (ka0 (.s (.s (.s .z)))) (kb6 (hlast l hl) okTx.dotdot)
        · have e:normStep (splitrootT x).1 acc c = acc ++ [c]:=by unfold normStep; rw [if_neg h1,if_pos h2]
          show SX _ _ _ _ _ _ _ (.next (p :: [(a, .lst ((normStep (splitrootT x).1 acc c).map (tx b)))]) (normVars b (splitrootT x).1 (splitrootT x).2 (.list ((splitT b (splitrootT x).2 [47]).map (tx b))) a (normStep (splitrootT x).1 acc c,some (tx b c))))
          rw [e,List.map_append]
          exact ka4 (kiz (.s (.s (.s (.s (.s (.s (.s .z))))))) (ka0 (.s (.s (.s (.s (.s (.s (.s (.s .z))))))))) (.s .z) hz)
        · have e:normStep (splitrootT x).1 acc c = acc.dropLast:=by unfold normStep; rw [if_neg h1,if_neg (by rw [h2]; exact Bool.false_ne_true)]
          show SX _ _ _ _ _ _ _ (.next (p :: [(a, .lst ((normStep (splitrootT x).1 acc c).map (tx b)))]) (normVars b (splitrootT x).1 (splitrootT x).2 (.list ((splitT b (splitrootT x).2 [47]).map (tx b))) a (normStep (splitrootT x).1 acc c,some (tx b c))))
          rw [e,List.map_dropLast]
          refine ka4 (ss_if (tv_own (.s (.s (.s (.s (.s (.s (.s .z))))))) (hm p) hz) (fun h3=>?_) fun h3=>?_)
          · exact ka4 (ss_pop (.s (.s (.s (.s (.s (.s (.s .z))))))) (.s .z) (fun q=>by rw [q] at h3; cases h3) hz)
          · have:acc = []:=by cases acc with
              | nil=>rfl
              | cons _ _=>cases h3
            subst this
            exact kbw
    · have e1:=fold_fst (root:=(splitrootT x).1) (b:=b) (splitT b (splitrootT x).2 [47]) [] none
      generalize (splitT b (splitrootT x).2 [47]).foldl (fun (st:List (List Nat) × Option D) c=>(normStep (splitrootT x).1 st.1 c,some (tx b c))) ([],none) = st at e1 ⊢
      obtain ⟨acc,o⟩:=st
      have e2:acc = normComps b x:=e1
      subst e2
      refine kiw (ω':=[]) (.s (.s (.s (.s (.s (.s (.s .z))))))) (.refl _) (.s (.s (.s (.s (.s (.s (.s .z))))))) ?_
      refine ka5 (ka1 (ka0 (.s (.s (.s (.s (.s (.s (.s .z)))))))) (.s (.s (.s (.s (.s (.s .z))))))) ?_
      refine ka5 (ka1 (kad (ka0 (.s (.s (.s (.s (.s .z)))))) (kbj (ka0 (.s .z)) m_join (.cons rfl (ka0 (.s (.s (.s (.s (.s (.s .z))))))) .nil) (kff o8)) (kex (okTxB.ok o4) (okTxB.ok o9))) .z) ?_
      refine ka4 (kab (ev_or_first (ka0 .z) ?_))
      have e3:(!(normpathT b x).isEmpty) = true:=by
        unfold normpathT
        cases q:(splitrootT x).1 with
        | nil=>rw [q] at o3; cases o3
        | cons _ _=>rfl
      have:=kf3 (w:=w) (h₀:=h₀) (n:=4) (okTxB.ok o10)
      rw [e3] at this
      exact this
theorem kfg:Cal h₀ (.ref 159):=.inr (.inr ⟨_,_,_,rfl,G.K 159 _ rfl,rfl⟩)
end
end
section
open PySem.Builtin PySem.Builtin.Str
noncomputable def depthT (b:Bool):Nat → List Nat → Nat
  | 0,_=>0
  | k + 1,x=>if dirnameT b x = x then 0 else depthT b k (dirnameT b x) + 1
noncomputable def okClimb (b:Bool):Nat → List Nat → Bool
  | 0,_=>false
  | k + 1,x=>okTxB b x && !x.isEmpty && (dirnameT b x == x || okClimb b k (dirnameT b x)) && okTxB b (dirnameT b x)
noncomputable def childT (b:Bool) (top:List Nat):Nat → List Nat → List Nat
  | 0,x=>basenameT b x
  | k + 1,x=>if dirnameT b x = top then basenameT b x else childT b top k (dirnameT b x)
noncomputable def okChild (b:Bool) (top:List Nat):Nat → List Nat → Bool
  | 0,_=>false
  | k + 1,x=>okTxB b x && !x.isEmpty && (dirnameT b x == top || okChild b top k (dirnameT b x)) && okTxB b (dirnameT b x)
theorem kdk {x:List Nat}(h:x.isEmpty = false):1 ≤ x.length:=by cases x <;> simp_all
section
variable {w:World}{h₀:Heap}
theorem wl_depth {b:Bool}{test:Expr}{body:List Stmt}{sc:Scope}(ht:∀ x d,okTx b x → 1 ≤ x.length → okTx b (dirnameT b x) → TV w h₀ 4 sc [] [⟨"place", .loc,some (tx b x)⟩,⟨"depth", .loc,some (.int d)⟩] test (dirnameT b x != x))
    (hb:∀ x d,okTx b x → 1 ≤ x.length → SX w h₀ 4 sc [] [⟨"place", .loc,some (tx b x)⟩,⟨"depth", .loc,some (.int d)⟩] body (.next [] [⟨"place", .loc,some (tx b (dirnameT b x))⟩,⟨"depth", .loc,some (.int (d + 1))⟩])) :
    ∀ (k:Nat) (x:List Nat) (d:Int),okClimb b k x = true → ∃ y,WL w h₀ 4 sc test body [] [⟨"place", .loc,some (tx b x)⟩,⟨"depth", .loc,some (.int d)⟩] (.next [] [⟨"place", .loc,some (tx b y)⟩,⟨"depth", .loc,some (.int (d + depthT b k x))⟩])
  | 0,x,d,h=>by cases h
  | k + 1,x,d,h=>by
    simp only [okClimb,Bool.and_eq_true,Bool.not_eq_true',Bool.or_eq_true,beq_iff_eq] at h
    obtain ⟨⟨⟨h1,h2⟩,h3⟩,h4⟩:=h
    by_cases q:dirnameT b x = x
    · refine ⟨x, ?_⟩
      have e:d + (depthT b (k + 1) x:Int) = d:=by unfold depthT; rw [if_pos q]; simp
      rw [e]
      exact .done ((ht x d (okTxB.ok h1) (kdk h2) (okTxB.ok h4)).cast (by simp [q]))
    · obtain ⟨y,hy⟩:=wl_depth ht hb k (dirnameT b x) (d + 1) (h3.resolve_left q)
      refine ⟨y, .next ((ht x d (okTxB.ok h1) (kdk h2) (okTxB.ok h4)).cast (by simp [q])) (hb x d (okTxB.ok h1) (kdk h2)) ?_⟩
      have e:d + (depthT b (k + 1) x:Int) = d + 1 + (depthT b k (dirnameT b x):Int):=by
        rw [depthT,if_neg q]; lia
      rw [e]; exact hy
theorem wl_child {b:Bool}{top:List Nat}(htop:okTx b top) {test:Expr}{body:List Stmt}{sc:Scope}(ht:∀ x,okTx b x → 1 ≤ x.length → okTx b (dirnameT b x) → TV w h₀ 4 sc [] [⟨"place", .loc,some (tx b x)⟩,⟨"top", .loc,some (tx b top)⟩] test (dirnameT b x != top))
    (hb:∀ x,okTx b x → 1 ≤ x.length → SX w h₀ 4 sc [] [⟨"place", .loc,some (tx b x)⟩,⟨"top", .loc,some (tx b top)⟩] body (.next [] [⟨"place", .loc,some (tx b (dirnameT b x))⟩,⟨"top", .loc,some (tx b top)⟩])) :
    ∀ (k:Nat) (x:List Nat),okChild b top k x = true → ∃ y,okTx b y ∧ 1 ≤ y.length ∧ basenameT b y = childT b top k x ∧ WL w h₀ 4 sc test body [] [⟨"place", .loc,some (tx b x)⟩,⟨"top", .loc,some (tx b top)⟩] (.next [] [⟨"place", .loc,some (tx b y)⟩,⟨"top", .loc,some (tx b top)⟩])
  | 0,x,h=>by cases h
  | k + 1,x,h=>by
    simp only [okChild,Bool.and_eq_true,Bool.not_eq_true',Bool.or_eq_true,beq_iff_eq] at h
    obtain ⟨⟨⟨h1,h2⟩,h3⟩,h4⟩:=h
    by_cases q:dirnameT b x = top
    · exact ⟨x,okTxB.ok h1,kdk h2,by rw [childT,if_pos q], .done ((ht x (okTxB.ok h1) (kdk h2) (okTxB.ok h4)).cast (by simp [q]))⟩
    · obtain ⟨y,hy0,hy1,hy2,hy⟩:=wl_child htop ht hb k (dirnameT b x) (h3.resolve_left q)
      exact ⟨y,hy0,hy1,by rw [childT,if_neg q]; exact hy2, .next ((ht x (okTxB.ok h1) (kdk h2) (okTxB.ok h4)).cast (by simp [q])) (hb x (okTxB.ok h1) (kdk h2)) hy⟩
theorem sx_depth {b:Bool}{test:Expr}{body rest:List Stmt}{pos:Pos}{sc:Scope}{out:Out}{k:Nat}{x:List Nat}{d:Int}(hok:okClimb b k x = true) (ht:∀ x d,okTx b x → 1 ≤ x.length → okTx b (dirnameT b x) → TV w h₀ 4 sc [] [⟨"place", .loc,some (tx b x)⟩,⟨"depth", .loc,some (.int d)⟩] test (dirnameT b x != x))
    (hb:∀ x d,okTx b x → 1 ≤ x.length → SX w h₀ 4 sc [] [⟨"place", .loc,some (tx b x)⟩,⟨"depth", .loc,some (.int d)⟩] body (.next [] [⟨"place", .loc,some (tx b (dirnameT b x))⟩,⟨"depth", .loc,some (.int (d + 1))⟩]))
    (h:∀ y,SX w h₀ 4 sc [] [⟨"place", .loc,some (tx b y)⟩,⟨"depth", .loc,some (.int (d + depthT b k x))⟩] rest out):SX w h₀ 4 sc [] [⟨"place", .loc,some (tx b x)⟩,⟨"depth", .loc,some (.int d)⟩] (.While test body [] pos :: rest) out :=
  let ⟨y,hy⟩:=wl_depth ht hb k x d hok; ka5 (ss_while hy) (h y)
theorem sx_child {b:Bool}{top:List Nat}(htop:okTx b top) {test:Expr}{body rest:List Stmt}{pos:Pos}{sc:Scope}{out:Out}{k:Nat}{x:List Nat}(hok:okChild b top k x = true) (ht:∀ x,okTx b x → 1 ≤ x.length → okTx b (dirnameT b x) → TV w h₀ 4 sc [] [⟨"place", .loc,some (tx b x)⟩,⟨"top", .loc,some (tx b top)⟩] test (dirnameT b x != top))
    (hb:∀ x,okTx b x → 1 ≤ x.length → SX w h₀ 4 sc [] [⟨"place", .loc,some (tx b x)⟩,⟨"top", .loc,some (tx b top)⟩] body (.next [] [⟨"place", .loc,some (tx b (dirnameT b x))⟩,⟨"top", .loc,some (tx b top)⟩]))
    (h:∀ y,okTx b y → 1 ≤ y.length → basenameT b y = childT b top k x → SX w h₀ 4 sc [] [⟨"place", .loc,some (tx b y)⟩,⟨"top", .loc,some (tx b top)⟩] rest out):SX w h₀ 4 sc [] [⟨"place", .loc,some (tx b x)⟩,⟨"top", .loc,some (tx b top)⟩] (.While test body [] pos :: rest) out :=
  let ⟨y,h0,h1,h2,hy⟩:=wl_child htop ht hb k x hok; ka5 (ss_while hy) (h y h0 h1 h2)
end
section
variable {w:World}{h₀:Heap}(G:Gr w h₀)
include G
theorem kcp:Cal h₀ (.ref 152):=.inr (.inr ⟨_,_,_,rfl,G.K 152 _ rfl,rfl⟩)
theorem kka:Cal h₀ (.ref 145):=.inr (.inr ⟨_,_,_,rfl,G.K 145 _ rfl,rfl⟩)
theorem f_depth {b:Bool}{x:List Nat}{k:Nat}(hok:okClimb b k x = true):CallR w h₀ 5 (.ref 188) [tx b x] (.int (depthT b k x)):=by
  refine kaq (vars:=[("place", .loc),("depth", .loc)]) ⟨⟨_,G.K 188 _ rfl,rfl⟩,rfl,rfl,rfl,rfl,⟨_,_,_,_,rfl,G.K _ _ rfl,rfl,rfl⟩,rfl,rfl,G.lim,by decide +kernel,rfl⟩ (kaa (len1 fun _=>?_)) ?_
  · rfl
  · refine ka5 (ka1 ka7 (.s .z)) ?_
    refine sx_depth hok (fun x d hx hl hd=>kam (ka8 (ka3 (kd9 G) (by decide +kernel)) (kcp G) (.cons rfl (ka0 .z) .nil) (ke5 G hx hl)) (ka0 .z) (kbh hd hx))
      (fun x d hx hl=>ka5 (ka1 (ka8 (ka3 (kd9 G) (by decide +kernel)) (kcp G) (.cons rfl (ka0 .z) .nil) (ke5 G hx hl)) .z) (ka4 (ka1 (kad (ka0 (.s .z)) ka7 kal) (.s .z)))) fun y=>?_
    rw [Int.zero_add]
    exact ka4 (kab (ka0 (.s .z)))
theorem kgi:Cal h₀ (.ref 188):=.inr (.inr ⟨_,_,_,rfl,G.K 188 _ rfl,rfl⟩)
theorem f_child {b:Bool}{x top:List Nat}{k:Nat}(htop:okTx b top) (hok:okChild b top k x = true):CallR w h₀ 5 (.ref 195) [tx b x,tx b top] (tx b (childT b top k x)):=by
  refine kaq (vars:=[("place", .loc),("top", .loc)]) ⟨⟨_,G.K 195 _ rfl,rfl⟩,rfl,rfl,rfl,rfl,⟨_,_,_,_,rfl,G.K _ _ rfl,rfl,rfl⟩,rfl,rfl,G.lim,by decide +kernel,rfl⟩ (kaa (len2 fun _ _=>?_)) ?_
  · rfl
  · refine sx_child htop hok (fun x hx hl hd=>kam (ka8 (ka3 (kd9 G) (by decide +kernel)) (kcp G) (.cons rfl (ka0 .z) .nil) (ke5 G hx hl)) (ka0 (.s .z)) (kbh hd htop))
      (fun x hx hl=>ka4 (ka1 (ka8 (ka3 (kd9 G) (by decide +kernel)) (kcp G) (.cons rfl (ka0 .z) .nil) (ke5 G hx hl)) .z)) fun y h0 h1 h2=>?_
    rw [← h2]
    exact ka4 (kab (ka8 (ka3 (gv_basename G) (by decide +kernel)) (kka G) (.cons rfl (ka0 .z) .nil) (f_basename G h0 h1)))
theorem kk9:Cal h₀ (.ref 195):=.inr (.inr ⟨_,_,_,rfl,G.K 195 _ rfl,rfl⟩)
end
end
section
open PySem.Builtin PySem.Builtin.Str PySem.SeqAt
mutual
noncomputable def D.py:D → PyData
  | .none=>.none
  | .bool b=>.bool b
  | .int i=>.int i
  | .str s=>.str s
  | .list ds=>.list (D.pys ds)
  | .tuple ds=>.tuple (D.pys ds)
  | .bytes _=>.none
  | .val _=>.none
noncomputable def D.pys:List D → List PyData
  | []=>[]
  | d :: ds=>D.py d :: D.pys ds
end
mutual
noncomputable def D.pl:D → Bool
  | .none | .bool _ | .int _ | .str _=>true
  | .list ds=>D.pls ds
  | .tuple ds=>D.pls ds
  | .bytes _ | .val _=>false
noncomputable def D.pls:List D → Bool
  | []=>true
  | d :: ds=>D.pl d && D.pls ds
end
theorem R.reads {X:List Addr}{h:Heap}{v:Value}{d:D}(r:R X h v d):d.pl = true → ∃ as,Reads h v d.py as :=
  R.rec (motive_1:=fun v d _=>d.pl = true → ∃ as,Reads h v d.py as) (motive_2:=fun vs ds _=>D.pls ds = true → ∃ as,ReadsAll h vs (D.pys ds) as) (fun _=>⟨_, .none⟩) (fun b _=>⟨_, .bool b⟩) (fun i t _=>⟨_, .int i t⟩) (fun s t _=>⟨_, .str s t⟩) (fun _ _ e=>by cases e) (fun _ e=>by cases e)
    (fun hl _ _ ih hp=>by obtain ⟨n,hl⟩:=hl; obtain ⟨as,q⟩:=ih hp; exact ⟨_, .list hl rfl rfl q⟩) (fun hl _ _ ih hp=>by obtain ⟨o,ho,hc,n,hd⟩:=hl; obtain ⟨as,q⟩:=ih hp; exact ⟨_, .tuple ho hc hd q⟩)
    (fun _=>⟨_, .nil⟩) (fun _ _ i1 i2 hp=>by obtain ⟨as,q⟩:=i1 (Bool.and_eq_true_iff.mp hp).1; obtain ⟨bs,q'⟩:=i2 (Bool.and_eq_true_iff.mp hp).2; exact ⟨_, .cons q q'⟩) r
noncomputable def okEq (d:D):Bool:=d.pl && shaped d.py
section
variable {w:World}{h₀:Heap}{n:Nat}
theorem okEq.two {d:D}(h:okEq d = true):d.pl = true ∧ shaped d.py = true:=Bool.and_eq_true_iff.mp h
theorem cmp_eq_D {a b:D}(ha:okEq a = true) (hb:okEq b = true):CmpR w h₀ n .Eq a b (PyData.eqv a.py b.py):=fun A X s va vb rm O ra rb Q E h=>by
  obtain ⟨as,ra'⟩:=ra.reads (okEq.two ha).1
  obtain ⟨bs,rb'⟩:=rb.reads (okEq.two hb).1
  exact eq_dataH ra' rb' (okEq.two ha).2 (okEq.two hb).2 rm.cl (h _ _ (.refl O.gi) (.bool _))
theorem cmp_ne_D {a b:D}(ha:okEq a = true) (hb:okEq b = true):CmpR w h₀ n .NotEq a b (!PyData.eqv a.py b.py):=fun A X s va vb rm O ra rb Q E h=>by
  obtain ⟨as,ra'⟩:=ra.reads (okEq.two ha).1
  obtain ⟨bs,rb'⟩:=rb.reads (okEq.two hb).1
  exact ne_dataH ra' rb' (okEq.two ha).2 (okEq.two hb).2 rm.cl (h _ _ (.refl O.gi) (.bool _))
theorem Room.in_ok {A:Around}(rm:Room A (n + 1)) {d:PyData}{xs:List PyData}(hd:shaped d = true):A.units + 1 + min (PyData.depthAll xs) d.depth < cLine:=by
  have h1:=depth_of_shaped hd
  have h2:min (PyData.depthAll xs) d.depth ≤ d.depth:=Nat.min_le_right _ _
  have h3:=rm.units
  lia
theorem kfe {ds:List D}(h:okEq (.list ds) = true):PyData.canLayAll0 (D.pys ds) = true:=canLay_of_shaped (okEq.two h).2
theorem keb {ds:List D}(h:okEq (.tuple ds) = true):PyData.canLayAll0 (D.pys ds) = true:=canLay_of_shaped (okEq.two h).2
theorem cmp_in_list {a:D}{ds:List D}(ha:okEq a = true) (hb:okEq (.list ds) = true):CmpR w h₀ (n + 1) .In a (.list ds) ((D.pys ds).any fun y=>PyData.eqv y a.py):=fun A X s va vb rm O ra rb Q E h=>by
  obtain ⟨as,ra'⟩:=ra.reads (okEq.two ha).1
  obtain ⟨bs,rb'⟩:=rb.reads (okEq.two hb).1
  exact in_list_reads rb' ra' (kfe hb) (canLay_of_shaped (okEq.two ha).2) (rm.in_ok (okEq.two ha).2) (h _ _ (.refl O.gi) (.bool _))
theorem kgy {a:D}{ds:List D}(ha:okEq a = true) (hb:okEq (.list ds) = true):CmpR w h₀ (n + 1) .NotIn a (.list ds) (!(D.pys ds).any fun y=>PyData.eqv y a.py):=fun A X s va vb rm O ra rb Q E h=>by
  obtain ⟨as,ra'⟩:=ra.reads (okEq.two ha).1
  obtain ⟨bs,rb'⟩:=rb.reads (okEq.two hb).1
  exact notIn_list_reads rb' ra' (kfe hb) (canLay_of_shaped (okEq.two ha).2) (rm.in_ok (okEq.two ha).2) (h _ _ (.refl O.gi) (.bool _))
theorem kk5 {a:D}{ds:List D}(ha:okEq a = true) (hb:okEq (.tuple ds) = true):CmpR w h₀ (n + 1) .In a (.tuple ds) ((D.pys ds).any fun y=>PyData.eqv y a.py):=fun A X s va vb rm O ra rb Q E h=>by
  obtain ⟨as,ra'⟩:=ra.reads (okEq.two ha).1
  obtain ⟨bs,rb'⟩:=rb.reads (okEq.two hb).1
  exact in_tuple_reads rb' ra' (keb hb) (canLay_of_shaped (okEq.two ha).2) (rm.in_ok (okEq.two ha).2) (h _ _ (.refl O.gi) (.bool _))
theorem kge {a:D}{ds:List D}(ha:okEq a = true) (hb:okEq (.tuple ds) = true):CmpR w h₀ (n + 1) .NotIn a (.tuple ds) (!(D.pys ds).any fun y=>PyData.eqv y a.py):=fun A X s va vb rm O ra rb Q E h=>by
  obtain ⟨as,ra'⟩:=ra.reads (okEq.two ha).1
  obtain ⟨bs,rb'⟩:=rb.reads (okEq.two hb).1
  exact notIn_tuple_reads rb' ra' (keb hb) (canLay_of_shaped (okEq.two ha).2) (rm.in_ok (okEq.two ha).2) (h _ _ (.refl O.gi) (.bool _))
theorem kah {value slice:Expr}{ds:List D}{i:Int}{d:D}(h0:0 ≤ i) (hfit:i < 2 ^ 63) (hd:ds[i.toNat]? = some d) (hsub:∀ o i,subscripted slice false o i = operate [o,i] (getItem o i):=by intro _ _; rfl):SubR w h₀ n value slice (.list ds) (.int i) d:=fun A X s va vi rm O ra ri Q E h=>by
  obtain ⟨t,rfl⟩:=ri.int_eq
  obtain ⟨a,vs,rfl,hl,_,rs⟩:=ra.list_eq
  obtain ⟨v,h1,h2⟩:=rs.get hd
  exact tail_any hl.typeIs slot_list_getitem.lookup (wpAny_getItem_list hl h0 hfit (x:=v) (by rw [List.getElem?_toArray]; exact h1) (h v s (.refl O.gi) h2)) (hsub _ _)
theorem kiy {value slice:Expr}{ds:List D}{i:Int}{d:D}(h0:i < 0) (h1 : -(ds.length:Int) ≤ i) (hfit : -(2 ^ 63) ≤ i) (hd:ds[(i + ds.length).toNat]? = some d) (hsub:∀ o i,subscripted slice false o i = operate [o,i] (getItem o i):=by intro _ _; rfl):SubR w h₀ n value slice (.list ds) (.int i) d:=fun A X s va vi rm O ra ri Q E h=>by
  obtain ⟨t,rfl⟩:=ri.int_eq
  obtain ⟨a,vs,rfl,hl,_,rs⟩:=ra.list_eq
  obtain ⟨v,h2,h3⟩:=rs.get hd
  have hlen:=rs.length
  exact tail_any hl.typeIs slot_list_getitem.lookup (wpAny_getItem_list_neg hl h0 (by rw [List.size_toArray,hlen]; exact h1) hfit (x:=v) (by rw [List.getElem?_toArray,List.size_toArray,hlen]; exact h2) (h v s (.refl O.gi) h3)) (hsub _ _)
theorem kbx {value slice:Expr}{ds:List D}{i:Nat}{d:D}(hfit:i < 1000) (hd:ds[i]? = some d) (hsub:∀ o i,subscripted slice false o i = operate [o,i] (getItem o i):=by intro _ _; rfl):SubR w h₀ n value slice (.tuple ds) (.int i) d:=fun A X s va vi rm O ra ri Q E h=>by
  obtain ⟨t,rfl⟩:=ri.int_eq
  obtain ⟨a,vs,rfl,hl,_,rs⟩:=ra.tuple_eq
  obtain ⟨v,h1,h2⟩:=rs.get hd
  have hl':IsTup s.heap a vs.toArray:=hl
  have hi:i < vs.length:=by
    rcases Nat.lt_or_ge i vs.length with q | q
    · exact q
    · rw [List.getElem?_eq_none q] at h1; cases h1
  refine tail_any hl'.typeIs slot_tuple_getitem.lookup (PyProof.Rows.getItem_tuple (j:=i) hl' (by lia) (by lia) ?_ (x:=v) (by rw [List.getElem?_toArray]; exact h1) (h v s (.refl O.gi) h2)) (hsub _ _)
  unfold seqIndex?
  rw [List.size_toArray]
  split
  · lia
  · simp; lia
theorem kb3 {xs ys:List D}(hz:xs.length + ys.length ≤ 1000):BinR w h₀ n .Add (.list xs) (.list ys) (.list (xs ++ ys)):=fun A X s va vb rm O ra rb Q E h=>by
  obtain ⟨a,vs,rfl,⟨k,ha⟩,_,rs⟩:=ra.list_plain
  obtain ⟨b,us,rfl,⟨k',hb⟩,_,ru⟩:=rb.list_plain
  have e:vs.toArray ++ us.toArray = (vs ++ us).toArray:=by simp
  refine concat_meets ⟨_,ha,rfl⟩ ⟨_,hb,rfl⟩ noFill_list_add seq_list_add PySem.F.slot_list_add PySem.F.entry_list_add (PySem.F.args_list_add_2 _ _) (list_addW a b vs.toArray us.toArray k k' none none #[] #[] (by simp only [List.size_toArray]; rw [rs.length,ru.length,sizeLine_eq]; lia)) ⟨ha,hb, ?_⟩
  rw [e]
  exact h _ _ (.push O.gi _ _) (.list ⟨_,Heap.get?_push_size _ rfl⟩ O.fresh ((rs.append ru).nx (.push O.gi _ s.toks) O.tabX))
theorem kar {ds:List D}(hz:ds.length ≤ 100000):CallR w h₀ n (.builtin "len") [.list ds] (.int ds.length):=fun A X s vs rm O rs Q E h=>by
  obtain ⟨v,rfl,r1⟩:=rs.one
  obtain ⟨a,us,rfl,hl,_,ru⟩:=r1.list_eq
  refine call_len_list hl (by rw [List.size_toArray,ru.length]; lia) ?_
  rw [List.size_toArray,ru.length]
  exact h _ _ (.tok O.gi _) (.int _ _)
end
end
section
open PySem.Builtin PySem.Builtin.Str PySem.SeqAt
noncomputable def rangeD (a:Int) (m:Nat):List D:=(List.range m).map fun (i:Nat)=>.int (a + (i:Int))
section
variable {w:World}{h₀:Heap}{n:Nat}{sc:Scope}{ω ω':Owns}{σ σ':List Var}
theorem kez {A:Around}{X:List Addr}{s s':Shared}{r:Addr}{a b:Int}{m:Nat}{t u v:Tok}{Q:Value → Shared → Prop}{E:Value → Shared → Prop}(rm:Room A n) (O:Op h₀ X s') (nx:Nx h₀ s s') (hr:IsRange s'.heap r a b 1 t u v)
    (ha : -1000000 ≤ a) (ha':a ≤ 1000000) (hb:b = a + m) (hm:m ≤ 1000000) (hnew:∀ I,s'.heap.get? I = none → s.heap.get? I = none)
    (h:∀ I fp P Si s',Nx h₀ s s' → I ∉ X → s.heap.get? I = none → IterAt w A X s' I fp P Si (rangeD a m) → Q (.ref I) s'):wpAny (model prog w) A (pyIter (.ref r)) Q E s':=by
  have hsz:Builtin.Range.rangeSize a b 1 = m:=by
    rw [rangeSize_one,hb]; split <;> lia
  refine wpAny_pyIter_range hr (small_one (by lia) (by lia) (by lia) (by lia)) ?_
  rw [hsz]
  have n₂:Nx h₀ s' { s' with heap:=s'.heap.push { cls:=.type "range_iterator",data:=.fields #[rawInt a,rawInt m,rawInt 1] } }:=.push O.gi _ s'.toks
  refine h s'.heap.objs.size [s'.heap.objs.size] (fun i v=>∃ t,v = .int (a + i * 1) t) (fun i h=>IsRangeIter h s'.heap.objs.size (a + (i:Nat) * 1) ((m:Int) - (i:Nat)) 1) _ (nx.trans n₂) O.fresh (hnew _ (Heap.get?_none_of_le (Nat.le_refl _))) ⟨?_, ?_,fun b hb=>?_,fun i h' st=>?_,fun i v d hv hd=>?_⟩
  · have e:(rangeD a m).length = m:=by simp [rangeD]
    rw [e]
    exact Walks.range rm.handled _ a 1 m
  · show IsRangeIter _ _ (a + ((0:Nat):Int) * 1) ((m:Int) - ((0:Nat):Int)) 1
    have e1:a + ((0:Nat):Int) * 1 = a:=by lia
    have e2:(m:Int) - ((0:Nat):Int) = m:=by lia
    rw [e1,e2]
    exact Heap.get?_push_size _ rfl
  · exact .inl (List.mem_singleton.mp hb)
  · exact ⟨_,_,_,st,rfl,kaw st rfl (fun x t e=>by simp [rawInt] at e),rfl,by decide⟩
  · obtain ⟨t',rfl⟩:=hv
    have hd':((List.range m)[i]?).map (fun (i:Nat)=>D.int (a + (i:Int))) = some d:=by simpa [rangeD] using hd
    cases q:(List.range m)[i]? with
    | none=>rw [q] at hd'; cases hd'
    | some j =>
      have hj:j = i:=by
        have:=List.getElem?_eq_some_iff.mp q
        obtain ⟨_,e⟩:=this
        rw [List.getElem_range] at e; exact e.symm
      rw [q,hj] at hd'
      simp only [Option.map_some,Option.some.injEq] at hd'
      subst hd'
      have e:a + (i:Int) * 1 = a + i:=by lia
      rw [e]; exact .int _ _
theorem kb1 {e:Expr}{m:Nat}{xp pos:Pos}(hg:GV h₀ "range" (.type "range")) (hk:sc.names.lookup ("range" : Str) = some .globalImplicit) (he:EV w h₀ n sc ω σ e (.int m)) (hm:m ≤ 1000000) (ns:isStarred e = false:=by rfl):IterE w h₀ n sc ω σ (.Call (.Name "range" xp) [e] [] pos) (rangeD 0 m):=fun A env X s0 s Q E rm S h=>by
  show wpAny _ A (do callWith pos (← eval (.Name "range" xp) env) [] (backTo pos (starEach [e] env)) []) _ E s
  refine wpAny_bind (ka3 hg hk A env X s0 s rm S _ _ fun v s₁ n₁ rv=>?_)
  have:=rv.val_eq; subst this
  refine kb0 rm (.inr (.inl ⟨_,rfl⟩)) (.cons ns he .nil) (S.nx n₁) fun vs s₂ n₂ rs=>?_
  obtain ⟨v,rfl,r⟩:=rs.one; obtain ⟨t,rfl⟩:=r.int_eq
  have n₃:=n₁.trans n₂
  have n₄:Nx h₀ s₂ { s₂ with heap:=s₂.heap.push { cls:=.type "range",data:=.fields #[.int 0 s₂.toks, .int m t, .int 1 (s₂.toks + 1)] },toks:=s₂.toks + 1 + 1 }:=.push n₃.2 _ _
  refine call_range_1 (kez (s:=s) (m:=m) rm (S.nx (n₃.trans n₄)).op (n₃.trans n₄) (IsRange.new ..) (by lia) (by lia) (by lia) hm (fun I hI=>?_) h)
  cases q:s.heap.get? I with
  | none=>rfl
  | some o =>
    by_cases ht:I = Tb
    · subst ht
      obtain ⟨ps,e,_⟩:=(n₃.trans n₄).2.tab
      rw [e] at hI; cases hI
    · rw [(n₃.trans n₄).1.get ht q] at hI; cases hI
theorem kkx {e e':Expr}{a:Int}{m:Nat}{xp pos:Pos}(hg:GV h₀ "range" (.type "range")) (hk:sc.names.lookup ("range" : Str) = some .globalImplicit) (he:EV w h₀ n sc ω σ e (.int a)) (he':EV w h₀ n sc ω σ e' (.int (a + m))) (ha:0 ≤ a) (ha':a ≤ 1000) (hm:m ≤ 1000000) (ns:isStarred e = false:=by rfl) (ns':isStarred e' = false:=by rfl):IterE w h₀ n sc ω σ (.Call (.Name "range" xp) [e,e'] [] pos) (rangeD a m):=fun A env X s0 s Q E rm S h=>by
  show wpAny _ A (do callWith pos (← eval (.Name "range" xp) env) [] (backTo pos (starEach [e,e'] env)) []) _ E s
  refine wpAny_bind (ka3 hg hk A env X s0 s rm S _ _ fun v s₁ n₁ rv=>?_)
  have:=rv.val_eq; subst this
  refine kb0 rm (.inr (.inl ⟨_,rfl⟩)) (.cons ns he (.cons ns' he' .nil)) (S.nx n₁) fun vs s₂ n₂ rs=>?_
  obtain ⟨v,u,rfl,r,r'⟩:=rs.two; obtain ⟨t,rfl⟩:=r.int_eq; obtain ⟨t',rfl⟩:=r'.int_eq
  have n₃:=n₁.trans n₂
  have n₄:Nx h₀ s₂ { s₂ with heap:=s₂.heap.push { cls:=.type "range",data:=.fields #[.int a t, .int (a + m) t', .int 1 s₂.toks] },toks:=s₂.toks + 1 }:=.push n₃.2 _ _
  refine call_range_2 (kez (s:=s) (m:=m) rm (S.nx (n₃.trans n₄)).op (n₃.trans n₄) (IsRange.new ..) (by lia) (by lia) (by lia) hm (fun I hI=>?_) h)
  cases q:s.heap.get? I with
  | none=>rfl
  | some o =>
    by_cases ht:I = Tb
    · subst ht
      obtain ⟨ps,e,_⟩:=(n₃.trans n₄).2.tab
      rw [e] at hI; cases hI
    · rw [(n₃.trans n₄).1.get ht q] at hI; cases hI
end
end
section
open PySem.Builtin PySem.Builtin.Str PySem.SeqAt
noncomputable def nameStep (acc:List (List Nat)) (c:List Nat):List (List Nat):=if (c == [46,46]) = true then sl none (some (-1)) acc else if (c == [] || c == [46]) = true then acc else acc ++ [c]
noncomputable def namesT (ps:List (List Nat)):List (List Nat):=ps.foldl nameStep []
noncomputable abbrev T (x:List Nat):D:=tx false x
theorem kkj (x y:List Nat):(Str.mk x.toArray == Str.mk y.toArray) = (x == y):=by
  rw [Bool.eq_iff_iff,beq_iff_eq,beq_iff_eq]
  constructor
  · intro e; have:=congrArg (fun z:Str=>z.cps.toList) e; simpa using this
  · intro e; rw [e]
section
variable {w:World}{h₀:Heap}(G:Gr w h₀)
include G
theorem f_names {ps:List (List Nat)}(hn:ps.length ≤ 500) (hok:∀ p ∈ ps,okTx false p ∧ okEq (T p) = true):CallR w h₀ 3 (.ref 176) [.list (ps.map T)] (.list ((namesT ps).map T)):=by
  refine kaq (vars:=[("pieces", .loc),("names", .loc),("piece", .loc)]) ⟨⟨_,G.K 176 _ rfl,rfl⟩,rfl,rfl,rfl,rfl,⟨_,_,_,_,rfl,G.K _ _ rfl,rfl,rfl⟩,rfl,rfl,G.lim,by decide +kernel,rfl⟩ (kaa (len1 fun _=>?_)) ?_
  · rfl
  · refine ka5 (ka1 (kaj .nil) (.s .z)) ?_
    refine ka5 (kdt (.of (ka0 .z) kae) (FL.fold (fun _=>[]) (fun (st:List (List Nat) × Option D)=>[⟨"pieces", .loc,some (.list (ps.map T))⟩,⟨"names", .loc,some (.list (st.1.map T))⟩,⟨"piece", .loc,st.2⟩]) (fun st c=>(nameStep st.1 c,some (T c))) T
      (fun k st=>st.1.length ≤ k ∧ k ≤ 500) ps 0 ([],none) ⟨Nat.le_refl _,by lia⟩ ?_)) ?_
    · intro k st c hc hI
      obtain ⟨acc,o⟩:=st
      obtain ⟨i1,i2⟩:=hI
      have hcm:=List.mem_of_getElem? hc
      obtain ⟨hcx,hce⟩:=hok c hcm
      have hk:k < 500:=by have:=(List.getElem?_eq_some_iff.mp hc).1; lia
      have hlen:(nameStep acc c).length ≤ acc.length + 1:=by
        unfold nameStep
        split
        · have:=kj2 none (some (-1)) acc; lia
        · split <;> simp
      have i1':acc.length ≤ 0 + k:=i1
      refine ⟨⟨by show (nameStep acc c).length ≤ _; lia,by lia⟩,[⟨"pieces", .loc,some (.list (ps.map T))⟩,⟨"names", .loc,some (.list (acc.map T))⟩,⟨"piece", .loc,some (T c)⟩],fun p=>kac (.s (.s .z)), .inl fun p=>?_⟩
      show SX _ _ _ _ _ _ _ (.next [p] [⟨"pieces", .loc,some (.list (ps.map T))⟩,⟨"names", .loc,some (.list ((nameStep acc c).map T))⟩,⟨"piece", .loc,some (T c)⟩])
      refine ka4 (ss_if (kam (ka0 (.s (.s .z))) kag (kb6 hcx (y:=[46,46]) okTx.dotdot)) (fun h1=>?_) fun h1=>?_)
      · have e:nameStep acc c = sl none (some (-1)) acc:=by unfold nameStep; rw [if_pos h1]
        rw [e, ← kj1]
        exact ka4 (ka1 (kav (ka0 (.s .z)) .none (.some (ev_un ka7 kd5)) .none (kcg (by rw [List.length_map]; lia))) (.s .z))
      · have h1':¬ ((c == [46,46]) = true):=by rw [h1]; exact Bool.false_ne_true
        refine ka4 (ss_if (c:=!(c == [] || c == [46])) ((kam (ka0 (.s (.s .z))) (kb4 (.cons rfl kag (.cons rfl kag .nil))) (kge hce (by decide +kernel))).cast ?_) (fun h2=>?_) fun h2=>?_)
        · show (!(PyData.eqv (.str ⟨[].toArray⟩) (.str ⟨c.toArray⟩) || (PyData.eqv (.str ⟨[46].toArray⟩) (.str ⟨c.toArray⟩) || false))) = _
          show (!((Str.mk [].toArray == Str.mk c.toArray) || ((Str.mk [46].toArray == Str.mk c.toArray) || false))) = _
          rw [kkj,kkj,Bool.or_false,Bool.beq_comm (a:=[]),Bool.beq_comm (a:=[46])]
        · have e:nameStep acc c = acc ++ [c]:=by unfold nameStep; rw [if_neg h1',if_neg (by simpa using h2)]
          rw [e,List.map_append]
          exact ka4 (ka1 (kad (ka0 (.s .z)) (kaj (.cons rfl (ka0 (.s (.s .z))) .nil)) (kb3 (by simp; lia))) (.s .z))
        · have e:nameStep acc c = acc:=by unfold nameStep; rw [if_neg h1',if_pos (by rw [Bool.not_eq_false'] at h2; exact h2)]
          rw [e]
          exact kbw
    · have e1:∀ (cs acc:List (List Nat)) (o:Option D),(cs.foldl (fun (st:List (List Nat) × Option D) c=>(nameStep st.1 c,some (T c))) (acc,o)).1 = cs.foldl nameStep acc:=by
        intro cs
        induction cs with
        | nil=>intro _ _; rfl
        | cons c cs ih=>intro acc o; rw [List.foldl_cons,List.foldl_cons]; exact ih _ _
      refine ka4 (kab ?_)
      have e2:=e1 ps [] none
      unfold namesT
      rw [← e2]
      exact ka0 (.s .z)
theorem cal_names:Cal h₀ (.ref 176):=.inr (.inr ⟨_,_,_,rfl,G.K 176 _ rfl,rfl⟩)
end
end
section
open PySem.Builtin
noncomputable def setEmp (led:Bool):Obj:={ cls:=.type "set",dict:=none,data:=.set #[] 0 (.fresh 0 0 led) }
noncomputable def setTab (led:Bool):SetTable:={ mask:=7,place:=#[1],dummies:=#[],finger:=0,led:=led,moves:=0,plain:=true }
noncomputable def setOne (led:Bool):Obj:=Obj.putSet #[(1, .bool true)] (setTab led) (setEmp led)
noncomputable def setObj (led b:Bool):Obj:=if b then setOne led else setEmp led
theorem kh5 (led b:Bool):∃ es ep t,(setObj led b).data = .set es ep t ∧ t.fits es.size = true:=by
  cases b
  · exact ⟨_,_,_,rfl,rfl⟩
  · exact ⟨_,_,_,rfl,rfl⟩
theorem setObj_cls (led b:Bool):(setObj led b).cls = .type "set" := by cases b <;> rfl
section
variable {pg:Program}{w:World}{A:Around}{E:Value → Shared → Prop}{s:Shared}
theorem kgo {Q:Int → Shared → Prop}(h:∀ tk,Q 1 { s with toks:=tk }):wpAny (model pg w) A (pyHash (.bool true)) Q E s:=by
  unfold pyHash
  show wpAny _ _ (pyHashByItsType (.bool true)) Q E s
  unfold pyHashByItsType
  have hv:[Value.bool true].any Value.onHeap = false:=rfl
  refine wpAny_bind ?_
  rw [cRoomFor,if_neg (by rw [hv]; exact Bool.false_ne_true)]; refine wpAny_pure ?_
  have hT:s.TypeIs (.bool true) "bool" := rfl
  refine wpAny_bind (wpAny_specialOf hT F.slot_bool_hash.lookup ?_)
  show wpAny _ _ (if (some (Value.builtin "int.__hash__") == some Value.none) = true then _ else _) Q E s
  rw [if_neg (by rw [beq_builtin_none]; exact Bool.false_ne_true)]
  refine wpAny_bind (wpAny_specialOf hT F.slot_bool_hash.lookup ?_)
  show wpAny _ _ (callSpecialIfBoundUnlessNone? (.bool true) "__hash__" _ >>= _) Q E s
  refine wpAny_bind (wpAny_callSpecialIfBoundUnlessNone?_slot hT F.slot_bool_hash
    (wpAny_call_entry F.slot_bool_hash hT entry_int_hash
      (show wpAny _ _ (do ret (← mkInt (rawHash 1))) _ _ s from wpAny_ret_mkInt ?_) (args_int_hash _)))
  exact wpAny_pure (h _)
theorem kgp {Q:Bool → Shared → Prop}(h:Q true s):wpAny (model pg w) A (eqBool (.bool true) (.bool true)) Q E s:=by
  unfold eqBool
  refine wpAny_holding ?_
  rw [if_pos (by rfl)]
  exact wpAny_bind (wpAny_rule (wpAny_pure h))
theorem wp_set_add {a:Addr}{led b:Bool}{Q:Value → Shared → Prop}(h:s.heap.get? a = some (setObj led b))
    (k:∀ h' tk,Heap.SameBut a s.heap h' → h'.get? a = some (setObj led true) → Q .none { s with heap:=h',toks:=tk }) :
    wpAny (model pg w) A (call (.builtin "set.add") [.ref a, .bool true]) Q E s:=by
  have hT:s.TypeIs (.ref a) "set" := ⟨_,h,setObj_cls led b⟩
  refine wpAny_call_entry F.slot_set_add hT F.entry_set_add ?_ (F.args_set_add_2 _ _)
  show wpAny _ _ (setAdd a (.bool true) >>= _) _ _ _
  unfold setAdd
  refine wpAny_bind (wpAny_holding (wpAny_bind (kgo fun tk=>?_)))
  unfold setAddHashed setAddHashedIn
  cases b with
  | false =>
    refine wpAny_holding (wpAny_bind (wpAny_setState_of (s:={ s with toks:=tk }) h rfl rfl ?_))
    show wpAny _ _ (if byScan (.bool true) #[] = true then _ else _) _ _ _
    rw [if_pos (by decide +kernel)]
    unfold setAddByScan
    refine wpAny_bind ?_
    refine wpAny_bind (wpAny_rule ?_)
    show wpAny _ _ (pure ScanMet.absent >>= _) _ _ _
    refine wpAny_bind (wpAny_pure ?_)
    have hl:layNew (SetTable.fresh 0 0 led) #[] 1 (.bool true) = (#[(1, .bool true)],setTab led,false,false):=by cases led <;> rfl
    simp only [hl]
    refine wpAny_bind (wpAny_pure ?_)
    show wpAny _ _ (hashByValue 8 (.bool true) >>= _) _ _ _
    rw [hashByValue_scannable 8 rfl]
    refine wpAny_bind (wpAny_pure ?_)
    refine wpAny_bind (wpAny_storeSet_of (s:={ s with toks:=tk }) h rfl ?_ (by show 1 ≤ sizeLine; rw [sizeLine_eq]; lia))
    have hf:((!false && (setTab led).tooFull)) = false:=by cases led <;> rfl
    show wpAny _ _ (if ((!false && (setTab led).tooFull)) = true then _ else _) _ _ _
    rw [hf,if_neg Bool.false_ne_true]
    refine wpAny_pure ?_
    show wpAny _ _ (pure true) _ _ _
    refine wpAny_pure ?_
    show wpAny _ _ (ret Value.none) _ _ _
    exact wpAny_pure ⟨_,rfl,k _ _ (Heap.SameBut.update ..) (Heap.get?_update_self _ h rfl)⟩
  | true =>
    refine wpAny_holding (wpAny_bind (wpAny_setState_of (s:={ s with toks:=tk }) h rfl rfl ?_))
    show wpAny _ _ (if byScan (.bool true) #[(1, .bool true)] = true then _ else _) _ _ _
    rw [if_pos (by decide +kernel)]
    unfold setAddByScan
    refine wpAny_bind ?_
    refine wpAny_bind (wpAny_rule ?_)
    show wpAny _ _ (setScanFrom a (.bool true) 1 true [(1, .bool true)] 0 >>= _) _ _ _
    unfold setScanFrom
    rw [if_pos (by rfl)]
    refine wpAny_bind (wpAny_bind (wpAny_setEpoch_of (s:={ s with toks:=tk }) h rfl rfl ?_))
    refine wpAny_bind (kgp ?_)
    show wpAny _ _ (pure (ScanMet.found 0)) _ _ _
    refine wpAny_pure (wpAny_pure ?_)
    refine wpAny_pure ?_
    show wpAny _ _ (ret Value.none) _ _ _
    exact wpAny_pure ⟨_,rfl,k s.heap tk (Heap.SameBut.refl ..) h⟩
end
end
section
open PySem.Builtin PySem.Builtin.Str PySem.SeqAt
section
variable {w:World}{h₀:Heap}{n:Nat}{sc:Scope}
inductive CL (w:World) (h₀:Heap) (n:Nat) (sc:Scope) (elt:Expr):List Comprehension → List Var → List D → List D → List D → List Var → Prop
  | nil {gs:List Comprehension}{σ:List Var}{acc:List D} : CL w h₀ n sc elt gs σ [] acc acc σ
  | skip {g:Comprehension}{gs:List Comprehension}{σ σ₁ σ':List Var}{d:D}{ds acc acc':List D} : (∀ ω,AsgR w h₀ n sc ω g.target d σ σ₁) → (∀ ω,TVs w h₀ n sc ω σ₁ .And g.ifs false) → CL w h₀ n sc elt (g :: gs) σ₁ ds acc acc' σ' → CL w h₀ n sc elt (g :: gs) σ (d :: ds) acc acc' σ'
  | emit {g:Comprehension}{σ σ₁ σ':List Var}{d y:D}{ds acc acc':List D} : (∀ ω,AsgR w h₀ n sc ω g.target d σ σ₁) → (∀ ω,TVs w h₀ n sc ω σ₁ .And g.ifs true) → (∀ ω,EV w h₀ n sc ω σ₁ elt y) → CL w h₀ n sc elt [g] σ₁ ds (acc ++ [y]) acc' σ' → CL w h₀ n sc elt [g] σ (d :: ds) acc acc' σ'
  | nest {g g':Comprehension}{gs:List Comprehension}{σ σ₁ σ₂ σ':List Var}{d:D}{ds ds₁ acc acc₁ acc':List D} : (∀ ω,AsgR w h₀ n sc ω g.target d σ σ₁) → (∀ ω,TVs w h₀ n sc ω σ₁ .And g.ifs true) → (∀ ω,IterE w h₀ n sc ω σ₁ g'.iter ds₁) → CL w h₀ n sc elt (g' :: gs) σ₁ ds₁ acc acc₁ σ₂ → CL w h₀ n sc elt (g :: g' :: gs) σ₂ ds acc₁ acc' σ' → CL w h₀ n sc elt (g :: g' :: gs) σ (d :: ds) acc acc' σ'
theorem CL.len {elt:Expr}{gs:List Comprehension}{σ σ':List Var}{ds acc acc':List D}(c:CL w h₀ n sc elt gs σ ds acc acc' σ'):acc.length ≤ acc'.length:=by
  induction c with
  | nil=>exact Nat.le_refl _
  | skip _ _ _ ih=>exact ih
  | emit _ _ _ _ ih=>rw [List.length_append] at ih; exact Nat.le_trans (Nat.le_add_right _ _) ih
  | nest _ _ _ _ _ ih1 ih2=>exact Nat.le_trans ih1 ih2
theorem kis {A:Around}{env:Env}{X:List Addr}{s0:Shared}{E:Value → Shared → Prop}{ω:Owns}{σ:List Var}{f:Expr → Bool → Sem (ForInStep Bool)}(rm:Room A n)
    (hf:∀ c r,f c r = if r = true then (do let ok ← isTrue c env (eval c env); pure (ForInStep.yield ok)) else pure (ForInStep.yield r)):∀ {es:List Expr}{s:Shared}{Q:Bool → Shared → Prop},Q false s → wpAny (model prog w) A (forIn es false f) Q E s
  | [],s,Q,h=>by rw [List.forIn_nil]; exact wpAny_pure h
  | e :: es,s,Q,h=>by
    rw [List.forIn_cons,hf,if_neg Bool.false_ne_true]
    exact wpAny_bind (wpAny_pure (kis (X:=X) (s0:=s0) (ω:=ω) (σ:=σ) rm hf h))
set_option tactic.hygienic true in
theorem wp_tests {A:Around}{env:Env}{X:List Addr}{s0:Shared}{E:Value → Shared → Prop}{ω:Owns}{σ:List Var}{f:Expr → Bool → Sem (ForInStep Bool)}(rm:Room A n)
    (hf:∀ c r,f c r = if r = true then (do let ok ← isTrue c env (eval c env); pure (ForInStep.yield ok)) else pure (ForInStep.yield r)):∀ {es:List Expr}{c:Bool}{s:Shared}{Q:Bool → Shared → Prop},TVs w h₀ n sc ω σ .And es c → St h₀ sc env X s0 ω σ s →
    (∀ s',Nx h₀ s s' → Q c s') → wpAny (model prog w) A (forIn es true f) Q E s
  | [],_,s,Q,t,S,h=>by
    cases t
    rw [List.forIn_nil]; exact wpAny_pure (h s (.refl S.gi))
  | e :: es,c,s,Q,t,S,h=>by
    cases t with
    | cons t1 t2 t3 =>
      rename_i b
      rw [List.forIn_cons,hf,if_pos rfl]
      refine wpAny_bind (wpAny_bind (t1 A env X s0 s rm S _ _ fun s₁ n₁=>wpAny_pure ?_))
      cases b with
      | true=>exact wp_tests rm hf (t2 rfl) (S.nx n₁) fun s₂ n₂=>h s₂ (n₁.trans n₂)
      | false =>
        have e:=t3 (by decide)
        subst e
        exact kis (X:=X) (s0:=s0) (ω:=ω) (σ:=σ) rm hf (h s₁ n₁)
end
noncomputable def cexp:Bool → Expr → List Comprehension → Scope → Pos → Expr
  | false,elt,gens,scope,pos=>.ListComp elt gens scope pos
  | true,elt,gens,scope,pos=>.SetComp elt gens scope pos
noncomputable def emitT:Bool → Expr → Value → Env → Sem Unit
  | false,elt,acc,env=>eval elt env >>= fun x=>call (.builtin "list.append") [acc,x] >>= fun _=>pure ()
  | true,elt,acc,env=>eval elt env >>= fun x=>standAt elt.pos >>= fun _=>call (.builtin "set.add") [acc,x] >>= fun _=>pure ()
noncomputable def accObj (led:Bool):Bool → Obj
  | false=>{ cls:=.type "list",data:=.seq ([]:List Value).toArray }
  | true=>setEmp led
noncomputable def accCn (led:Bool):Bool → List D → Cn
  | false,acc=>.lst acc
  | true,acc=>.obj (setObj led (!acc.isEmpty))
noncomputable def accOk:Bool → List D → Prop
  | false,_=>True
  | true,acc=>∀ d ∈ acc,d = .bool true
theorem accObj_is {led:Bool}{k:Bool}{X:List Addr}{s:Shared}{a:Addr}(h:s.heap.get? a = some (accObj led k)):CnIs X s a (accCn led k []):=by
  cases k with
  | false=>exact ⟨[],⟨_,h⟩, .nil⟩
  | true=>exact ⟨h, .inr ⟨_,_,_,rfl⟩⟩
theorem accObj_free (led k:Bool):(accObj led k).isFreed = false:=by cases k <;> rfl
theorem kgd (k:Bool) (elt:Expr) (gens:List Comprehension) (scope:Scope) (pos:Pos) (depth:Nat) (it acc:Value) (env:Env) (g:Comprehension) (hg:gens[depth]? = some g) (h0:g.is_async = 0):compTurn (cexp k elt gens scope pos) depth it acc env = (standAt g.iter.pos >>= fun _=>pyNext it >>= fun r=>match r with
      | none=>pure (.done .next)
      | some v=>letOwnedTupleGo g.target it v >>= fun _=>assign g.target env v >>= fun _ =>
        (forIn g.ifs true fun c r=>if r = true then do let ok ← isTrue c env (eval c env); pure (ForInStep.yield ok) else pure (ForInStep.yield r)) >>= fun ok =>
          if ok = true then (match gens[depth + 1]? with
            | some g'=>(do
               let x ← eval g'.iter env
               standAt g'.iter.pos
               let x ← if g'.is_async != 0 then foldedIterable g'.iter x else foldedSetIterable g'.iter env x
               let _ ← runOwn (.compStart (cexp k elt gens scope pos) (depth + 1) (← holding [x] (if g'.is_async != 0 then asyncIter x else pyIter x)) acc env) env
               again (.compLoop (cexp k elt gens scope pos) depth it acc env))
            | none=>(emitT k elt acc env >>= fun _=>again (.compLoop (cexp k elt gens scope pos) depth it acc env)))
          else again (.compLoop (cexp k elt gens scope pos) depth it acc env)):=by
  obtain ⟨t,i,fs,a⟩:=g
  simp only at h0
  subst h0
  cases k <;> (unfold compTurn; simp only [cexp,hg]; rfl)
theorem code_start {w:World}{A:Around}{R:Result → Shared → Prop}{s:Shared}{k:Bool}{elt:Expr}{gens:List Comprehension}{scope:Scope}{pos:Pos}{depth:Nat}{it acc:Value}{env:Env}
    (h:wpAny (model prog w) A ((compStart (cexp k elt gens scope pos) depth it acc env).onRaise (fun x=>do noteFrame x env; standAt theWindowsPlace)) (fun fin s'=>match fin with
      | .done f=>R (.ok f) s'
      | .again c'=>c'.quiet = true ∧ codeAny (model prog w) A c' R s') (fun e s'=>R (.error e) s') s):codeAny (model prog w) A (.compStart (cexp k elt gens scope pos) depth it acc env) R s:=by
  cases k <;> exact codeAny_of_tree h
theorem kk1 {w:World}{A:Around}{R:Result → Shared → Prop}{s:Shared}{k:Bool}{elt:Expr}{gens:List Comprehension}{scope:Scope}{pos:Pos}{depth:Nat}{it acc:Value}{env:Env}
    (h:wpAny (model prog w) A ((compTurn (cexp k elt gens scope pos) depth it acc env).onRaise (fun x=>do noteFrame x env; theTreesLotGoes x)) (fun fin s'=>match fin with
      | .done f=>R (.ok f) s'
      | .again c'=>c'.quiet = true ∧ codeAny (model prog w) A c' R s') (fun e s'=>R (.error e) s') s):codeAny (model prog w) A (.compLoop (cexp k elt gens scope pos) depth it acc env) R s:=by
  cases k <;> exact codeAny_of_tree h
theorem kea {w:World}{A:Around}{R:Result → Shared → Prop}{s:Shared}{k:Bool}{elt:Expr}{gens:List Comprehension}{scope:Scope}{pos:Pos}{depth:Nat}{it acc:Value}{env:Env}{g:Comprehension}(hg:gens[depth]? = some g) (h0':g.is_async = 0)
    (h0:codeAny (model prog w) A (.compLoop (cexp k elt gens scope pos) depth it acc env) R s)
    (h:wpAny (model prog w) A (pyIter it) (fun it' s'=>codeAny (model prog w) A (.compLoop (cexp k elt gens scope pos) depth it' acc env) R s')
      (notedBy (model prog w) A env fun x s'=>R (.error x) s') s) :
    codeAny (model prog w) A (.compStart (cexp k elt gens scope pos) depth it acc env) R s:=by
  refine code_start ?_
  refine wpAny_notedAt ?_
  unfold compStart
  have e:(clausesOf (cexp k elt gens scope pos))[depth]? = some g:=by cases k <;> exact hg
  rw [e]
  have e2:(Option.elim (some g) false fun x=>x.is_async != 0) = false:=by show (g.is_async != 0) = false; rw [h0']; rfl
  rw [e2]
  show wpAny _ _ (ask >>= _) _ _ s
  refine wpAny_bind (wpAny_askSetting (wpAny_ite ?_))
  split
  · first
      | exact wpAny_bind (wpAny_pure (wpAny_pure (And.intro rfl h0)))
      | exact wpAny_pure (And.intro rfl h0)
  · exact wpAny_bind (wpAny_rule (wpAny_bind (wpAny_standAt (wpAny_bind (wpAny_mono h (fun it' s' h'=>wpAny_pure (And.intro rfl h')) fun _ _ x=>x)))))
section
variable {w:World}{h₀:Heap}{n:Nat}{sc:Scope}
noncomputable abbrev AlI (I:Addr) (Si:Nat → Heap → Prop):Prop:=∀ i h,Si i h → ItObj I h
noncomputable def finQ (w:World) (A:Around) (RR:Result → Shared → Prop) (f:PySem.Fin) (s':Shared):Prop:=match f with
  | .done f=>RR (.ok f) s'
  | .again c'=>c'.quiet = true ∧ codeAny (model prog w) A c' RR s'
noncomputable def flowQ (w:World) (A:Around) (env:Env) (RR:Result → Shared → Prop) (c:Code) (r:Result) (s':Shared):Prop:=match r with
  | .ok f=>wpAny (model prog w) A (again c) (finQ w A RR) (notedBy (model prog w) A env fun e s'=>RR (.error e) s') s'
  | .error e=>cameBackBy (model prog w) A env (notedBy (model prog w) A env fun e s'=>RR (.error e) s') e s'
theorem ket {env:Env}{s0:Shared}{A:Around}{I:Addr}{fp:List Addr}{P:Nat → Value → Prop}{Si:Nat → Heap → Prop}{m:Nat}{ω₁ ω₂:Owns}{σ₁ σ₂:List Var}{i:Nat}{o:Obj}{X X':List Addr}{s s':Shared}(W:Walks prog w A I fp [I] m P Si) (S:St h₀ sc env X s0 ((I, .obj o) :: ω₁) σ₁ s) (st:Si i s.heap) (g:Grow X s X' s') (S':St h₀ sc env X' s0 ((I, .obj o) :: ω₂) σ₂ s') (hfp:∀ b ∈ fp,b = I ∨ (b ∉ X ∧ ∃ o,s.heap.get? b = some o)) :
      Si i s'.heap ∧ (∀ b ∈ fp,b = I ∨ (b ∉ X' ∧ ∃ o,s'.heap.get? b = some o)):=by
  have hI:s.heap.get? I = some o:=(S.owns.is _ (.head _)).2.2.1
  refine ⟨W.frame _ _ _ st fun b hb ob e=>?_,fun b hb=>?_⟩
  · rcases hfp b hb with rfl | ⟨hbX,_⟩
    · have q1:s'.heap.get? b = some o:=(S'.owns.is _ (.head _)).2.2.1
      rw [hI] at e; cases e; exact q1
    · exact g.keep b ob hbX e
  · rcases hfp b hb with rfl | ⟨hbX,ob,eb⟩
    · exact .inl rfl
    · refine .inr ⟨fun q=>(g.new b q).elim hbX fun z=>?_,ob,g.keep b ob hbX eb⟩
      rw [z] at eb; cases eb
theorem ke9 {P:Nat → Value → Prop}{all:List D}{X X':List Addr}{s s':Shared}(g:Grow X s X' s') (hit:∀ i v d,P i v → all[i]? = some d → R X s.heap v d):∀ i v d,P i v → all[i]? = some d → R X' s'.heap v d:=by
  intro i v d h1 h2
  refine ((hit i v d h1 h2).weak (Y:=X') fun a ha ⟨o,e⟩=>(g.new a ha).elim id fun z=>?_).keep fun b o hb e=>g.keep b o (fun q=>hb (g.sub b q)) e
  rw [z] at e; cases e
theorem kbb {all:List D}{i:Nat}{d:D}{ds:List D}(hd:all.drop i = d :: ds):all[i]? = some d ∧ all.drop (i + 1) = ds ∧ i + 1 ≤ all.length:=by
  have hlt:i < all.length:=by
    have:=congrArg List.length hd
    simp only [List.length_drop,List.length_cons] at this
    lia
  have e2:=List.drop_eq_getElem_cons hlt
  rw [e2] at hd
  cases hd
  exact ⟨by simp [hlt],rfl,hlt⟩
theorem kcb {gens:List Comprehension}{depth:Nat}{g:Comprehension}{gs:List Comprehension}(hd:gens.drop depth = g :: gs):gens[depth]? = some g ∧ gens.drop (depth + 1) = gs ∧ g ∈ gens:=by
  have hlt:depth < gens.length:=by
    have:=congrArg List.length hd
    simp only [List.length_drop,List.length_cons] at this
    lia
  have e2:=List.drop_eq_getElem_cons hlt
  rw [e2] at hd
  cases hd
  exact ⟨by simp [hlt],rfl,List.getElem_mem hlt⟩
theorem ke8 {I:Addr}{fp X:List Addr}{s s':Shared}(g:Grow X s X s') (hfp:∀ b ∈ fp,b = I ∨ (b ∉ X ∧ ∃ o,s.heap.get? b = some o)):∀ b ∈ fp,b = I ∨ (b ∉ X ∧ ∃ o,s'.heap.get? b = some o):=fun b hb =>
  (hfp b hb).imp id fun ⟨h1,o,h2⟩=>⟨h1,o,g.keep b o h1 h2⟩
theorem ke7 {A:Around}{env:Env}{s0:Shared}{k:Bool}{elt:Expr}{gens:List Comprehension}{scope0:Scope}{pos:Pos}{D':Addr}(rm:Room A n) (has:∀ g ∈ gens,g.is_async = 0)
    {depth:Nat}{g:Comprehension}{gs:List Comprehension}{I:Addr}{fp:List Addr}{P:Nat → Value → Prop}{Si:Nat → Heap → Prop}{all:List D}{i:Nat}{o:Obj}{X:List Addr}{s:Shared}{ω:Owns}{σ σ₁:List Var}{d:D}{c:Bool}{RR:Result → Shared → Prop}(hgs:gens.drop depth = g :: gs) (W:Walks prog w A I fp [I] all.length P Si) (al:AlI I Si)
    (S:St h₀ sc env X s0 ((I, .obj o) :: ω) σ s) (st:Si i s.heap) (hd:all[i]? = some d) (hfp:∀ b ∈ fp,b = I ∨ (b ∉ X ∧ ∃ o,s.heap.get? b = some o)) (hit:∀ i v d,P i v → all[i]? = some d → R X s.heap v d) (asg:∀ ω,AsgR w h₀ n sc ω g.target d σ σ₁) (tst:∀ ω,TVs w h₀ n sc ω σ₁ .And g.ifs c)
    (kk : ∀ o' s',St h₀ sc env X s0 ((I, .obj o') :: ω) σ₁ s' → Grow X s X s' → Si (i + 1) s'.heap → wpAny (model prog w) A (if c = true then (match gens[depth + 1]? with
            | some g'=>(do
               let x ← eval g'.iter env
               standAt g'.iter.pos
               let x ← if g'.is_async != 0 then foldedIterable g'.iter x else foldedSetIterable g'.iter env x
               let _ ← runOwn (.compStart (cexp k elt gens scope0 pos) (depth + 1) (← holding [x] (if g'.is_async != 0 then asyncIter x else pyIter x)) (.ref D') env) env
               again (.compLoop (cexp k elt gens scope0 pos) depth (.ref I) (.ref D') env))
            | none=>(emitT k elt (.ref D') env >>= fun _=>again (.compLoop (cexp k elt gens scope0 pos) depth (.ref I) (.ref D') env)))
          else again (.compLoop (cexp k elt gens scope0 pos) depth (.ref I) (.ref D') env)) (finQ w A RR) (notedBy (model prog w) A env fun e s'=>RR (.error e) s') s'):codeAny (model prog w) A (.compLoop (cexp k elt gens scope0 pos) depth (.ref I) (.ref D') env) RR s:=by
  obtain ⟨hg,_,hgm⟩:=kcb hgs
  refine kk1 ?_
  refine wpAny_noted ?_
  rw [kgd k elt gens scope0 pos depth (.ref I) (.ref D') env g hg (has g hgm)]
  have hlt:i < all.length:=(List.getElem?_eq_some_iff.mp hd).1
  refine wpAny_bind (wpAny_standAt (wpAny_bind (W.item i s _ _ hlt st fun v h' tk hPv st' hk=>?_)))
  obtain ⟨o',vs',T,e1,e2,e3,e4,e5⟩:=al _ _ st'
  obtain ⟨o₀,vs₀,T₀,f1,f2,f3,f4,f5⟩:=al _ _ st
  have S':St h₀ sc env X s0 ((I, .obj o') :: ω) σ { s with heap:=h',toks:=tk } :=
    S.turnObj (fun b o hb e=>hk b o (by simpa using hb) e) f3 ⟨o',e1⟩ ⟨e1, .inl ⟨vs',e2⟩⟩
  have haX:I ∈ X:=(S.owns.is _ (.head _)).1
  have g':Grow X s X { s with heap:=h',toks:=tk }:=⟨⟨_,_,rfl⟩,fun b o hb e=>hk b o (fun m=>hb (by rw [List.mem_singleton.mp m]; exact haX)) e,fun _ h=>h,fun _ h=>.inl h⟩
  refine wpAny_bind (kfr e1 e4 e5 (wpAny_bind (asg _ A env X s0 _ v _ _ rm S' ((hit i v d hPv hd).grow g') fun s₂ g₂ S₂=>?_)))
  have st₂:Si (i + 1) s₂.heap:=W.frame _ _ _ st' fun b hb ob e=>by
    rcases hfp b hb with rfl | ⟨hbX,ob',eb⟩
    · have q:=(S₂.owns.is _ (.head _)).2.2
      have q1:s₂.heap.get? b = some o':=q.1
      rw [e1] at e; cases e; exact q1
    · exact g₂.keep b ob hbX e
  refine wpAny_bind (wp_tests rm (fun _ _=>rfl) (tst _) S₂ fun s₃ n₃=>?_)
  have g₃:Grow X s₂ X s₃:=.of_nx n₃ S.tabX
  have st₃:Si (i + 1) s₃.heap:=W.frame _ _ _ st₂ fun b hb ob e=>by
    rcases hfp b hb with rfl | ⟨hbX,ob',eb⟩
    · have q1:s₂.heap.get? b = some o':=(S₂.owns.is _ (.head _)).2.2.1
      rw [q1] at e; cases e
      exact ((S₂.nx n₃).owns.is _ (.head _)).2.2.1
    · exact g₃.keep b ob hbX e
  exact kk o' s₃ (S₂.nx n₃) (g'.trans (g₂.trans g₃)) st₃
theorem kjz {A:Around}{env:Env}{s0:Shared}{k:Bool}{elt:Expr}{gens:List Comprehension}{scope0:Scope}{pos:Pos}{D':Addr}(rm:Room A n) (has:∀ g ∈ gens,g.is_async = 0)
    {depth:Nat}{g:Comprehension}{gs:List Comprehension}{I:Addr}{fp XB:List Addr}{P:Nat → Value → Prop}{Si:Nat → Heap → Prop}{m:Nat}{o:Obj}{X:List Addr}{s sB:Shared}{ω:Owns}{σ:List Var}{RR:Result → Shared → Prop}(hgs:gens.drop depth = g :: gs) (W:Walks prog w A I fp [I] m P Si) (al:AlI I Si)
    (S:St h₀ sc env X s0 ((I, .obj o) :: ω) σ s) (gB:Grow XB sB X s) (hIX:I ∉ XB) (st:Si m s.heap)
    (h:∀ s' X',Grow XB sB X' s' → St h₀ sc env X' s0 ω σ s' → RR (.ok .next) s'):codeAny (model prog w) A (.compLoop (cexp k elt gens scope0 pos) depth (.ref I) (.ref D') env) RR s:=by
  obtain ⟨hg,_,hgm⟩:=kcb hgs
  refine kk1 ?_
  refine wpAny_noted ?_
  rw [kgd k elt gens scope0 pos depth (.ref I) (.ref D') env g hg (has g hgm)]
  refine wpAny_bind (wpAny_standAt (wpAny_bind (W.done s _ _ st fun h' tk hk=>?_)))
  obtain ⟨o₀,vs₀,T₀,f1,f2,f3,f4,f5⟩:=al _ _ st
  have haX:I ∈ X:=(S.owns.is _ (.head _)).1
  refine wpAny_pure (h _ (X.filter (· != I)) ?_ (S.erase (fun b o hb e=>hk b o (by simpa using hb) e) f3))
  refine ⟨?_,fun b o hb e=>hk b o (fun m=>?_) (gB.keep b o hb e),fun a ha=>List.mem_filter.mpr ⟨gB.sub a ha,by simpa using fun q:a = I=>hIX (q ▸ ha)⟩,fun a ha=>gB.new a (List.mem_filter.mp ha).1⟩
  · obtain ⟨h1,t1,rfl⟩:=gB.same
    exact ⟨h',tk,rfl⟩
  · have hbI:b = I:=List.mem_singleton.mp m
    subst hbI
    rcases gB.new b haX with z | z
    · exact hb z
    · rw [z] at e; cases e
theorem wp_emit {A:Around}{env:Env}{s0:Shared}{led k:Bool}{elt:Expr}{D':Addr}{X:List Addr}{s:Shared}{ω:Owns}{σ:List Var}{p:Addr × Cn}{acc:List D}{y:D}{Q:Unit → Shared → Prop}{E:Value → Shared → Prop}(rm:Room A n) (S:St h₀ sc env X s0 (p :: (D',accCn led k acc) :: ω) σ s) (he:∀ ω,EV w h₀ n sc ω σ elt y)
    (hz:acc.length + 1 ≤ 1000) (hk:accOk k (acc ++ [y])) (h:∀ s',Grow X s X s' → St h₀ sc env X s0 (p :: (D',accCn led k (acc ++ [y])) :: ω) σ s' → Q () s'):wpAny (model prog w) A (emitT k elt (.ref D') env) Q E s:=by
  cases k with
  | false =>
    refine wpAny_bind (he _ A env X s0 s rm S _ _ fun v s₂ n₂ rv=>?_)
    have S₂:=S.nx n₂
    obtain ⟨q1,q2,vs,q3,q4⟩:=S₂.owns.is (D', .lst acc) (.tail _ (.head _))
    refine wpAny_bind (wpAny_list_append_plain q3 (fun h' hl hs=>?_) (by rw [List.size_toArray,q4.length,sizeLine_eq]; lia))
    have e':vs.toArray.push v = (vs ++ [v]).toArray:=by simp
    rw [e'] at hl
    obtain ⟨S₃,g₃⟩:=S₂.turnList (tk:=s₂.toks) (.s .z) hs hl (q4.append (.cons rv .nil))
    exact wpAny_pure (h _ ((Grow.of_nx n₂ S.tabX).trans g₃) S₃)
  | true =>
    have hy:y = .bool true:=hk y (by simp)
    subst hy
    refine wpAny_bind (he _ A env X s0 s rm S _ _ fun v s₂ n₂ rv=>wpAny_bind (wpAny_standAt ?_))
    have:=rv.bool_eq; subst this
    have S₂:=S.nx n₂
    obtain ⟨q1,q2,q3,q4⟩:=S₂.owns.is (D',accCn led true acc) (.tail _ (.head _))
    refine wpAny_bind (wp_set_add q3 fun h' tk hs hl=>?_)
    have hne:(!(acc ++ [D.bool true]).isEmpty) = true:=by cases acc <;> rfl
    have P1:(p :: (D',accCn led true acc) :: ω).Perm ((D',accCn led true acc) :: p :: ω):=.swap _ _ _
    have hcode:∀ q, ¬ s₂.heap.CodeRec (.ref D') q:=fun q ⟨_,o,vs,t,e,g,hd,_⟩=>by
      cases e
      rw [q3] at g; cases g
      obtain ⟨_,_,_,hd',_⟩:=kh5 led (!acc.isEmpty)
      rw [hd] at hd'; cases hd'
    have S₃:=((S₂.perm P1).turnObj (tk:=tk) (c':=accCn led true (acc ++ [D.bool true])) (fun b o hb e=>(hs.2 b hb).trans e) hcode ⟨_,hl⟩
      ⟨by show h'.get? D' = some (setObj led (!(acc ++ [D.bool true]).isEmpty)); rw [hne]; exact hl, .inr (let ⟨a,b,c,d,_⟩:=kh5 led (!(acc ++ [D.bool true]).isEmpty); ⟨a,b,c,d⟩)⟩).perm (ω':=p :: (D',accCn led true (acc ++ [D.bool true])) :: ω) (.swap _ _ _)
    exact wpAny_pure (h _ ((Grow.of_nx n₂ S.tabX).trans (.of_turn q1 hs)) S₃)
theorem CL.sub {elt:Expr}{gs:List Comprehension}{σ σ':List Var}{ds acc acc':List D}(c:CL w h₀ n sc elt gs σ ds acc acc' σ'):∀ d ∈ acc,d ∈ acc':=by
  induction c with
  | nil=>exact fun _ h=>h
  | skip _ _ _ ih=>exact ih
  | emit _ _ _ _ ih=>exact fun d h=>ih d (List.mem_append_left _ h)
  | nest _ _ _ _ _ ih1 ih2=>exact fun d h=>ih2 d (ih1 d h)
theorem accOk.sub {k:Bool}{acc acc':List D}(h:accOk k acc') (hs:∀ d ∈ acc,d ∈ acc'):accOk k acc:=by
  cases k with
  | false=>trivial
  | true=>exact fun d hd=>h d (hs d hd)
set_option tactic.hygienic true in
theorem wp_comp {A:Around}{env:Env}{s0:Shared}{led k:Bool}{elt:Expr}{gens:List Comprehension}{scope0:Scope}{pos:Pos}{D':Addr}(rm:Room A n) (has:∀ g ∈ gens,g.is_async = 0) (hfs:∀ g ∈ gens, ∀ env x,foldedSetIterable g.iter env x = pure x)
    {gs:List Comprehension}{σ σ':List Var}{ds acc acc':List D}(C:CL w h₀ n sc elt gs σ ds acc acc' σ') :
    ∀ {depth:Nat}{I:Addr}{fp XB:List Addr}{P:Nat → Value → Prop}{Si:Nat → Heap → Prop}{all:List D}{i:Nat}{o:Obj}{X:List Addr}{s sB:Shared}{ω:Owns}{RR:Result → Shared → Prop},gens.drop depth = gs → gs ≠ [] → Walks prog w A I fp [I] all.length P Si → AlI I Si →
    St h₀ sc env X s0 ((I, .obj o) :: (D',accCn led k acc) :: ω) σ s → Grow XB sB X s → I ∉ XB → Si i s.heap → i ≤ all.length → all.drop i = ds → (∀ b ∈ fp,b = I ∨ (b ∉ X ∧ ∃ o,s.heap.get? b = some o)) → (∀ i v d,P i v → all[i]? = some d → R X s.heap v d) → acc'.length ≤ 1000 → accOk k acc' →
    (∀ s' X',Grow XB sB X' s' → St h₀ sc env X' s0 ((D',accCn led k acc') :: ω) σ' s' → RR (.ok .next) s') → codeAny (model prog w) A (.compLoop (cexp k elt gens scope0 pos) depth (.ref I) (.ref D') env) RR s:=by
  induction C with
  | nil =>
    intro depth I fp XB P Si all i o X s sB ω RR hgs hne W al S gB hIX st hi hd hfp hit hz hak h
    rename_i gs' σ acc
    obtain ⟨g,gs,rfl⟩:=List.exists_cons_of_ne_nil hne
    have hn:i = all.length:=by
      have:=List.drop_eq_nil_iff.mp hd
      lia
    subst hn
    exact kjz rm has hgs W al S gB hIX st h
  | skip asg tst C' ih =>
    intro depth I fp XB P Si all i o X s sB ω RR hgs hne W al S gB hIX st hi hd hfp hit hz hak h
    obtain ⟨h1,h2,h3⟩:=kbb hd
    refine ke7 rm has hgs W al S st h1 hfp hit asg tst fun o' s' S' g' st'=>?_
    rw [if_neg Bool.false_ne_true]
    exact wpAny_pure ⟨rfl,ih hgs hne W al S' (gB.trans g') hIX st' h3 h2 (ke8 g' hfp) (ke9 g' hit) hz hak h⟩
  | emit asg tst he C' ih =>
    intro depth I fp XB P Si all i o X s sB ω RR hgs hne W al S gB hIX st hi hd hfp hit hz hak h
    rename_i g σ σ₁ σ' d y ds acc acc'
    obtain ⟨h1,h2,h3⟩:=kbb hd
    obtain ⟨_,hg2,_⟩:=kcb hgs
    have hnone:gens[depth + 1]? = none:=List.getElem?_eq_none (List.drop_eq_nil_iff.mp hg2)
    refine ke7 rm has hgs W al S st h1 hfp hit asg tst fun o' s' S' g' st'=>?_
    rw [if_pos rfl,hnone]
    have hlen:=C'.len
    rw [List.length_append,List.length_singleton] at hlen
    refine wpAny_bind (wp_emit rm S' he (by lia) (hak.sub C'.sub) fun s₃ gA S₃=>?_)
    obtain ⟨a1,a2⟩:=ket W S' st' gA S₃ (ke8 g' hfp)
    exact wpAny_pure ⟨rfl,ih hgs hne W al S₃ (gB.trans (g'.trans gA)) hIX a1 h3 h2 a2 (ke9 (g'.trans gA) hit) hz hak h⟩
  | nest asg tst hi' C1 C2 ih1 ih2 =>
    intro depth I fp XB P Si all i o X s sB ω RR hgs hne W al S gB hIX st hi hd hfp hit hz hak h
    rename_i g g' gs σ σ₁ σ₂ σ' d ds ds₁ acc acc₁ acc'
    obtain ⟨h1,h2,h3⟩:=kbb hd
    obtain ⟨_,hg2,_⟩:=kcb hgs
    obtain ⟨hg',_,hgm'⟩:=kcb hg2
    have hb0:(g'.is_async != 0) = false:=by rw [has g' hgm']; rfl
    refine ke7 rm has hgs W al S st h1 hfp hit asg tst fun o' s' S' gr' st'=>?_
    rw [if_pos rfl,hg']
    refine wpAny_bind (wpAny_mono (hi' _ A env X s0 s' (fun it s₂=>wpAny (model prog w) A (runOwn (.compStart (cexp k elt gens scope0 pos) (depth + 1) it (.ref D') env) env >>= fun _=>again (.compLoop (cexp k elt gens scope0 pos) depth (.ref I) (.ref D') env)) (finQ w A RR) (notedBy (model prog w) A env fun e s'=>RR (.error e) s') s₂) _ rm S' fun I' fp' P' Si' s₂ n₂ hI'X hI'n it=>?_) (fun x s₁ hx=>?_) fun _ _ e=>e)
    · obtain ⟨o₂,vs₂,T₂,e1,e2,e3,e4,e5⟩:=it.al _ _ it.st
      have S₂:St h₀ sc env (I' :: X) s0 ((I', .obj o₂) :: (I, .obj o') :: (D',accCn led k acc) :: ω) σ₁ s₂:=S'.adopt n₂ hI'n ⟨o₂,e1⟩ ⟨e1, .inl ⟨vs₂,e2⟩⟩
      have gA:Grow X s' (I' :: X) s₂:=.adopt n₂ S.tabX hI'n
      have loop:codeAny (model prog w) A (.compLoop (cexp k elt gens scope0 pos) (depth + 1) (.ref I') (.ref D') env) (flowQ w A env RR (.compLoop (cexp k elt gens scope0 pos) depth (.ref I) (.ref D') env)) s₂:=by
        refine ih1 (all:=ds₁) (i:=0) (o:=o₂) (X:=I' :: X) (ω:=(I, .obj o') :: ω) hg2 (List.cons_ne_nil _ _) it.W it.al (S₂.perm (.cons _ (.swap _ _ _))) gA hI'X it.st (Nat.zero_le _) rfl (fun b hb=>?_) (fun i v d h1 h2=>?_) (Nat.le_trans C2.len hz) (hak.sub C2.sub) fun s₃ X₃ g₃ S₃=>?_
        · rcases it.fpk b hb with q | ⟨q1,q2⟩
          · exact .inl q
          · by_cases z:b = I'
            · exact .inl z
            · exact .inr ⟨fun m=>(List.mem_cons.mp m).elim z q1,q2⟩
        · refine (it.items i v d h1 h2).weakS fun a ha q=>(List.mem_cons.mp ha).elim (fun z=>?_) id
          obtain ⟨its,q | q⟩:=q <;> (obtain ⟨o',ho',_,k',hd'⟩:=q; rw [z,e1] at ho'; cases ho'; rw [e2] at hd'; cases hd')
        · have S₄:=S₃.perm (ω':=(I, .obj o') :: (D',accCn led k acc₁) :: ω) (.swap _ _ _)
          obtain ⟨a1,a2⟩:=ket W S' st' g₃ S₄ (ke8 gr' hfp)
          exact wpAny_pure ⟨rfl,ih2 hgs hne W al S₄ (gB.trans (gr'.trans g₃)) hIX a1 h3 h2 a2 (ke9 (gr'.trans g₃) hit) hz hak h⟩
      refine wpAny_bind (wpAny_runOwn ?_)
      exact kea hg' (has g' hgm') loop (it.W.self 0 _ _ _ it.st loop)
    · refine wpAny_bind (wpAny_standAt ?_)
      rw [hb0]
      refine wpAny_bind ?_
      show wpAny _ A (foldedSetIterable g'.iter env x) _ _ s₁
      rw [hfs g' hgm' env x]
      exact wpAny_pure (wpAny_bind (wpAny_holding hx))
end
end
section
open PySem.Builtin PySem.Builtin.Str PySem.SeqAt
noncomputable def relab (scope sc:Scope):Scope:={ scope with names:=scope.names.map fun (n,k)=>if (k == .free && sc.kind == .function && sc.names.lookup n == some .cell) then (n, .cell) else (n,k) }
theorem relabel_eq {scope:Scope}{env:Env}{sc:Scope}(h:env.scope = sc):relabel scope env = relab scope sc:=by subst h; rfl
noncomputable def clFrom (cells:List (Str × Addr)):List (Str × NameKind) → List (Str × Addr) → List (Str × Addr)
  | [],acc=>acc
  | (x,k) :: r,acc=>if k == .free then clFrom cells r ((x,(cells.lookup x).getD 0) :: acc) else clFrom cells r acc
theorem kbt {scope:Scope}{env:Env}(h:∀ x,(x,NameKind.free) ∈ scope.names → (env.cells.lookup x).isSome = true):closureFor scope env = pure (clFrom env.cells scope.names []):=by
  have key:∀ (names:List (Str × NameKind)) (acc:List (Str × Addr)) (f:Str × NameKind → List (Str × Addr) → Sem (ForInStep (List (Str × Addr)))),
      (∀ x k cs,f (x,k) cs = if k == .free then (do let a ← cellOf env x; pure (.yield ((x,a) :: cs))) else pure (.yield cs)) → (∀ x,(x,NameKind.free) ∈ names → (env.cells.lookup x).isSome = true) → forIn names acc f = pure (clFrom env.cells names acc):=by
    intro names
    induction names with
    | nil=>intro acc f _ _; rfl
    | cons p r ih =>
      intro acc f hf hn
      obtain ⟨x,k⟩:=p
      rw [List.forIn_cons,hf]
      unfold clFrom
      by_cases hk:(k == NameKind.free) = true
      · rw [if_pos hk,if_pos hk]
        have hk':k = .free:=by simpa using hk
        subst hk'
        obtain ⟨c,hc⟩:=Option.isSome_iff_exists.mp (hn x (.head _))
        have e:cellOf env x = pure c:=by unfold cellOf; rw [hc]
        rw [e,hc]
        exact ih _ f hf fun y hy=>hn y (.tail _ hy)
      · rw [if_neg hk,if_neg hk]
        exact ih _ f hf fun y hy=>hn y (.tail _ hy)
  unfold closureFor
  have:=key scope.names [] (fun p r=>if p.2 == .free then (do let a ← cellOf env p.1; pure (.yield ((p.1,a) :: r))) else pure (.yield r)) (fun _ _ _=>rfl) h
  show (forIn scope.names [] _ >>= fun r=>pure r) = _
  rw [show (forIn scope.names ([]:List (Str × Addr)) (fun (x:Str × NameKind) r=>if x.2 == .free then (do let a ← cellOf env x.1; pure (ForInStep.yield ((x.1,a) :: r))) else pure (ForInStep.yield r)):Sem _) = pure (clFrom env.cells scope.names []) from this]
  rfl
set_option tactic.hygienic true in
theorem kev {cells:List (Str × Addr)} : ∀ {names:List (Str × NameKind)}{acc:List (Str × Addr)},(∀ x,(x,NameKind.free) ∈ names → (cells.lookup x).isSome = true) → (∀ p ∈ acc,cells.lookup p.1 = some p.2) → ∀ p ∈ clFrom cells names acc,cells.lookup p.1 = some p.2
  | [],acc,_,ha,p,hp=>ha p hp
  | (x,k) :: r,acc,hn,ha,p,hp=>by
    unfold clFrom at hp
    split at hp
    · rename_i hk
      have hk':k = .free:=by simpa using hk
      subst hk'
      obtain ⟨c,hc⟩:=Option.isSome_iff_exists.mp (hn x (.head _))
      refine kev (fun y hy=>hn y (.tail _ hy)) (fun q hq=>?_) p hp
      rcases List.mem_cons.mp hq with rfl | hq
      · rw [hc]; rfl
      · exact ha q hq
    · exact kev (fun y hy=>hn y (.tail _ hy)) ha p hp
set_option tactic.hygienic true in
theorem kdl {cells:List (Str × Addr)}{x:Str} : ∀ {names:List (Str × NameKind)}{acc:List (Str × Addr)},(x,NameKind.free) ∈ names ∨ (acc.lookup x).isSome = true → ((clFrom cells names acc).lookup x).isSome = true
  | [],acc,h=>h.elim (fun q=>by cases q) id
  | (y,k) :: r,acc,h=>by
    unfold clFrom
    split
    · refine kdl ?_
      rcases h with h | h
      · rcases List.mem_cons.mp h with e | h
        · cases e; right; simp [List.lookup_cons]
        · exact .inl h
      · right
        rw [List.lookup_cons]
        cases x == y with
        | true=>rfl
        | false=>exact h
    · rename_i hk
      refine kdl ?_
      rcases h with h | h
      · rcases List.mem_cons.mp h with e | h
        · cases e; exact absurd rfl hk
        · exact .inl h
      · exact .inr h
set_option tactic.hygienic true in
theorem kc1 {x:Str} : ∀ {names:List (Str × NameKind)}{n:Nat}{acc:List (Str × Addr)},(x,NameKind.cell) ∉ names → (cellsFrom n names acc).lookup x = acc.lookup x
  | [],_,_,_=>rfl
  | (y,k) :: r,n,acc,h=>by
    unfold cellsFrom
    split
    · rename_i hk
      have hk':k = .cell:=by simpa using hk
      subst hk'
      rw [kc1 fun q=>h (.tail _ q),List.lookup_cons]
      have:(x == y) = false:=by
        rw [beq_eq_false_iff_ne]; rintro rfl; exact h (.head _)
      rw [this]
    · exact kc1 fun q=>h (.tail _ q)
set_option tactic.hygienic true in
theorem kcn {p:Str × Addr} : ∀ {names:List (Str × NameKind)}{h:Heap}{acc:List (Str × Addr)},p ∈ cellsFrom h.objs.size names acc → p ∈ acc ∨ (h.objs.size ≤ p.2 ∧ (pushCells h names).IsCell p.2 none ∧ (p.1,NameKind.cell) ∈ names)
  | [],_,_,hp=>.inl hp
  | (y,k) :: r,h,acc,hp=>by
    unfold cellsFrom at hp
    unfold pushCells
    split at hp
    · rename_i hk
      have hk':k = .cell:=by simpa using hk
      subst hk'
      rw [if_pos hk]
      have e:h.objs.size + 1 = (h.push { cls:=.type "cell",data:=.cell none }).objs.size:=(Heap.size_push ..).symm
      rw [e] at hp
      rcases kcn hp with q | ⟨q1,q2,q3⟩
      · rcases List.mem_cons.mp q with rfl | q
        · exact .inr ⟨Nat.le_refl _,⟨_,pushCells_keeps _ _ _ _ (Heap.get?_push_size _ rfl),rfl⟩, .head _⟩
        · exact .inl q
      · rw [← e] at q1
        exact .inr ⟨by lia,q2, .tail _ q3⟩
    · rename_i hk
      rw [if_neg hk]
      rcases kcn hp with q | ⟨q1,q2,q3⟩
      · exact .inl q
      · exact .inr ⟨q1,q2, .tail _ q3⟩
theorem kco:∀ {names:List (Str × NameKind)}{n:Nat}{acc:List (Str × Addr)},(∀ p ∈ acc,p.2 < n) → (∀ p ∈ acc, ∀ q ∈ acc,p.2 = q.2 → p.1 = q.1) → ∀ p ∈ cellsFrom n names acc, ∀ q ∈ cellsFrom n names acc,p.2 = q.2 → p.1 = q.1
  | [],_,_,_,h=>h
  | (y,k) :: r,n,acc,hlt,h=>by
    unfold cellsFrom
    split
    · refine kco (fun p hp=>?_) fun p hp q hq e=>?_
      · rcases List.mem_cons.mp hp with rfl | hp
        · exact Nat.lt_succ_self _
        · exact Nat.lt_succ_of_lt (hlt p hp)
      · rcases List.mem_cons.mp hp with rfl | hp <;> rcases List.mem_cons.mp hq with rfl | hq
        · rfl
        · have:=hlt q hq
          have e':n = q.2:=e
          rw [← e'] at this; exact absurd this (Nat.lt_irrefl _)
        · have:=hlt p hp
          have e':p.2 = n:=e
          rw [e'] at this; exact absurd this (Nat.lt_irrefl _)
        · exact h p hp q hq e
    · exact kco hlt h
noncomputable abbrev compFrame (scope:Scope) (env:Env) (C:Addr) (cells:List (Str × Addr)):Env:={ scope:=scope,locals:=C,globals:=env.globals,cells:=cells,qual:=env.qual,func:=none,code:=env.code,frame:=env.frame,builtins:=env.builtins }
theorem wp_compEnv {M:Model}{A:Around}{E:Value → Shared → Prop}{s:Shared}{scope:Scope}{env:Env}{cl:List (Str × Addr)}{Q:Env → Shared → Prop}
    (h:Q (compFrame scope env s.heap.objs.size (cellsFrom (s.heap.objs.size + 1) scope.names cl)) { s with heap:=pushCells (s.heap.push { cls:=.type "dict",data:=.dict #[] }) scope.names }) :
    wpAny M A (newFunctionEnv scope env.globals cl [] env.qual none .none (some env)) Q E s:=by
  simp only [newFunctionEnv,Option.isSome_some,if_true]
  refine wpAny_bind (wpAny_alloc ?_)
  refine wpAny_bind (wpAny_layCells _ (fun name kind cells=>by cases hkc:kind == NameKind.cell <;> simp [hkc]) _ _ _ _ ?_)
  rw [show ({ s with heap:=s.heap.push { cls:=.type "dict",data:=.dict #[] } } : Shared).heap.objs.size = s.heap.objs.size + 1 from Heap.size_push ..]
  exact wpAny_bind (wpAny_pure (wpAny_pure h))
structure CompOk (scope sc:Scope) (σ σc:List Var):Prop where
  kind:scope.kind = .function
  ok:sigOk (relab scope sc) (σc.map fun e=>(e.name,e.kind)) = true
  names:(scope.names.map (·.1)).Nodup
  frees:∀ x,(x,NameKind.free) ∈ scope.names → ∃ e ∈ σ,e.name = x ∧ e.kind ≠ .loc
  ext:∀ e ∈ σc,e.kind = .ext → (e.name,NameKind.free) ∈ scope.names ∧ ∃ k,k ≠ VK.loc ∧ ⟨e.name,k,e.val⟩ ∈ σ
  own:∀ e ∈ σc,e.kind ≠ .ext → e.val = none
  cells:∀ e ∈ σc,e.kind = .own → (e.name,NameKind.cell) ∈ scope.names
theorem kh7 {names:List (Str × NameKind)}(h:(names.map (·.1)).Nodup) {x:Str}{k k':NameKind}(h1:(x,k) ∈ names) (h2:(x,k') ∈ names):k = k':=by
  induction names with
  | nil=>cases h1
  | cons p r ih =>
    simp only [List.map_cons,List.nodup_cons] at h
    rcases List.mem_cons.mp h1 with e1 | g1 <;> rcases List.mem_cons.mp h2 with e2 | g2
    · rw [← e1] at e2; cases e2; rfl
    · exact absurd (show p.1 ∈ r.map (·.1) from List.mem_map.mpr ⟨(x,k'),g2,by rw [← e1]⟩) h.1
    · exact absurd (show p.1 ∈ r.map (·.1) from List.mem_map.mpr ⟨(x,k),g1,by rw [← e2]⟩) h.1
    · exact ih h.2 g1 g2
theorem kdy {names:List (Str × NameKind)}(h:(names.map (·.1)).Nodup) {x:Str}{k:NameKind}(h1:(x,k) ∈ names):names.lookup x = some k:=by
  induction names with
  | nil=>cases h1
  | cons p r ih =>
    obtain ⟨y,k'⟩:=p
    simp only [List.map_cons,List.nodup_cons] at h
    rw [List.lookup_cons]
    rcases List.mem_cons.mp h1 with e1 | g1
    · cases e1; simp
    · have:(x == y) = false:=by
        rw [beq_eq_false_iff_ne]; intro q
        exact h.1 (show y ∈ r.map (·.1) from List.mem_map.mpr ⟨(x,k),g1,q⟩)
      rw [this]; exact ih h.2 g1
end
section
open PySem.Builtin PySem.Builtin.Str PySem.SeqAt
set_option tactic.hygienic true in
theorem kcm {cells:List (Str × Addr)}{p:Str × Addr} : ∀ {names:List (Str × NameKind)}{acc:List (Str × Addr)},p ∈ clFrom cells names acc → p ∈ acc ∨ (p.1,NameKind.free) ∈ names
  | [],acc,hp=>.inl hp
  | (x,k) :: r,acc,hp=>by
    unfold clFrom at hp
    split at hp
    · rename_i hk
      have hk':k = .free:=by simpa using hk
      subst hk'
      rcases kcm hp with q | q
      · rcases List.mem_cons.mp q with rfl | q
        · exact .inr (.head _)
        · exact .inl q
      · exact .inr (.tail _ q)
    · rcases kcm hp with q | q
      · exact .inl q
      · exact .inr (.tail _ q)
section
variable {w:World}{h₀:Heap}{n:Nat}{sc:Scope}{ω:Owns}{σ:List Var}
theorem Nx.back {s s':Shared}(n:Nx h₀ s s') {a:Addr}(h:s'.heap.get? a = none):s.heap.get? a = none:=by
  cases q:s.heap.get? a with
  | none=>rfl
  | some o =>
    by_cases ht:a = Tb
    · subst ht
      obtain ⟨ps,e,_⟩:=n.2.tab
      rw [e] at h; cases h
    · rw [n.1.get ht q] at h; cases h
set_option tactic.hygienic true in
theorem St.comp {env:Env}{X:List Addr}{s0 s s₂:Shared}{scope:Scope}{σc:List Var}{I:Addr}{o:Obj}{vs:Array Value}(led k:Bool) (S:St h₀ sc env X s0 ω σ s) (ok:CompOk scope sc σ σc) (n₂:Nx h₀ s s₂) (hIn:s.heap.get? I = none) (ho:s₂.heap.get? I = some o) (hd:o.data = .fields vs) :
    ∃ X',(∀ a ∈ X',a ∈ X ∨ a = I ∨ s₂.heap.get? a = none) ∧ Grow X s X' { s₂ with heap:=pushCells ((s₂.heap.push (accObj led k)).push { cls:=.type "dict",data:=.dict #[] }) scope.names } ∧ Nx h₀ s { s₂ with heap:=pushCells ((s₂.heap.push (accObj led k)).push { cls:=.type "dict",data:=.dict #[] }) scope.names } ∧
      St h₀ (relab scope sc) (compFrame (relab scope sc) env (s₂.heap.objs.size + 1) (cellsFrom (s₂.heap.objs.size + 1 + 1) scope.names (clFrom env.cells scope.names []))) X' s ((I, .obj o) :: (s₂.heap.objs.size,accCn led k []) :: []) σc
        { s₂ with heap:=pushCells ((s₂.heap.push (accObj led k)).push { cls:=.type "dict",data:=.dict #[] }) scope.names }:=by
  let Hl:=s₂.heap.push (accObj led k)
  let Hd:=Hl.push { cls:=.type "dict",data:=.dict #[] }
  let H:=pushCells Hd scope.names
  have eL:Hl.objs.size = s₂.heap.objs.size + 1:=Heap.size_push ..
  have eD:Hd.objs.size = s₂.heap.objs.size + 1 + 1:=by rw [← eL]; exact Heap.size_push ..
  have k₂:∀ b o,s₂.heap.get? b = some o → H.get? b = some o:=fun b o e=>pushCells_keeps _ _ _ _ (Heap.get?_push_of_some _ (Heap.get?_push_of_some _ e))
  have n₃:Nx h₀ s₂ { s₂ with heap:=H }:=.of_keeps n₂.2 ⟨H,s₂.toks,rfl,k₂⟩
  have n₄:Nx h₀ s { s₂ with heap:=H }:=n₂.trans n₃
  have fresh:∀ a,s₂.heap.objs.size ≤ a → s.heap.get? a = none:=fun a ha=>n₂.back (Heap.get?_none_of_le ha)
  have hCN:H.Ns (s₂.heap.objs.size + 1) (fun _=>none):=by
    have:=(Heap.Ns.new Hl (.type "dict")).keeps (pushCells_keeps scope.names Hd)
    rw [eL] at this; exact this
  have hDl:H.get? s₂.heap.objs.size = some (accObj led k):=pushCells_keeps _ _ _ _ (Heap.get?_push_of_some _ (Heap.get?_push_size _ (accObj_free led k)))
  have hIl:H.get? I = some o:=k₂ _ _ ho
  have hfree:∀ x,(x,NameKind.free) ∈ scope.names → (env.cells.lookup x).isSome = true:=fun x hx=>by
    obtain ⟨e,he,e1,e2⟩:=ok.frees x hx
    obtain ⟨c,_,h1,_⟩:=S.cell e he e2
    rw [← e1,h1]; rfl
  have hcl:∀ p ∈ clFrom env.cells scope.names [],env.cells.lookup p.1 = some p.2:=kev hfree fun p hp=>by cases hp
  let cells:=cellsFrom (s₂.heap.objs.size + 1 + 1) scope.names (clFrom env.cells scope.names [])
  have hmem:∀ p ∈ cells,p ∈ clFrom env.cells scope.names [] ∨ (s₂.heap.objs.size + 1 + 1 ≤ p.2 ∧ H.IsCell p.2 none ∧ (p.1,NameKind.cell) ∈ scope.names):=fun p hp=>by
    have hp':p ∈ cellsFrom Hd.objs.size scope.names (clFrom env.cells scope.names []):=by rw [eD]; exact hp
    have:=kcn hp'
    rw [eD] at this; exact this
  let cs:List Addr:=σc.filterMap fun e=>if e.kind = .own then cells.lookup e.name else none
  let X':List Addr:=(s₂.heap.objs.size + 1) :: (cs ++ (s₂.heap.objs.size :: I :: X))
  have hown:∀ e ∈ σc,e.kind = .own → ∃ c,cells.lookup e.name = some c ∧ s₂.heap.objs.size + 1 + 1 ≤ c ∧ H.IsCell c none ∧ c ∈ cs:=fun e he hk=>by
    have hce:=ok.cells e he hk
    obtain ⟨c,hc⟩:=Option.isSome_iff_exists.mp (cellsFrom_some scope.names (s₂.heap.objs.size + 1 + 1) (clFrom env.cells scope.names []) (.inl (kdy ok.names hce)))
    have hin:c ∈ cs:=List.mem_filterMap.mpr ⟨e,he,by rw [if_pos hk]; exact hc⟩
    rcases hmem _ (mem_of_lookup hc) with q | ⟨q1,q2,_⟩
    · rcases kcm q with z | z
      · cases z
      · have:=kh7 ok.names hce z; cases this
    · exact ⟨c,hc,q1,q2,hin⟩
  have hcs:∀ a ∈ cs,s₂.heap.objs.size + 1 + 1 ≤ a ∧ H.IsCell a none:=fun a ha=>by
    obtain ⟨e,he,h1⟩:=List.mem_filterMap.mp ha
    split at h1
    · rename_i hk
      obtain ⟨c,h2,h3,h4,_⟩:=hown e he hk
      rw [h2] at h1; cases h1
      exact ⟨h3,h4⟩
    · cases h1
  have hX':∀ a ∈ X',a ∈ X ∨ s.heap.get? a = none:=fun a ha=>by
    rcases List.mem_cons.mp ha with q | ha
    · exact .inr (q ▸ fresh _ (Nat.le_succ _))
    · rcases List.mem_append.mp ha with ha | ha
      · exact .inr (fresh _ (Nat.le_trans (Nat.le_succ_of_le (Nat.le_succ _)) (hcs a ha).1))
      · rcases List.mem_cons.mp ha with q | ha
        · exact .inr (q ▸ fresh _ (Nat.le_refl _))
        · rcases List.mem_cons.mp ha with q | ha
          · exact .inr (q ▸ hIn)
          · exact .inl ha
  have hsub:∀ a ∈ X,a ∈ X':=fun a ha=>.tail _ (List.mem_append_right _ (.tail _ (.tail _ ha)))
  have up:∀ v d,R X s.heap v d → R X' H v d:=fun v d r=>(r.weak (Y:=X') fun a ha ⟨oa,ea⟩=>(hX' a ha).elim id fun z=>by rw [z] at ea; cases ea).nx n₄ (hsub _ S.tabX)
  have hX2:∀ a ∈ X',a ∈ X ∨ a = I ∨ s₂.heap.get? a = none:=fun a ha=>by
    rcases List.mem_cons.mp ha with q | ha
    · exact .inr (.inr (q ▸ Heap.get?_none_of_le (Nat.le_succ _)))
    · rcases List.mem_append.mp ha with ha | ha
      · exact .inr (.inr (Heap.get?_none_of_le (Nat.le_trans (Nat.le_succ_of_le (Nat.le_succ _)) (hcs a ha).1)))
      · rcases List.mem_cons.mp ha with q | ha
        · exact .inr (.inr (q ▸ Heap.get?_none_of_le (Nat.le_refl _)))
        · rcases List.mem_cons.mp ha with q | ha
          · exact .inr (.inl q)
          · exact .inl ha
  refine ⟨X',hX2,⟨let ⟨h,t,e,_⟩:=n₄.1; ⟨h,t,e⟩,fun b ob hb e=>n₄.1.get (fun q=>hb (q ▸ S.tabX)) e,hsub,hX'⟩,n₄, ?_⟩
  refine ⟨ok.ok,rfl,S.glob,S.blt,n₄.1,n₄.2,S.gi,⟨_,hCN,fun e he hk d hd=>?_⟩,fun e he hk=>?_,fun x y c h1 h2=>?_, .head _,fresh _ (Nat.le_succ _),fun e he hk c hc=>?_,fun a ha=>?_,hsub _ S.tabX,⟨?_,fun p hp=>?_⟩⟩
  · rw [ok.own e he (by rw [hk]; decide)] at hd; cases hd
  · cases hkk:e.kind with
    | loc=>exact absurd hkk hk
    | own =>
      obtain ⟨c,h1,h2,h3,h4⟩:=hown e he hkk
      exact ⟨c,none,h1,h3, .tail _ (List.mem_append_left _ h4),fun d hd=>by rw [ok.own e he (by rw [hkk]; decide)] at hd; cases hd⟩
    | ext =>
      obtain ⟨hf,k,hk',hm⟩:=ok.ext e he hkk
      obtain ⟨c,ov,h1,h2,h3,h4⟩:=S.cell _ hm hk'
      have hnc:(e.name,NameKind.cell) ∉ scope.names:=fun q=>by have:=kh7 ok.names hf q; cases this
      obtain ⟨c',hc'⟩:=Option.isSome_iff_exists.mp (kdl (cells:=env.cells) (acc:=[]) (.inl hf))
      have e1:c' = c:=by
        have:=hcl _ (mem_of_lookup hc')
        have h1':env.cells.lookup e.name = some c:=h1
        rw [h1'] at this; cases this; rfl
      obtain ⟨ps,ht,_⟩:=S.gi.tab
      refine ⟨c,ov,by show cells.lookup e.name = some c; rw [show cells = cellsFrom _ _ _ from rfl,kc1 hnc,hc',e1],kaf h2 fun o e=>n₄.1.get (kaz h2 ht) e,hsub _ h3,fun d hd=>?_⟩
      obtain ⟨v,q1,q2⟩:=h4 d hd
      exact ⟨v,q1,up _ _ q2⟩
  · refine kco (fun p hp=>?_) (fun p hp q hq e=>?_) _ (mem_of_lookup h1) _ (mem_of_lookup h2) rfl
    · have hp':=hcl p hp
      obtain ⟨ev,hev,e1,e2⟩:=ok.frees p.1 ((kcm hp).resolve_left fun z=>by cases z)
      obtain ⟨c0,_,q1,⟨oc,q2,_⟩,_⟩:=S.cell ev hev e2
      rw [e1,hp'] at q1; cases q1
      by_cases ht:p.2 = Tb
      · obtain ⟨ps,et,_⟩:=n₂.2.tab
        rw [ht]
        exact Nat.lt_of_lt_of_le (Heap.lt_size et) (Nat.le_succ_of_le (Nat.le_succ _))
      · exact Nat.lt_of_lt_of_le (Heap.lt_size (n₂.1.get ht q2)) (Nat.le_succ_of_le (Nat.le_succ _))
    · have a1:=hcl p hp
      have a2:=hcl q hq
      rw [e] at a1
      exact S.inj _ _ _ a1 a2
  · obtain ⟨c',h1,h2,_,_⟩:=hown e he hk
    have hc':cells.lookup e.name = some c:=hc
    rw [h1] at hc'; cases hc'
    exact fresh _ (Nat.le_trans (Nat.le_succ_of_le (Nat.le_succ _)) h2)
  · rcases List.mem_cons.mp ha with q | ha
    · obtain ⟨oc,_,_,ec,_⟩:=hCN
      exact ⟨oc,q ▸ ec⟩
    · rcases List.mem_append.mp ha with ha | ha
      · obtain ⟨oc,ec,_⟩:=(hcs a ha).2
        exact ⟨oc,ec⟩
      · rcases List.mem_cons.mp ha with q | ha
        · exact ⟨_,q ▸ hDl⟩
        · rcases List.mem_cons.mp ha with q | ha
          · exact ⟨_,q ▸ hIl⟩
          · exact (S.nx n₄).alive a ha
  · rw [List.map_cons,List.map_cons,List.map_nil,List.nodup_cons]
    refine ⟨fun q=>?_,by simp⟩
    have:I = s₂.heap.objs.size:=by simpa using q
    rw [this] at ho
    exact Nat.lt_irrefl _ (Heap.lt_size ho)
  · rcases List.mem_cons.mp hp with rfl | hp
    · exact ⟨.tail _ (List.mem_append_right _ (.tail _ (.head _))),hIn,hIl, .inl ⟨vs,hd⟩⟩
    · rw [List.mem_singleton.mp hp]
      exact ⟨.tail _ (List.mem_append_right _ (.head _)),fresh _ (Nat.le_refl _),accObj_is (s:={ s₂ with heap:=H }) hDl⟩
noncomputable def newAcc:Bool → Sem Value
  | false=>newList []
  | true=>newSet (.type "set")
noncomputable def ledOf (w:World):Bool:=!w.params.followText "set-order"
theorem wp_newAcc {A:Around}{E:Value → Shared → Prop}{s:Shared}{k:Bool}{Q:Value → Shared → Prop}(h:Q (.ref s.heap.objs.size) { s with heap:=s.heap.push (accObj (ledOf w) k) }):wpAny (model prog w) A (newAcc k) Q E s:=by
  cases k with
  | false=>exact wpAny_newObj_type h
  | true =>
    show wpAny _ A (newSet (.type "set")) Q E s
    unfold newSet setsByText
    refine wpAny_bind (wpAny_bind (wpAny_askSetting (wpAny_pure ?_)))
    dsimp only
    simp only [newObj]
    exact wpAny_bind (wpAny_alloc (wpAny_pure h))
theorem kf1 {A:Around}{env:Env}{X:List Addr}{s0 s:Shared}{E:Value → Shared → Prop}{scope:Scope}{σc:List Var}{k:Bool}{elt:Expr}{g:Comprehension}{gs:List Comprehension}{pos:Pos}{ds:List D}{use:Option (Value → Sem Unit)}{Q:Value → Shared → Prop}(rm:Room A n) (S:St h₀ sc env X s0 ω σ s)
    (hi:IterE w h₀ n sc ω σ g.iter ds) (ok:CompOk scope sc σ σc) (has:∀ g' ∈ g :: gs,g'.is_async = 0) (hfs:∀ g' ∈ g :: gs, ∀ env x,foldedSetIterable g'.iter env x = pure x)
    (hloc:∀ x ∈ scope.names,x.2 = .local → scope.names.lookup x.1 = some .local)
    (h:∀ I fp P Si o X' s₄ a C' cells,s.heap.get? C' = none → s.heap.get? a = none → a ≠ C' → Walks prog w A I fp [I] ds.length P Si → AlI I Si → St h₀ (relab scope sc) (compFrame (relab scope sc) env C' cells) X' s ((I, .obj o) :: (a,accCn (ledOf w) k []) :: []) σc s₄ → Grow X s X' s₄ → I ∉ X → Si 0 s₄.heap →
      (∀ b ∈ fp,b = I ∨ (b ∉ X' ∧ ∃ o,s₄.heap.get? b = some o)) → (∀ i v d,P i v → ds[i]? = some d → R X' s₄.heap v d) →
      codeAny (model prog w) A (.compLoop (cexp k elt (g :: gs) scope pos) 0 (.ref I) (.ref a) (compFrame (relab scope sc) env C' cells)) (compPost (model prog w) A E use Q (.ref a) C') s₄) :
    wpAny (model prog w) A (comprehension (cexp k elt (g :: gs) scope pos) scope env (firstIterPos (g :: gs) pos) (newAcc k) false (eval g.iter env) use) Q E s:=by
  have hfree:∀ x,(x,NameKind.free) ∈ scope.names → (env.cells.lookup x).isSome = true:=fun x hx=>by
    obtain ⟨e,he,e1,e2⟩:=ok.frees x hx
    obtain ⟨c,_,h1,_⟩:=S.cell e he e2
    rw [← e1,h1]; rfl
  refine wpAny_comprehension_free (g:=g) (gs:=gs) (by cases k <;> rfl) (hfs g (.head _) env) (kbt hfree) ok.kind hloc ?_
  refine hi A env X s0 s _ _ rm S fun I fp P Si s₂ n₂ hIX hIn it=>?_
  obtain ⟨o,vs,T,e1,e2,e3,e4,e5⟩:=it.al _ _ it.st
  obtain ⟨X',hX2,gX,n₄,Sc⟩:=S.comp (ledOf w) k ok n₂ hIn e1 e2
  refine wp_newAcc (wp_compEnv ?_)
  have eL:(s₂.heap.push (accObj (ledOf w) k)).objs.size = s₂.heap.objs.size + 1:=Heap.size_push ..
  show codeAny (model prog w) A (.compStart (cexp k elt (g :: gs) scope pos) 0 (.ref I) (.ref s₂.heap.objs.size) (compFrame (relabel scope env) env (s₂.heap.push (accObj (ledOf w) k)).objs.size (cellsFrom ((s₂.heap.push (accObj (ledOf w) k)).objs.size + 1) scope.names (clFrom env.cells scope.names []))))
    (compPost (model prog w) A E use Q (.ref s₂.heap.objs.size) (s₂.heap.push (accObj (ledOf w) k)).objs.size) { s₂ with heap:=pushCells ((s₂.heap.push (accObj (ledOf w) k)).push { cls:=.type "dict",data:=.dict #[] }) scope.names }
  rw [eL,relabel_eq S.scope]
  have hDn:s.heap.get? s₂.heap.objs.size = none:=n₂.back (Heap.get?_none_of_le (Nat.le_refl _))
  have hCn:s.heap.get? (s₂.heap.objs.size + 1) = none:=n₂.back (Heap.get?_none_of_le (Nat.le_succ _))
  have k₃:∀ b o,s₂.heap.get? b = some o → (pushCells ((s₂.heap.push (accObj (ledOf w) k)).push { cls:=.type "dict",data:=.dict #[] }) scope.names).get? b = some o:=fun b o e=>pushCells_keeps _ _ _ _ (Heap.get?_push_of_some _ (Heap.get?_push_of_some _ e))
  have st₄:=it.W.frame _ _ _ it.st fun b _ o e=>k₃ b o e
  have loop:codeAny (model prog w) A (.compLoop (cexp k elt (g :: gs) scope pos) 0 (.ref I) (.ref s₂.heap.objs.size) (compFrame (relab scope sc) env (s₂.heap.objs.size + 1) (cellsFrom (s₂.heap.objs.size + 1 + 1) scope.names (clFrom env.cells scope.names []))))
      (compPost (model prog w) A E use Q (.ref s₂.heap.objs.size) (s₂.heap.objs.size + 1)) { s₂ with heap:=pushCells ((s₂.heap.push (accObj (ledOf w) k)).push { cls:=.type "dict",data:=.dict #[] }) scope.names }:=by
    refine h I fp P Si o X' _ _ _ _ hCn hDn (Nat.ne_of_lt (Nat.lt_succ_self _)) it.W it.al Sc gX hIX st₄ (fun b hb=>?_) (fun i v d h1 h2=>?_)
    · rcases it.fpk b hb with q | ⟨q1,ob,q2⟩
      · exact .inl q
      · by_cases z:b = I
        · exact .inl z
        · refine .inr ⟨fun m=>?_,ob,k₃ b ob q2⟩
          rcases hX2 b m with y | y | y
          · exact q1 y
          · exact z y
          · rw [y] at q2; cases q2
    · refine ((it.items i v d h1 h2).weakS (Y:=X') fun a ha q=>?_).keep fun b ob _ e=>k₃ b ob e
      rcases hX2 a ha with y | y | y
      · exact y
      · obtain ⟨its,q | q⟩:=q <;> (obtain ⟨o',ho',_,k',hd'⟩:=q; rw [y,e1] at ho'; cases ho'; rw [e2] at hd'; cases hd')
      · obtain ⟨ob,eb⟩:=kcy q
        rw [y] at eb; cases eb
  exact kea (g:=g) rfl (has g (.head _)) loop (it.W.self 0 _ _ _ st₄ loop)
theorem kf0 {A:Around}{env:Env}{X:List Addr}{s0 s:Shared}{E:Value → Shared → Prop}{scope:Scope}{σc σ':List Var}{k:Bool}{elt:Expr}{g:Comprehension}{gs:List Comprehension}{pos:Pos}{ds acc':List D}{use:Option (Value → Sem Unit)}{Q:Value → Shared → Prop}(rm:Room A n) (S:St h₀ sc env X s0 ω σ s)
    (hi:IterE w h₀ n sc ω σ g.iter ds) (ok:CompOk scope sc σ σc) (C:CL w h₀ n (relab scope sc) elt (g :: gs) σc ds [] acc' σ') (hz:acc'.length ≤ 1000) (hak:accOk k acc') (has:∀ g' ∈ g :: gs,g'.is_async = 0) (hfs:∀ g' ∈ g :: gs, ∀ env x,foldedSetIterable g'.iter env x = pure x)
    (hloc:∀ x ∈ scope.names,x.2 = .local → scope.names.lookup x.1 = some .local)
    (h:∀ a C' s' m,s.heap.get? C' = none → s.heap.get? a = none → a ≠ C' → Kp s s' → GI h₀ s' → s'.heap.Ns C' m → (∃ (Y:List Addr),CnIs Y s' a (accCn (ledOf w) k acc') ∧ C' ∈ Y ∧ ∀ b ∈ X,b ∈ Y) → compPost (model prog w) A E use Q (.ref a) C' (.ok .next) s') :
    wpAny (model prog w) A (comprehension (cexp k elt (g :: gs) scope pos) scope env (firstIterPos (g :: gs) pos) (newAcc k) false (eval g.iter env) use) Q E s :=
  kf1 rm S hi ok has hfs hloc fun I fp P Si o X' s₄ a C' cells hC ha hne W al Sc gX hIX st hfp hit=>by
    refine wp_comp (all:=ds) (i:=0) (o:=o) (X:=X') (ω:=[]) rm has hfs C rfl (List.cons_ne_nil _ _) W al Sc gX hIX st (Nat.zero_le _) rfl hfp hit hz hak fun s' X₅ g₅ S₅=>?_
    obtain ⟨m,hm,_⟩:=S₅.ns
    obtain ⟨_,_,q3⟩:=S₅.owns.is _ (.head _)
    exact h _ _ s' m hC ha hne S₅.base S₅.gi hm ⟨X₅,q3,S₅.locX,g₅.sub⟩
theorem kft {A:Around}{env:Env}{X:List Addr}{s0 s:Shared}{E:Value → Shared → Prop}{scope:Scope}{σc σ':List Var}{elt:Expr}{g:Comprehension}{gs:List Comprehension}{pos:Pos}{ds acc':List D}{use:Option (Value → Sem Unit)}{Q:Value → Shared → Prop}(rm:Room A n) (S:St h₀ sc env X s0 ω σ s)
    (hi:IterE w h₀ n sc ω σ g.iter ds) (ok:CompOk scope sc σ σc) (C:CL w h₀ n (relab scope sc) elt (g :: gs) σc ds [] acc' σ') (hz:acc'.length ≤ 1000) (has:∀ g' ∈ g :: gs,g'.is_async = 0) (hfs:∀ g' ∈ g :: gs, ∀ env x,foldedSetIterable g'.iter env x = pure x)
    (hloc:∀ x ∈ scope.names,x.2 = .local → scope.names.lookup x.1 = some .local)
    (h:∀ a C' s' m,s.heap.get? C' = none → s.heap.get? a = none → a ≠ C' → Kp s s' → GI h₀ s' → s'.heap.Ns C' m → (∃ (vs:List Value) (Y:List Addr),s'.heap.PlainList a vs.toArray ∧ RAll Y s'.heap vs acc' ∧ C' ∈ Y ∧ ∀ b ∈ X,b ∈ Y) → compPost (model prog w) A E use Q (.ref a) C' (.ok .next) s') :
    wpAny (model prog w) A (comprehension (.ListComp elt (g :: gs) scope pos) scope env (firstIterPos (g :: gs) pos) (newList []) false (eval g.iter env) use) Q E s :=
  kf0 (k:=false) rm S hi ok C hz trivial has hfs hloc fun a C' s' m h1 h2 h3 h4 h5 h6 ⟨Y,⟨vs,h7,h8⟩,h9,h10⟩=>h a C' s' m h1 h2 h3 h4 h5 h6 ⟨vs,Y,h7,h8,h9,h10⟩
theorem ev_comp {scope:Scope}{σc σ':List Var}{elt:Expr}{g:Comprehension}{gs:List Comprehension}{pos:Pos}{ds acc':List D}(hi:IterE w h₀ n sc ω σ g.iter ds) (ok:CompOk scope sc σ σc) (C:CL w h₀ n (relab scope sc) elt (g :: gs) σc ds [] acc' σ') (hz:acc'.length ≤ 1000)
    (hloc:∀ x ∈ scope.names,x.2 = .local → scope.names.lookup x.1 = some .local) (has:∀ g' ∈ g :: gs,g'.is_async = 0) (hfs:∀ g' ∈ g :: gs, ∀ env x,foldedSetIterable g'.iter env x = pure x):EV w h₀ n sc ω σ (.ListComp elt (g :: gs) scope pos) (.list acc'):=fun A env X s0 s rm S Q E hq=>by
  rw [eval_ListComp]
  obtain ⟨gt,gi',gf,ga⟩:=g
  have ha:firstAsync (⟨gt,gi',gf,ga⟩ :: gs) = false:=by
    show (ga != 0) = false
    have:=has _ (.head _)
    simp only at this
    rw [this]; rfl
  rw [ha]
  refine kft (use:=none) rm S hi ok C hz has hfs hloc fun a C' s' m hC ha' hne kp gi hn ⟨vs,Y,hl,rs,hCY,hXY⟩=>⟨m,hn,fun h' hs=>?_⟩
  have hCT:C' ≠ Tb:=fun q=>by
    obtain ⟨ps,e,_⟩:=S.gi.tab
    rw [← q,hC] at e; cases e
  have hCX:C' ∉ X:=fun q=>by
    obtain ⟨oc,ec⟩:=S.alive _ q
    rw [hC] at ec; cases ec
  have nx:Nx h₀ s { s' with heap:=h' }:=by
    refine ⟨?_,⟨fun b ob e=>?_, ?_,gi.off⟩⟩
    · obtain ⟨h1,t1,rfl,k⟩:=kp
      exact ⟨h',t1,rfl,fun b ob hb e=>(hs.2 b fun q=>by rw [q,hC] at e; cases e).trans (k b ob hb e)⟩
    · refine (hs.2 b fun q=>?_).trans (gi.keep b ob e)
      have:=S.gi.keep b ob e
      rw [q,hC] at this; cases this
    · obtain ⟨ps,e,x⟩:=gi.tab
      refine ⟨ps,(hs.2 _ (Ne.symm hCT)).trans e, ?_⟩
      rcases x with x | ⟨c',hne',e1,c,o,vs',t,e2,gg,r⟩
      · exact .inl x
      · cases e2
        exact .inr ⟨_,hne',e1,_,o,vs',t,rfl,(hs.2 _ fun q=>kb7 hn tourQual (q ▸ ⟨_,o,vs',t,rfl,gg,r⟩)).trans gg,r⟩
  refine hq _ _ nx (.list (hl.at fun o e=>(hs.2 _ hne).trans e) (fun q=>?_) ?_)
  · obtain ⟨oa,ea⟩:=S.alive _ q
    rw [ha'] at ea; cases ea
  · exact (rs.keep fun b o hb e=>(hs.2 b fun q=>hb (q ▸ hCY)).trans e).weak fun b hb _=>hXY b hb
end
end
section
open PySem.Builtin PySem.Builtin.Str PySem.SeqAt
section
variable {w:World}{h₀:Heap}{n:Nat}{sc:Scope}{ω:Owns}{σ σ':List Var}
theorem St.forget {env:Env}{X:List Addr}{s0 s:Shared}{a:Addr}{h':Heap}{tk:Nat}(S:St h₀ sc env X s0 ω σ s) (haX:a ∈ X) (hn:s0.heap.get? a = none) (hL:env.locals ≠ a) (hcell:∀ e ∈ σ,e.kind ≠ .loc → ∀ c,env.cells.lookup e.name = some c → c ≠ a) (hown:a ∉ ω.map (·.1))
    (hk:∀ b o,b ≠ a → s.heap.get? b = some o → h'.get? b = some o) (hcode:∀ q, ¬ s.heap.CodeRec (.ref a) q):St h₀ sc env (X.filter (· != a)) s0 ω σ { s with heap:=h',toks:=tk }:=by
  have hT:a ≠ Tb:=fun q=>by
    obtain ⟨ps,e,_⟩:=S.gi0.tab
    rw [← q,hn] at e; cases e
  have inX:∀ b ∈ X,b ≠ a → b ∈ X.filter (· != a):=fun b hb hne=>List.mem_filter.mpr ⟨hb,by simpa using hne⟩
  have up:∀ v d,R X s.heap v d → R (X.filter (· != a)) h' v d:=fun v d r=>(r.keep fun b o hb e=>hk b o (fun q=>hb (q ▸ haX)) e).weak fun b hb _=>(List.mem_filter.mp hb).1
  have upA:∀ v d,RAll X s.heap v d → RAll (X.filter (· != a)) h' v d:=fun v d r=>(r.keep fun b o hb e=>hk b o (fun q=>hb (q ▸ haX)) e).weak fun b hb _=>(List.mem_filter.mp hb).1
  obtain ⟨m,hm,hv⟩:=S.ns
  refine ⟨S.ok,S.scope,S.glob,S.blt, ?_,⟨fun b o e=>?_, ?_,S.gi.off⟩,S.gi0, ?_, ?_,S.inj,inX _ S.locX hL,S.new,S.newc, ?_,inX _ S.tabX (Ne.symm hT),⟨S.owns.nd,fun p hp=>?_⟩⟩
  · obtain ⟨h,t,rfl,k⟩:=S.base
    refine ⟨h',tk,rfl,fun b o hb e=>hk b o (fun q=>?_) (k b o hb e)⟩
    rw [q,hn] at e; cases e
  · refine hk b o (fun q=>?_) (S.gi.keep b o e)
    have:=S.gi0.keep b o e
    rw [q,hn] at this; cases this
  · obtain ⟨ps,e,x⟩:=S.gi.tab
    refine ⟨ps,hk _ _ (Ne.symm hT) e, ?_⟩
    rcases x with x | ⟨c',hne,e1,c,o,vs,t,e2,g,r⟩
    · exact .inl x
    · cases e2
      exact .inr ⟨_,hne,e1,_,o,vs,t,rfl,hk _ _ (fun q=>hcode tourQual (q ▸ ⟨_,o,vs,t,rfl,g,r⟩)) g,r⟩
  · refine ⟨m,ns_at hm fun o e=>hk _ _ hL e,fun e he hk' d hd=>?_⟩
    obtain ⟨v,h1,h2⟩:=hv e he hk' d hd
    exact ⟨v,h1,up _ _ h2⟩
  · intro e he hk'
    obtain ⟨c',ov,h1,h2,h3,h4⟩:=S.cell e he hk'
    have hne:c' ≠ a:=hcell e he hk' c' h1
    refine ⟨c',ov,h1,kaf h2 fun o e=>hk _ _ hne e,inX _ h3 hne,fun d hd=>?_⟩
    obtain ⟨v,e1,e2⟩:=h4 d hd
    exact ⟨v,e1,up _ _ e2⟩
  · intro b hb
    obtain ⟨hb1,hb2⟩:=List.mem_filter.mp hb
    obtain ⟨o,e⟩:=S.alive b hb1
    exact ⟨o,hk b o (by simpa using hb2) e⟩
  · obtain ⟨h1,h2,h3⟩:=S.owns.is p hp
    have hne:p.1 ≠ a:=fun q=>hown (q ▸ List.mem_map_of_mem hp)
    refine ⟨inX _ h1 hne,h2, ?_⟩
    obtain ⟨b,c'⟩:=p
    cases c' with
    | lst ds=>obtain ⟨vs,q1,q2⟩:=h3; exact ⟨vs,q1.at fun o e=>hk _ _ hne e,upA _ _ q2⟩
    | obj o=>exact ⟨hk _ _ hne h3.1,h3.2⟩
theorem St.hideNs {env:Env}{X:List Addr}{s0 s:Shared}{a:Addr}{m:Str → Option Value}(S:St h₀ sc env X s0 ω σ s) (hn:s.heap.Ns a m):St h₀ sc env (a :: X) s0 ω σ s:=by
  have ex:∀ b ∈ a :: X,(∃ its,s.heap.IsList b its ∨ s.heap.IsTuple b its) → b ∈ X:=fun b hb q=>(List.mem_cons.mp hb).elim (fun z=>by
    obtain ⟨o',es,ep,g',hd',_⟩:=hn
    obtain ⟨its,q | q⟩:=q <;> (obtain ⟨o,ho,_,k,hd⟩:=q; rw [z,g'] at ho; cases ho; rw [hd'] at hd; cases hd)) id
  have up:∀ v d,R X s.heap v d → R (a :: X) s.heap v d:=fun v d r=>r.weakS ex
  have upA:∀ v d,RAll X s.heap v d → RAll (a :: X) s.heap v d:=fun v d r=>r.weakS ex
  refine { S with ns:=?_,cell:=?_,locX:=.tail _ S.locX,alive:=?_,tabX:=.tail _ S.tabX,owns:=⟨S.owns.nd,fun p hp=>?_⟩ }
  · obtain ⟨m',hm,hv⟩:=S.ns
    refine ⟨m',hm,fun e he hk d hd=>?_⟩
    obtain ⟨v,h1,h2⟩:=hv e he hk d hd
    exact ⟨v,h1,up _ _ h2⟩
  · intro e he hk
    obtain ⟨c',ov,h1,h2,h3,h4⟩:=S.cell e he hk
    refine ⟨c',ov,h1,h2, .tail _ h3,fun d hd=>?_⟩
    obtain ⟨v,e1,e2⟩:=h4 d hd
    exact ⟨v,e1,up _ _ e2⟩
  · intro b hb
    rcases List.mem_cons.mp hb with rfl | hb
    · obtain ⟨o,_,_,e,_⟩:=hn; exact ⟨o,e⟩
    · exact S.alive b hb
  · obtain ⟨h1,h2,h3⟩:=S.owns.is p hp
    refine ⟨.tail _ h1,h2, ?_⟩
    obtain ⟨b,c'⟩:=p
    cases c' with
    | lst ds=>obtain ⟨vs,q1,q2⟩:=h3; exact ⟨vs,q1,upA _ _ q2⟩
    | obj o=>exact h3
theorem kgr {x:Str}{p spos pos:Pos}{scope:Scope}{σc σ₁:List Var}{elt:Expr}{g:Comprehension}{gs:List Comprehension}{ds acc':List D}(hi:IterE w h₀ n sc ω σ g.iter ds) (ok:CompOk scope sc σ σc) (C:CL w h₀ n (relab scope sc) elt (g :: gs) σc ds [] acc' σ₁) (hz:acc'.length ≤ 1000)
    (hloc:∀ x ∈ scope.names,x.2 = .local → scope.names.lookup x.1 = some .local) (has:∀ g' ∈ g :: gs,g'.is_async = 0) (hfs:∀ g' ∈ g :: gs, ∀ env x,foldedSetIterable g'.iter env x = pure x) (U:Upd σ x .loc (.list acc') σ')
    (hsw:∀ env:Env,env.scope = sc → swapsWith (.ListComp elt (g :: gs) scope pos) (some (.Name x p)) spos.line env = pure true):SS w h₀ n sc ω σ (.Assign [.Name x p] (.ListComp elt (g :: gs) scope pos) spos) (.next ω σ'):=fun A env X s0 s Q E rm S hq=>by
  rw [exec_Assign_Name_used _ _ _ _ (hsw env S.scope)]
  refine wpAny_bind (wpAny_standAt (wpAny_bind ?_))
  obtain ⟨gt,gi',gf,ga⟩:=g
  have ha:firstAsync (⟨gt,gi',gf,ga⟩ :: gs) = false:=by
    show (ga != 0) = false
    have:=has _ (.head _)
    simp only at this
    rw [this]; rfl
  show wpAny _ A (do let _ ← comprehension (.ListComp elt (⟨gt,gi',gf,ga⟩ :: gs) scope pos) scope env (firstIterPos (⟨gt,gi',gf,ga⟩ :: gs) pos) (newList []) (firstAsync (⟨gt,gi',gf,ga⟩ :: gs)) (eval gi' env) (some (assign (.Name x p) env))) _ _ s
  rw [ha]
  refine wpAny_bind (wpAny_mono (kft (Q:=fun _ s'=>Q .next s') (use:=some (assign (.Name x p) env)) rm S hi ok C hz has hfs hloc fun a C' s' m hC ha' hne kp gi hn ⟨vs,Y,hl,rs,hCY,hXY⟩=>?_) (fun _ s' hq=>wpAny_pure (wpAny_pure hq)) fun _ _ e=>e)
  have nx:Nx h₀ s s':=⟨kp,gi⟩
  have S₁:=S.nx nx
  have haX:a ∉ X:=fun q=>by
    obtain ⟨oa,ea⟩:=S.alive _ q
    rw [ha'] at ea; cases ea
  have hCX:C' ∉ X:=fun q=>by
    obtain ⟨oc,ec⟩:=S.alive _ q
    rw [hC] at ec; cases ec
  have r₁:R X s'.heap (.ref a) (.list acc'):=.list hl haX (rs.weak fun b hb _=>hXY b hb)
  show wpAny _ A (assign (.Name x p) env (.ref a)) _ _ s'
  refine wpAny_assign_Name (S₁.store U (by decide) r₁ fun s₂ g₂ S₂=>?_)
  have hLC:env.locals ≠ C':=fun q=>hCX (q ▸ S.locX)
  have hn₂:s₂.heap.Ns C' m:=ns_at hn fun o e=>g₂.keep _ _ hCX e
  have hC0:s0.heap.get? C' = none:=by
    cases q:s0.heap.get? C' with
    | none=>rfl
    | some o =>
      by_cases ht:C' = Tb
      · exact absurd (ht ▸ S.tabX) hCX
      · have:=S.base.get ht q
        rw [hC] at this; cases this
  refine ⟨m,hn₂,fun h' hs=>hq _ _ ⟨(C' :: X).filter (· != C'), ?_,(S₂.hideNs hn₂).forget (tk:=s₂.toks) (.head _) hC0 hLC (fun e he hk c hc q=>?_) (fun q=>?_) (fun b o hb e=>(hs.2 b hb).trans e) (kb7 hn₂)⟩⟩
  · have gA:=(Grow.of_nx nx S.tabX).trans g₂
    obtain ⟨h1,t1,e1⟩:=gA.same
    refine ⟨⟨h',s₂.toks,by rw [e1]⟩,fun b o hb e=>(hs.2 b fun q=>by rw [q,hC] at e; cases e).trans (gA.keep b o hb e),fun b hb=>List.mem_filter.mpr ⟨.tail _ hb,by simpa using fun q:b = C'=>hCX (q ▸ hb)⟩,fun b hb=>?_⟩
    obtain ⟨h2,h3⟩:=List.mem_filter.mp hb
    rcases List.mem_cons.mp h2 with q | q
    · exact absurd q (by simpa using h3)
    · exact .inl q
  · obtain ⟨c',_,q1,_,q3,_⟩:=S₂.cell e he hk
    rw [q1] at hc; cases hc
    exact hCX (q ▸ q3)
  · obtain ⟨p,hp,e⟩:=List.mem_map.mp q
    exact hCX (e ▸ (S₂.owns.is p hp).1)
theorem kdu {x:Str}{k:VK}{e:Expr}{d:D}{p pos:Pos}(he:EV w h₀ n sc ω σ e d) (U:Upd σ x k d σ') (hk:k ≠ .ext) (hsw:∀ env:Env,env.scope = sc → swapsWith e (some (.Name x p)) pos.line env = pure false):SS w h₀ n sc ω σ (.Assign [.Name x p] e pos) (.next ω σ') :=
  fun A env X s0 s Q E rm S h=>wpAny_Assign_Name (he A env X s0 s rm S _ _ fun v s₁ n₁ r=>(S.nx n₁).store U hk r fun s₂ g₂ S₂=>h _ _ ⟨X,(Grow.of_nx n₁ S.tabX).trans g₂,S₂⟩) (hsw env S.scope)
end
end
section
open PySem.Builtin PySem.Builtin.Str PySem.SeqAt
inductive Takes (σ:List Var):List Var → Prop
  | nil:Takes σ []
  | own {x:Str}{k:VK}{r:List Var}(hk:k ≠ .ext):Takes σ r → Takes σ (⟨x,k,none⟩ :: r)
  | ext {x:Str}{k:VK}{o:Option D}{r:List Var}(hk:k ≠ .loc):⟨x,k,o⟩ ∈ σ → Takes σ r → Takes σ (⟨x, .ext,o⟩ :: r)
noncomputable def nk (σ:List Var):List (Str × VK):=σ.map fun e=>(e.name,e.kind)
noncomputable def compOkB (scope sc:Scope) (v vc:List (Str × VK)):Bool :=
  scope.kind == .function && sigOk (relab scope sc) vc && decide (scope.names.map (·.1)).Nodup && scope.names.all (fun p=>p.2 != .free || v.any fun q=>q.1 == p.1 && q.2 != .loc)
    && vc.all (fun q=>(q.2 != .ext || scope.names.contains (q.1, .free)) && (q.2 != .own || scope.names.contains (q.1, .cell)))
theorem CompOk.of {scope sc:Scope}{σ σc:List Var}(v vc:List (Str × VK)) (hb:compOkB scope sc v vc = true) (T:Takes σ σc) (hv:nk σ = v) (hvc:nk σc = vc):CompOk scope sc σ σc:=by
  subst hv; subst hvc
  simp only [compOkB,Bool.and_eq_true,beq_iff_eq,decide_eq_true_eq,List.all_eq_true] at hb
  obtain ⟨⟨⟨⟨h1,h2⟩,h3⟩,h4⟩,h5⟩:=hb
  have h5':∀ e ∈ σc,((e.kind != .ext || scope.names.contains (e.name, .free)) && (e.kind != .own || scope.names.contains (e.name, .cell))) = true:=fun e he=>by
    have:=h5 (e.name,e.kind) (List.mem_map.mpr ⟨e,he,rfl⟩)
    rw [Bool.and_eq_true]; exact this
  refine ⟨h1,h2,h3,fun x hx=>?_,fun e he hk=>?_,fun e he hk=>?_,fun e he hk=>?_⟩
  · have:=h4 (x, .free) hx
    simp only [bne_self_eq_false,Bool.false_or,List.any_eq_true,Bool.and_eq_true,beq_iff_eq,bne_iff_ne] at this
    obtain ⟨q,hq,e1,e2⟩:=this
    obtain ⟨e,he,rfl⟩:=List.mem_map.mp hq
    exact ⟨e,he,e1,e2⟩
  · have:=h5' e he
    rw [hk] at this
    simp only [bne_self_eq_false,Bool.false_or,Bool.and_eq_true,List.contains_iff_mem] at this
    refine ⟨this.1, ?_⟩
    clear h5 h5' this h2
    induction T with
    | nil=>cases he
    | own hk' _ ih =>
      rcases List.mem_cons.mp he with rfl | he
      · exact absurd hk hk'
      · exact ih he
    | ext hk' hm _ ih =>
      rcases List.mem_cons.mp he with rfl | he
      · exact ⟨_,hk',hm⟩
      · exact ih he
  · clear h5 h5' h2
    induction T with
    | nil=>cases he
    | own hk' _ ih =>
      rcases List.mem_cons.mp he with rfl | he
      · rfl
      · exact ih he
    | ext hk' hm _ ih =>
      rcases List.mem_cons.mp he with rfl | he
      · exact absurd rfl hk
      · exact ih he
  · have:=h5' e he
    rw [hk] at this
    simp only [bne_self_eq_false,Bool.false_or,Bool.and_eq_true,List.contains_iff_mem] at this
    exact this.2
section
variable {w:World}{h₀:Heap}{n:Nat}{sc:Scope}{ω:Owns}{σ σ':List Var}
theorem CompOk.hloc {scope:Scope}{σc:List Var}(ok:CompOk scope sc σ σc):∀ x ∈ scope.names,x.2 = .local → scope.names.lookup x.1 = some .local:=fun x hx hk=>kdy ok.names (by rw [← hk]; exact hx)
theorem kb5 {scope:Scope}{σc:List Var}{elt:Expr}{g:Comprehension}{pos:Pos}{ds acc':List D}(hi:IterE w h₀ n sc ω σ g.iter ds) (ok:CompOk scope sc σ σc) (C:∃ σ₁,CL w h₀ n (relab scope sc) elt [g] σc ds [] acc' σ₁) (hz:acc'.length ≤ 1000)
    (ha:g.is_async = 0:=by rfl) (hf:∀ env x,foldedSetIterable g.iter env x = pure x:=by intro _ _; rfl):EV w h₀ n sc ω σ (.ListComp elt [g] scope pos) (.list acc') :=
  let ⟨_,C⟩:=C; ev_comp hi ok C hz ok.hloc (fun g' h=>by rw [List.mem_singleton.mp h]; exact ha) fun g' h=>by rw [List.mem_singleton.mp h]; exact hf
theorem kai {x:Str}{p spos pos:Pos}{scope:Scope}{σc:List Var}{elt:Expr}{g:Comprehension}{ds acc':List D}(hi:IterE w h₀ n sc ω σ g.iter ds) (ok:CompOk scope sc σ σc) (C:∃ σ₁,CL w h₀ n (relab scope sc) elt [g] σc ds [] acc' σ₁) (hz:acc'.length ≤ 1000) (U:Upd σ x .loc (.list acc') σ')
    (hsw:∀ env:Env,env.scope = sc → swapsWith (.ListComp elt [g] scope pos) (some (.Name x p)) spos.line env = pure true) (ha:g.is_async = 0:=by rfl) (hf:∀ env x,foldedSetIterable g.iter env x = pure x:=by intro _ _; rfl) :
    SS w h₀ n sc ω σ (.Assign [.Name x p] (.ListComp elt [g] scope pos) spos) (.next ω σ') :=
  let ⟨_,C⟩:=C; kgr hi ok C hz ok.hloc (fun g' h=>by rw [List.mem_singleton.mp h]; exact ha) (fun g' h=>by rw [List.mem_singleton.mp h]; exact hf) U hsw
end
noncomputable def pieceAt (i:Int):List Nat:=[[],[97],[98],[97,98],[46,46],[46],[97],[98]].getD i.toNat []
noncomputable def digit (m:Int) (i:Nat):Int:=(m.fdiv (8 ^ i)).fmod 8
noncomputable def piecesT (m:Int):List (List Nat):=[pieceAt (digit m 0),pieceAt (digit m 1),pieceAt (digit m 2)]
theorem kak (m:Int) (i:Nat):0 ≤ digit m i ∧ digit m i < 8:=⟨Int.fmod_nonneg_of_pos _ (by decide),Int.fmod_lt_of_pos _ (by decide)⟩
section
variable {w:World}{h₀:Heap}(G:Gr w h₀)
include G
theorem f_pieces {m:Int} : CallR w h₀ 3 (.ref 169) [.int m] (.list ((piecesT m).map T)):=by
  refine kaq (vars:=[("number", .own)]) ⟨⟨_,G.K 169 _ rfl,rfl⟩,rfl,rfl,rfl,rfl,⟨_,_,_,_,rfl,G.K _ _ rfl,rfl,rfl⟩,rfl,rfl,G.lim,by decide +kernel,rfl⟩ (kaa (len1 fun _=>?_)) ?_
  · rfl
  · refine ka4 (kab (kb5 (kb1 (m:=3) (kbo G) (by decide +kernel) ka7 (by decide)) (CompOk.of (σc:=[⟨"number", .ext,some (.int m)⟩,⟨"i", .loc,none⟩]) [("number", .own)] [("number", .ext),("i", .loc)] (by decide +kernel) (.ext (k:=.own) (by decide) (.head _) (.own (by decide) .nil)) rfl rfl) ?_ (Nat.le_of_ble_eq_true rfl)))
    have hat:∀ d:Int,0 ≤ d → d < 8 → ([D.str "",D.str "a",D.str "b",D.str "ab",D.str "..",D.str ".",D.str "a",D.str "b"])[d.toNat]? = some (T (pieceAt d)):=by
      intro d h1 h2
      have:d.toNat < 8:=by lia
      unfold pieceAt
      generalize d.toNat = k at this
      revert k
      exact ltS (by kernel_rfl) (ltS (by kernel_rfl) (ltS (by kernel_rfl) (lt5 (by kernel_rfl) (by kernel_rfl) (by kernel_rfl) (by kernel_rfl) (by kernel_rfl))))
    have hdg:∀ i:Nat,D.int ((m.fdiv (8 ^ (i:Int).toNat)).fmod 8) = .int (digit m i):=fun i=>by rw [Int.toNat_natCast]; rfl
    have hs:∀ i:Nat,digit m i < 2 ^ 63:=fun i=>by have:=(kak m i).2; lia
    refine ⟨_,CL.emit (σ₁:=[⟨"number", .ext,some (.int m)⟩,⟨"i", .loc,some (.int 0)⟩]) (y:=T (pieceAt (digit m 0))) (fun ω=>kac (.s .z)) (fun ω=>.nil) (fun ω=>?_)
      (CL.emit (σ₁:=[⟨"number", .ext,some (.int m)⟩,⟨"i", .loc,some (.int 1)⟩]) (y:=T (pieceAt (digit m 1))) (fun ω=>kac (.s .z)) (fun ω=>.nil) (fun ω=>?_)
      (CL.emit (σ₁:=[⟨"number", .ext,some (.int m)⟩,⟨"i", .loc,some (.int 2)⟩]) (y:=T (pieceAt (digit m 2))) (fun ω=>kac (.s .z)) (fun ω=>.nil) (fun ω=>?_) .nil))⟩
    · refine kao (a:=.list [D.str "",D.str "a",D.str "b",D.str "ab",D.str "..",D.str ".",D.str "a",D.str "b"]) (i:=.int (digit m 0)) ?_ ?_ ?_
      · refine kaj ?_ (by simp)
        exact .cons rfl kag (.cons rfl kag (.cons rfl kag (.cons rfl kag (.cons rfl kag (.cons rfl kag (.cons rfl kag (.cons rfl kag .nil)))))))
      · refine EV.cast (hdg 0) (kad (kad (ka0 .z) (kad ka7 (ka0 (.s .z)) (kcr (by decide) (by decide +kernel))) (kas (by decide) (by decide))) ka7 (kat (by decide)))
      · exact kah (kak m 0).1 (hs 0) (hat _ (kak m 0).1 (kak m 0).2)
    · refine kao (a:=.list [D.str "",D.str "a",D.str "b",D.str "ab",D.str "..",D.str ".",D.str "a",D.str "b"]) (i:=.int (digit m 1)) ?_ ?_ ?_
      · refine kaj ?_ (by simp)
        exact .cons rfl kag (.cons rfl kag (.cons rfl kag (.cons rfl kag (.cons rfl kag (.cons rfl kag (.cons rfl kag (.cons rfl kag .nil)))))))
      · refine EV.cast (hdg 1) (kad (kad (ka0 .z) (kad ka7 (ka0 (.s .z)) (kcr (by decide) (by decide +kernel))) (kas (by decide) (by decide))) ka7 (kat (by decide)))
      · exact kah (kak m 1).1 (hs 1) (hat _ (kak m 1).1 (kak m 1).2)
    · refine kao (a:=.list [D.str "",D.str "a",D.str "b",D.str "ab",D.str "..",D.str ".",D.str "a",D.str "b"]) (i:=.int (digit m 2)) ?_ ?_ ?_
      · refine kaj ?_ (by simp)
        exact .cons rfl kag (.cons rfl kag (.cons rfl kag (.cons rfl kag (.cons rfl kag (.cons rfl kag (.cons rfl kag (.cons rfl kag .nil)))))))
      · refine EV.cast (hdg 2) (kad (kad (ka0 .z) (kad ka7 (ka0 (.s .z)) (kcr (by decide) (by decide +kernel))) (kas (by decide) (by decide))) ka7 (kat (by decide)))
      · exact kah (kak m 2).1 (hs 2) (hat _ (kak m 2).1 (kak m 2).2)
theorem cal_pieces:Cal h₀ (.ref 169):=.inr (.inr ⟨_,_,_,rfl,G.K 169 _ rfl,rfl⟩)
end
end
section
open PySem.Builtin PySem.Builtin.Str PySem.SeqAt
section
variable {w:World}{h₀:Heap}{n:Nat}{sc:Scope}{ω:Owns}{σ σ':List Var}
structure ItK (I:Addr) (fp:List Addr) (P:Nat → Value → Prop) (Si:Nat → Heap → Prop) (all:List D) (X:List Addr) (s:Shared):Prop where
  st:Si 0 s.heap
  fpk:∀ b ∈ fp,b = I ∨ (b ∉ X ∧ ∃ o,s.heap.get? b = some o)
  items:∀ i v d,P i v → all[i]? = some d → R X s.heap v d
theorem ItK.go {A:Around}{env:Env}{I:Addr}{fp:List Addr}{P:Nat → Value → Prop}{Si:Nat → Heap → Prop}{all:List D}{m:Nat}{X X':List Addr}{s0 s s':Shared}{ω₁ ω₂:Owns}{σ₁ σ₂:List Var}{o:Obj}(K:ItK I fp P Si all X s) (W:Walks prog w A I fp [I] m P Si) (S:St h₀ sc env X s0 ((I, .obj o) :: ω₁) σ₁ s) (g:Grow X s X' s') (S':St h₀ sc env X' s0 ((I, .obj o) :: ω₂) σ₂ s'):ItK I fp P Si all X' s':=by
  have hI:s.heap.get? I = some o:=(S.owns.is _ (.head _)).2.2.1
  refine ⟨W.frame _ _ _ K.st fun b hb ob e=>?_,fun b hb=>?_,fun i v d h1 h2=>?_⟩
  · rcases K.fpk b hb with rfl | ⟨hbX,_⟩
    · have q1:s'.heap.get? b = some o:=(S'.owns.is _ (.head _)).2.2.1
      rw [hI] at e; cases e; exact q1
    · exact g.keep b ob hbX e
  · rcases K.fpk b hb with rfl | ⟨hbX,ob,eb⟩
    · exact .inl rfl
    · refine .inr ⟨fun q=>(g.new b q).elim hbX fun z=>?_,ob,g.keep b ob hbX eb⟩
      rw [z] at eb; cases eb
  · refine ((K.items i v d h1 h2).weak (Y:=X') fun a ha ⟨o,e⟩=>(g.new a ha).elim id fun z=>?_).keep fun b o hb e=>g.keep b o (fun q=>hb (g.sub b q)) e
    rw [z] at e; cases e
theorem kke {A:Around}{X:List Addr}{s:Shared}{v:Value}{ds:List D}{Q:Value → Shared → Prop}{E:Value → Shared → Prop}(rm:Room A (n + 1)) (O:Op h₀ X s) (r:R X s.heap v (.list ds))
    (h:∀ I fp P Si s',Nx h₀ s s' → I ∉ X → s.heap.get? I = none → IterAt w A.in1 X s' I fp P Si ds → Q (.ref I) s'):wpAny (model prog w) A (call (.builtin "iter") [v]) Q E s:=by
  refine call_function_entry (by decide +kernel) (by decide +kernel) kdk_entry_iter (kdk_args_iter _) ?_
  unfold Builtin.«iter»
  refine wpAny_bind (m:=someArgs "iter" 1 2 _) (wpAny_of_eq (a:=[v]) (by first | rfl | kernel_rfl!) ?_)
  show wpAny _ _ (pyIter v >>= _) _ _ _
  refine wpAny_bind (kae (n:=n) A.in1 X s v rm.in1 O r _ _ fun I fp P Si s' n' hX hn it=>?_)
  exact wpAny_pure ⟨_,rfl,h I fp P Si s' n' hX hn it⟩
theorem sx_iterfor {it:Str}{k:VK}{e t:Expr}{mid:Stmt}{body rest:List Stmt}{p1 p2 xp cp ap fpos:Pos}{ds:List D}{ωe:Owns}{τ τ' σe:Addr → List Var}{d:D}(hg:GV h₀ "iter" (.builtin "iter")) (hk:sc.names.lookup ("iter" : Str) = some .globalImplicit) (he:EV w h₀ (n + 1) sc ω σ e (.list ds))
    (U:∀ I,Upd σ it k (.val (.ref I)) (τ I)) (hkx:k ≠ .ext) (hmid:∀ p I,SS w h₀ (n + 1) sc (p :: ω) (τ I) mid (.next (p :: ω) (τ' I))) (hit:∀ I,Has (τ' I) it k (.val (.ref I))) (F:∀ I,FL w h₀ (n + 1) sc t body ω (τ' I) ds (.next ωe (σe I)))
    (hr:∀ I,SX w h₀ (n + 1) sc ωe (σe I) rest (.ret d)) (ns:isStarred e = false:=by rfl):SX w h₀ (n + 1) sc ω σ (.Assign [.Name it p1] (.Call (.Name "iter" xp) [e] [] cp) ap :: mid :: .For t (.Name it p2) body [] fpos :: rest) (.ret d):=fun A env X s0 s Q E rm S hq=>by
  refine wpAny_execs_cons (wpAny_Assign_Name ?_ rfl)
  show wpAny _ A (do callWith cp (← eval (.Name "iter" xp) env) [] (backTo cp (starEach [e] env)) []) _ E s
  refine wpAny_bind (ka3 hg hk A env X s0 s rm S _ _ fun v s₁ n₁ rv=>?_)
  have:=rv.val_eq; subst this
  refine kb0 rm (.inl ⟨_,rfl⟩) (.cons ns he .nil) (S.nx n₁) fun vs s₂ n₂ rs=>?_
  obtain ⟨v,rfl,r⟩:=rs.one
  have n12:=n₁.trans n₂
  refine kke rm (S.nx n12).op r fun I fp P Si s₃ n₃ hIX hIn ia=>?_
  have nA:=n12.trans n₃
  have hIn':s.heap.get? I = none:=n12.back hIn
  obtain ⟨o,os,T,e1,e2,e3,e4,e5⟩:=ia.al _ _ ia.st
  have W:=ia.W.of_in1
  have S₃:St h₀ sc env (I :: X) s0 ((I, .obj o) :: ω) σ s₃:=S.adopt nA hIn' ⟨o,e1⟩ ⟨e1, .inl ⟨os,e2⟩⟩
  have gA:Grow X s (I :: X) s₃:=.adopt nA S.tabX hIn'
  have K₃:ItK I fp P Si ds (I :: X) s₃:=by
    refine ⟨ia.st,fun b hb=>?_,fun i v d h1 h2=>?_⟩
    · rcases ia.fpk b hb with q | ⟨q1,q2⟩
      · exact .inl q
      · by_cases z:b = I
        · exact .inl z
        · exact .inr ⟨fun m=>(List.mem_cons.mp m).elim z q1,q2⟩
    · refine (ia.items i v d h1 h2).weakS fun a ha q=>(List.mem_cons.mp ha).elim (fun z=>?_) id
      obtain ⟨its,q | q⟩:=q <;> (obtain ⟨o',ho',_,k',hd'⟩:=q; rw [z,e1] at ho'; cases ho'; rw [e2] at hd'; cases hd')
  refine S₃.store (U I) hkx (.val _) fun s₄ g₄ S₄=>?_
  have K₄:=K₃.go W S₃ g₄ S₄
  refine wpAny_execs_cons (hmid (I, .obj o) I A env _ s0 s₄ _ _ rm S₄ fun fl s₅ oo=>?_)
  cases fl with
  | next =>
    obtain ⟨X₅,g₅,S₅⟩:=oo
    have K₅:=K₄.go W S₄ g₅ S₅
    refine wpAny_execs_cons (wpAny_For (ka0 (hit I) A env X₅ s0 s₅ rm S₅ _ _ fun v s₆ n₆ rv=>?_) (fun _=>rfl))
    have:=rv.val_eq; subst this
    have S₆:=S₅.nx n₆
    have g₆:Grow X₅ s₅ X₅ s₆:=.of_nx n₆ S₅.tabX
    have K₆:=K₅.go W S₅ g₆ S₆
    refine W.self 0 s₆ _ _ K₆.st ?_
    have gB:Grow X s X₅ s₆:=gA.trans (g₄.trans (g₅.trans g₆))
    refine wp_for (all:=ds) (ds:=ds) (i:=0) (o:=o) (X:=X₅) rm hIX (F I) W ia.al S₆ gB K₆.st (Nat.zero_le _) rfl K₆.fpk K₆.items fun fl s₇ oo=>?_
    cases fl with
    | next =>
      obtain ⟨X₇,g₇,S₇⟩:=oo
      exact hr I A env X₇ s0 s₇ Q E rm S₇ fun fl s' oo'=>hq fl s' (oo'.back g₇)
    | _=>exact oo.elim
  | _=>exact oo.elim
end
end
section
open PySem.Builtin PySem.Builtin.Str PySem.SeqAt
inductive Fold (w:World) (h₀:Heap) (n:Nat) (f:Value):D → List D → D → Prop
  | nil {a:D} : Fold w h₀ n f a [] a
  | cons {a b c d:D}{ds:List D} : CallR w h₀ n f [a,d] b → Fold w h₀ n f b ds c → Fold w h₀ n f a (d :: ds) c
section
variable {w:World}{h₀:Heap}{n:Nat}
theorem kk3 {b:Bool}{x:List Nat}{a:Addr} : CmpR w h₀ n .Is (tx b x) (.val (.ref a)) false:=fun A X s va vb rm O ra rb Q E h=>by
  have:=rb.val_eq; subst this
  cases b with
  | false=>obtain ⟨t,rfl⟩:=R.str_eq ra; exact wpAny_is_other rfl (fun q=>by cases q) (h _ _ (.refl O.gi) (.bool _))
  | true=>obtain ⟨t,rfl⟩:=R.bytes_eq ra; exact wpAny_is_other rfl (fun q=>by cases q) (h _ _ (.refl O.gi) (.bool _))
theorem kk4 {ds:List D}{a:Addr}{o:Obj}(ho:h₀.get? a = some o) (hc:o.cls = .type "object"):CmpR w h₀ n .Is (.tuple ds) (.val (.ref a)) false:=fun A X s va vb rm O ra rb Q E h=>by
  have:=rb.val_eq; subst this
  obtain ⟨x,vs,rfl,⟨ox,hx,hcx,k,hd⟩,_,_⟩:=ra.tuple_eq
  have hy:=O.gi.keep _ _ ho
  have hxy:x ≠ a:=fun q=>by
    subst q; rw [hx] at hy; cases hy
    rw [hcx] at hc; exact absurd (Value.type.inj hc) (by decide)
  show wpAny _ A (do return .bool (← isSame (.ref x) (.ref a))) Q E s
  refine wpAny_bind ?_
  show wpAny _ A (if (x == a) = true then pure true else _) _ E s
  rw [if_neg (by simpa using hxy)]
  refine wpAny_bind (wpAny_load hx (wpAny_bind (wpAny_load hy ?_)))
  rw [hcx,hc]
  refine (?_:wpAny _ A (pure false) _ E s)
  exact wpAny_pure (wpAny_pure (h _ _ (.refl O.gi) (.bool _)))
end
noncomputable def lastO:Option D → List D → Option D
  | o,[]=>o
  | _,d :: ds=>lastO (some d) ds
theorem kjv {w:World}{h₀:Heap}{n:Nat}{sc:Scope}{t:Expr}{body:List Stmt}{f:Value}{σf:D → Option D → List Var}(ha:∀ p a o d,AsgR w h₀ n sc [p] t d (σf a o) (σf a (some d))) (hb:∀ p a d b,CallR w h₀ n f [a,d] b → SX w h₀ n sc [p] (σf a (some d)) body (.next [p] (σf b (some d)))) :
    ∀ {a c:D}{ds:List D}{o:Option D},Fold w h₀ n f a ds c → FL w h₀ n sc t body [] (σf a o) ds (.next [] (σf c (lastO o ds)))
  | _,_,_,_, .nil=>.nil
  | _,_,_,_, .cons h r=>.next (fun p=>ha p _ _ _) (fun p=>hb p _ _ _ h) (kjv ha hb r)
section
variable {w:World}{h₀:Heap}(G:Gr w h₀)
include G
theorem kih {n:Nat}{f:Value}{a c:D}{ds:List D}(hc:Cal h₀ f) (his:∀ m,CmpR w h₀ m .Is a (.val (.ref 29)) false) (F:Fold w h₀ (n + 1) f a ds c):CallR w h₀ (n + 2) (.ref 37) [.val f, .list ds,a] c:=by
  refine kaq (vars:=[("function", .loc),("sequence", .loc),("initial", .loc),("it", .loc),("value", .loc),("element", .loc)]) (ds':=[.val f, .list ds,a]) ⟨⟨_,G.K 37 _ rfl,rfl⟩,rfl,rfl,rfl,rfl,⟨_,_,_,_,rfl,G.K _ _ rfl,rfl,rfl⟩,rfl,rfl,G.lim,by decide +kernel,rfl⟩ ?_ ?_
  · intro A X s vs Q E O rs hq
    obtain ⟨v,u,t,rfl,r1,r2,r3⟩:=rs.three
    show wpAny _ A (seqItems? _ >>= _) Q E s
    refine wpAny_bind (wpAny_seqItems (O.gi.keep _ _ (G.K _ _ rfl)) rfl ?_)
    exact wpAny_pure (hq [v,u,t] s (.refl O.gi) (Nat.le_of_ble_eq_true rfl) rs)
  · refine sx_iterfor (τ:=fun I=>[⟨"function", .loc,some (.val f)⟩,⟨"sequence", .loc,some (.list ds)⟩,⟨"initial", .loc,some a⟩,⟨"it", .loc,some (.val (.ref I))⟩,⟨"value", .loc,none⟩,⟨"element", .loc,none⟩]) (τ':=fun I=>[⟨"function", .loc,some (.val f)⟩,⟨"sequence", .loc,some (.list ds)⟩,⟨"initial", .loc,some a⟩,⟨"it", .loc,some (.val (.ref I))⟩,⟨"value", .loc,some a⟩,⟨"element", .loc,none⟩])
      (σe:=fun I=>[⟨"function", .loc,some (.val f)⟩,⟨"sequence", .loc,some (.list ds)⟩,⟨"initial", .loc,some a⟩,⟨"it", .loc,some (.val (.ref I))⟩,⟨"value", .loc,some c⟩,⟨"element", .loc,lastO none ds⟩]) (ωe:=[]) (gv_iter G) (by decide +kernel) (ka0 (.s .z)) (fun I=>.s (.s (.s .z))) (by decide) (fun p I=>?_) (fun I=>.s (.s (.s .z))) (fun I=>?_) fun I=>?_
    · refine ss_if (kam (ka0 (.s (.s .z))) (ka3 (ke2 G) (by decide +kernel)) (his _)) (fun h=>by cases h) (fun _=>?_)
      exact ka4 (ka1 (ka0 (.s (.s .z))) (.s (.s (.s (.s .z)))))
    · refine kjv (σf:=fun v o=>[⟨"function", .loc,some (.val f)⟩,⟨"sequence", .loc,some (.list ds)⟩,⟨"initial", .loc,some a⟩,⟨"it", .loc,some (.val (.ref I))⟩,⟨"value", .loc,some v⟩,⟨"element", .loc,o⟩]) (fun p v o d=>kac (.s (.s (.s (.s (.s .z)))))) (fun p v d b hcall=>?_) F
      exact ka4 (ka1 (ka8 (ka0 .z) hc (.cons rfl (ka0 (.s (.s (.s (.s .z))))) (.cons rfl (ka0 (.s (.s (.s (.s (.s .z)))))) .nil)) hcall) (.s (.s (.s (.s .z)))))
    · exact ka4 (kab (ka0 (.s (.s (.s (.s .z))))))
theorem khl:Cal h₀ (.ref 37):=.inr (.inr ⟨_,_,_,rfl,G.K 37 _ rfl,rfl⟩)
end
end
section
open PySem.Builtin PySem.Builtin.Str PySem.SeqAt
section
variable {w:World}{h₀:Heap}{n:Nat}
theorem iter_strT {x:List Nat} : IterR w h₀ n (tx false x) (x.map fun c=>tx false [c]):=fun A X s v rm O r Q E h=>by
  obtain ⟨t,rfl⟩:=R.str_eq r
  have fin:∀ (o:Obj) (Si:Nat → Heap → Prop) (T:String),Walks prog w A s.heap.objs.size [s.heap.objs.size] [s.heap.objs.size] (Str.mk x.toArray).cps.size (SignAt (Str.mk x.toArray)) Si → Si 0 (s.heap.push o) → (∀ i h,Si i h → h.IsStrIter s.heap.objs.size T (Str.mk x.toArray) t i) →
      (["enumerate", "zip", "dict_itemiterator", "dict_reverseitemiterator", "odict_iterator", "itertools.zip_longest", "itertools.pairwise"].contains T) = false → Q (.ref s.heap.objs.size) { s with heap:=s.heap.push o }:=by
    intro o Si T W st al hT
    refine h s.heap.objs.size [s.heap.objs.size] (SignAt (Str.mk x.toArray)) Si _ (.push O.gi _ s.toks) O.fresh (Heap.get?_none_of_le (Nat.le_refl _)) ⟨?_,st,fun b hb=>.inl (List.mem_singleton.mp hb),fun i h' st'=>?_,fun i v d hv hd=>?_⟩
    · have e:(Str.mk x.toArray).cps.size = (x.map fun c=>tx false [c]).length:=by simp
      rw [← e]; exact W
    · obtain ⟨o',ho',hc',hd'⟩:=al i h' st'
      exact ⟨o',_,_,ho',hd',kaw ho' hd' (fun x t e=>by simp at e),hc',hT⟩
    · obtain ⟨c,u,hc,rfl⟩:=hv
      have hc':x[i]? = some c:=by simpa using hc
      rw [List.getElem?_map,hc'] at hd
      simp only [Option.map_some,Option.some.injEq] at hd
      subst hd
      exact .str _ _
  cases ha:(Str.mk x.toArray).cps.all (· < 128)
  · exact wpAny_pyIter_wide ha (fin _ _ "str_iterator" (Walks.strWide rm.handled _ _ t) ⟨_,Heap.get?_push_size _ rfl,rfl,rfl⟩ (fun _ _ st=>st) (by decide))
  · exact wpAny_pyIter_ascii ha (fin _ _ "str_ascii_iterator" (Walks.strAscii rm.handled _ _ t) ⟨_,Heap.get?_push_size _ rfl,rfl,rfl⟩ (fun _ _ st=>st) (by decide))
theorem call_ord {c:Nat} : CallR w h₀ n (.builtin "ord") [tx false [c]] (.int c):=fun A X s vs rm O rs Q E h=>by
  obtain ⟨v,rfl,r⟩:=rs.one
  obtain ⟨t,rfl⟩:=R.str_eq r
  exact PyProof.Rows.ord_of_one rfl (h _ _ (.tok O.gi _) (.int _ _))
theorem RAll.ints {X:List Addr}{h:Heap} : ∀ {vs:List Value}{ns:List Int},RAll X h vs (ns.map D.int) → IntsAre vs ns
  | _,[],r=>by cases r; exact .nil
  | _,k :: ns,r=>by
    cases r with
    | cons r1 r2=>obtain ⟨t,rfl⟩:=r1.int_eq; exact .cons k t (RAll.ints r2)
theorem byteArr_toB (x:List Nat):byteArr (x.map fun (c:Nat)=>(c:Int)) = toB x:=by
  unfold byteArr toB
  rw [List.map_map]; rfl
theorem kk7 {x:List Nat}(hx:∀ c ∈ x,c < 256) (hz:x.length ≤ 1000):CallR w h₀ n (.type "bytes") [.list (x.map fun (c:Nat)=>D.int (c:Int))] (tx true x):=fun A X s vs rm O rs Q E h=>by
  obtain ⟨v,rfl,r⟩:=rs.one
  obtain ⟨l,us,rfl,hl,_,ru⟩:=r.list_eq
  have ru':RAll X s.heap us ((x.map fun (c:Nat)=>(c:Int)).map D.int):=by rw [List.map_map]; exact ru
  refine call_bytes_ints hl ru'.ints (fun k hk=>?_) (by rw [ru.length,List.length_map,sizeLine_eq]; lia) rm.handled fun h' t k hk=>?_
  · obtain ⟨c,hc,rfl⟩:=List.mem_map.mp hk
    have:=hx c hc
    lia
  · rw [byteArr_toB]
    exact h _ _ (.of_keeps O.gi ⟨h',k,rfl,hk⟩) (.bytes _ _)
end
end
section
open PySem.Builtin PySem.Builtin.Str PySem.SeqAt
section
variable {w:World}{h₀:Heap}{n:Nat}{sc:Scope}
theorem CL.fm {β:Type}{elt:Expr}{g:Comprehension}{σ:Option β → List Var}{it:β → D}{p:β → Bool}{f:β → D} :
    ∀ (cs:List β) (o:Option β) (acc:List D),(∀ o c ω,AsgR w h₀ n sc ω g.target (it c) (σ o) (σ (some c))) → (∀ c ∈ cs, ∀ ω,TVs w h₀ n sc ω (σ (some c)) .And g.ifs (p c)) → (∀ c ∈ cs,p c = true → ∀ ω,EV w h₀ n sc ω (σ (some c)) elt (f c)) →
    ∃ σ',CL w h₀ n sc elt [g] (σ o) (cs.map it) acc (acc ++ (cs.filter p).map f) σ'
  | [],o,acc,_,_,_=>⟨_,by simpa using CL.nil⟩
  | c :: cs,o,acc,ha,ht,he=>by
    cases hp:p c with
    | true =>
      obtain ⟨σ',C⟩:=CL.fm cs (some c) (acc ++ [f c]) ha (fun c' hc=>ht c' (.tail _ hc)) (fun c' hc=>he c' (.tail _ hc))
      refine ⟨σ', ?_⟩
      rw [List.filter_cons_of_pos hp,List.map_cons,List.map_cons]
      have e:acc ++ f c :: (cs.filter p).map f = acc ++ [f c] ++ (cs.filter p).map f:=by simp
      rw [e]
      exact .emit (fun ω=>ha o c ω) (fun ω=>by have:=ht c (.head _) ω; rw [hp] at this; exact this) (fun ω=>he c (.head _) hp ω) C
    | false =>
      obtain ⟨σ',C⟩:=CL.fm cs (some c) acc ha (fun c' hc=>ht c' (.tail _ hc)) (fun c' hc=>he c' (.tail _ hc))
      refine ⟨σ', ?_⟩
      rw [List.filter_cons_of_neg (by rw [hp]; exact Bool.false_ne_true),List.map_cons]
      exact .skip (fun ω=>ha o c ω) (fun ω=>by have:=ht c (.head _) ω; rw [hp] at this; exact this) C
theorem CL.mp {β:Type}{elt:Expr}{g:Comprehension}{σ:Option β → List Var}{it:β → D}{f:β → D}(cs:List β) (ha:∀ o c ω,AsgR w h₀ n sc ω g.target (it c) (σ o) (σ (some c))) (hi:g.ifs = []) (he:∀ c ∈ cs, ∀ ω,EV w h₀ n sc ω (σ (some c)) elt (f c)) :
    ∃ σ',CL w h₀ n sc elt [g] (σ none) (cs.map it) [] (cs.map f) σ':=by
  obtain ⟨σ',C⟩:=CL.fm (p:=fun _=>true) (f:=f) cs none [] ha (fun c _ ω=>by rw [hi]; exact .nil) (fun c hc _ ω=>he c hc ω)
  refine ⟨σ', ?_⟩
  have e:(cs.filter fun _=>true) = cs:=List.filter_eq_self.mpr fun _ _=>rfl
  rw [e,List.nil_append] at C
  exact C
theorem kcx {ω:Owns}{σ:List Var}{e:Expr}{b:Bool}(h:TV w h₀ n sc ω σ e b):TVs w h₀ n sc ω σ .And [e] b:=by
  refine .cons h (fun q=>?_) fun q=>?_
  · cases b with
    | false=>cases q
    | true=>exact .nil
  · cases b <;> first | rfl | exact absurd rfl q
theorem kgc {ω:Owns}{σ:List Var}{x:List UInt8}{y:List Nat}{k:Nat}{pos:Pos}(h:y.map UInt8.ofNat = x):EV w h₀ n sc ω σ (.Constant (.bytes x) k pos) (tx true y):=by
  have:=kci (w:=w) (h₀:=h₀) (n:=n) (sc:=sc) (ω:=ω) (σ:=σ) (x:=x) (k:=k) (pos:=pos)
  rw [← h] at this ⊢
  exact this
end
end
section
open PySem.Builtin PySem.Builtin.Str PySem.SeqAt
noncomputable def okJoin (b:Bool):List Nat → List (List Nat) → Bool
  | _,[]=>true
  | x,p :: ps=>okTxB b x && okTxB b p && decide (x.length + p.length < 1000) && okJoin b (joinT b x p) ps
noncomputable def placeT (b:Bool) (ps:List (List Nat)):List Nat:=normpathT b (ps.foldl (joinT b) [47,46])
noncomputable def okPlace (b:Bool) (ps:List (List Nat)):Bool:=okJoin b [47,46] ps && okNorm b (ps.foldl (joinT b) [47,46]) && decide (ps.length ≤ 900) && ps.all (fun p=>okTxB true p)
section
variable {w:World}{h₀:Heap}(G:Gr w h₀)
include G
theorem kg9 {b:Bool} : ∀ (ps:List (List Nat)) (x:List Nat),okJoin b x ps = true → Fold w h₀ 4 (.ref 131) (tx b x) (ps.map (tx b)) (tx b (ps.foldl (joinT b) x))
  | [],x,_=>.nil
  | p :: ps,x,h=>by
    simp only [okJoin,Bool.and_eq_true,decide_eq_true_eq] at h
    obtain ⟨⟨⟨h1,h2⟩,h3⟩,h4⟩:=h
    exact .cons (f_join G (okTxB.ok h1) (okTxB.ok h2) h3) (kg9 ps _ h4)
theorem f_place {b:Bool}{ps:List (List Nat)}(hok:okPlace b ps = true):CallR w h₀ 6 (.ref 181) [.list (ps.map T), .bool b] (tx b (placeT b ps)):=by
  simp only [okPlace,Bool.and_eq_true,decide_eq_true_eq] at hok
  obtain ⟨⟨⟨o1,o2⟩,o3⟩,o4⟩:=hok
  have hps:∀ p ∈ ps,okTx true p:=fun p hp=>okTxB.ok (List.all_eq_true.mp o4 p hp)
  refine kaq (vars:=[("pieces", .loc),("octets", .loc)]) ⟨⟨_,G.K 181 _ rfl,rfl⟩,rfl,rfl,rfl,rfl,⟨_,_,_,_,rfl,G.K _ _ rfl,rfl,rfl⟩,rfl,rfl,G.lim,by decide +kernel,rfl⟩ (kaa (len2 fun _ _=>?_)) ?_
  · rfl
  · cases b with
    | true =>
      refine kdh (ss_if (kap (ka0 (.s .z)) kau) (fun _=>?_) (fun h=>by cases h)) rfl
      refine ka4 (kab (ka8 (ka3 (kg6 G) (by decide +kernel)) (kfg G) (.cons rfl (ka8 (ka3 (kg5 G) (by decide +kernel)) (khl G) (.cons rfl (ka3 (gv_join G) (by decide +kernel)) (.cons rfl ?_ (.cons rfl (kgc (y:=[47,46]) rfl) .nil))) (kih (n:=3) G (cal_join G) (fun _=>kk3) (kg9 G ps _ o1))) .nil) (khc G o2)))
      refine kb5 (.of (ka0 .z) kae) (CompOk.of (σc:=[⟨"piece", .loc,none⟩]) [("pieces", .loc),("octets", .loc)] [("piece", .loc)] (by decide +kernel) (.own (by decide) .nil) rfl rfl) ?_ (by rw [List.length_map]; lia)
      refine CL.mp (σ:=fun (o:Option (List Nat))=>[⟨"piece", .loc,o.map T⟩]) (it:=T) (f:=tx true) ps (fun o c ω=>kac .z) rfl fun p hp ω=>?_
      have hpp:=hps p hp
      refine ka8 (ka3 (kda G) (by decide +kernel)) (.inr (.inl ⟨_,rfl⟩)) (.cons rfl ?_ .nil) (kk7 (fun c hc=>Nat.lt_trans (hpp.2 rfl c hc) (by decide)) hpp.1)
      refine kb5 (.of (ka0 .z) iter_strT) (CompOk.of (σc:=[⟨"sign", .loc,none⟩]) [("piece", .loc)] [("sign", .loc)] (by decide +kernel) (.own (by decide) .nil) rfl rfl) ?_ (by rw [List.length_map]; exact hpp.1)
      exact CL.mp (σ:=fun (o:Option Nat)=>[⟨"sign", .loc,o.map fun c=>tx false [c]⟩]) (it:=fun c=>tx false [c]) (f:=fun (c:Nat)=>D.int c) p (fun o c ω=>kac .z) rfl fun c hc ω =>
        ka8 (ka3 (gv_ord G) (by decide +kernel)) (.inl ⟨_,rfl⟩) (.cons rfl (ka0 .z) .nil) call_ord
    | false =>
      refine ka5 (ss_if (kap (ka0 (.s .z)) kau) (fun h=>by cases h) (fun _=>kbw)) ?_
      exact ka4 (kab (ka8 (ka3 (kg6 G) (by decide +kernel)) (kfg G) (.cons rfl (ka8 (ka3 (kg5 G) (by decide +kernel)) (khl G) (.cons rfl (ka3 (gv_join G) (by decide +kernel)) (.cons rfl (ka0 .z) (.cons rfl kag .nil))) (kih (n:=3) (a:=tx false [47,46]) G (cal_join G) (fun _=>kk3) (kg9 G ps _ o1))) .nil) (khc G o2)))
theorem cal_place:Cal h₀ (.ref 181):=.inr (.inr ⟨_,_,_,rfl,G.K 181 _ rfl,rfl⟩)
end
end
end Mine
end
section
open PySem PySem.W PyProof.Rows PySem.Calls PySem.Spec PySem.W.X PySem.W.XRun
set_option maxRecDepth 100000
namespace Mine
section
theorem mro_map:mroOf (.type "map") = pure [.type "map", .type "object"]:=by rw [mroOf_type]; kernel_rfl
theorem map_init:Slot "map" "__init__" "object.__init__" :=
  .of (owner := "object") (n := "__init__") (by rw [typeLookup_type,builtinLookup_eq_fast]; kernel_rfl) (by decide +kernel) (by decide +kernel) (by decide +kernel)
    (by first | exact .inl (by decide +kernel) | exact .inr (by decide +kernel)) (by rw [isSubtype_type]; kernel_rfl)
theorem called_map:TypeCalled "map" "map.__new__" "object.__init__" :=
  ⟨by decide +kernel,by decide +kernel,⟨_,_,mro_map⟩,madeBy_type mro_map (by rw [typeLookup_type,builtinLookup_eq_fast]; kernel_rfl) (by decide +kernel),by decide +kernel,by rw [isSubtype_type]; kernel_rfl,map_init⟩
noncomputable abbrev mapH1 (h:Heap) (l:Addr):Heap:=h.push { cls:=.type "list_iterator",data:=.fields #[.ref l, .int 0 0] }
noncomputable abbrev mapH2 (h:Heap) (l:Addr):Heap:=(mapH1 h l).push { cls:=.type "tuple",data:=.seq #[.ref h.objs.size] }
noncomputable abbrev mapH3 (h:Heap) (l:Addr) (f:Value):Heap:=(mapH2 h l).push { cls:=.type "map",data:=.fields #[.ref (mapH1 h l).objs.size,f] }
theorem ki5 {f:Value}{l:Addr}{its:Array Value} : Meets (Builtin.«map.__new__» ⟨[.type "map",f, .ref l],[]⟩) (fun _ R s=>s.heap.IsList l its ∧
      R (.ok (.ret (.ref (mapH2 s.heap l).objs.size))) { s with heap:=mapH3 s.heap l f }) :=
  .of_wp fun prog w A R s h=>by
    obtain ⟨hp,g,d,tk,os⟩:=s; obtain ⟨hl,h⟩:=h
    have hsub:isSubtype (.type "map") (.type "map") = pure true:=by rw [isSubtype_type]; kernel_rfl
    have hL:Heap.IsList (Shared.heap ⟨hp,g,d,tk,os⟩) l its:=hl
    wp_walk using wpAny_pyIter_list hL
    exact ⟨_,rfl,h⟩
theorem xcall_map {w:World}{A:Around}{s:Shared}{l:Addr}{f:Value}{its:Array Value}{Q:Value → Shared → Prop}{E:Value → Shared → Prop}(hl:s.heap.IsList l its)
  (hQ:∀ m tp it h,(h.get? m = some { cls:=.type "map",data:=.fields #[.ref tp,f] } ∧ s.heap.get? m = none) → (h.get? tp = some { cls:=.type "tuple",data:=.seq #[.ref it] } ∧ s.heap.get? tp = none) →
    (h.get? it = some { cls:=.type "list_iterator",data:=.fields #[.ref l, .int 0 0] } ∧ s.heap.get? it = none) → m ≠ it → tp ≠ it → (∀ b o,s.heap.get? b = some o → h.get? b = some o) → Q (.ref m) { s with heap:=h }) :
   wpAny (model prog w) A (call (.type "map") [f, .ref l]) Q E s:=by
  have z1:(mapH1 s.heap l).objs.size = s.heap.objs.size + 1:=Heap.size_push ..
  have z2:(mapH2 s.heap l).objs.size = s.heap.objs.size + 1 + 1:=by rw [Heap.size_push,z1]
  refine callType_new called_map (by decide) (by kernel_rfl) (by kernel_rfl) (fun obj=>F.args_object_init_3 obj _ _) (entryFor_of_tree (by kernel_rfl)) ki5 ⟨hl,⟨_,Heap.get?_push_size _ rfl,rfl⟩, ?_⟩
  exact hQ _ _ _ _ ⟨Heap.get?_push_size _ rfl,Heap.get?_none_of_le (z2 ▸ Nat.le_add_right_of_le (Nat.le_succ _))⟩ ⟨Heap.get?_push_of_some _ (Heap.get?_push_size _ rfl),Heap.get?_none_of_le (z1 ▸ Nat.le_succ _)⟩
    ⟨Heap.get?_push_of_some _ (Heap.get?_push_of_some _ (Heap.get?_push_size _ rfl)),Heap.get?_none_of_le (Nat.le_refl _)⟩ (by rw [z2]; exact Nat.ne_of_gt (Nat.lt_succ_of_lt (Nat.lt_succ_self _))) (by rw [z1]; exact Nat.ne_of_gt (Nat.lt_succ_self _))
    fun b o e=>Heap.get?_push_of_some _ (Heap.get?_push_of_some _ (Heap.get?_push_of_some _ e))
theorem kdf:entryFor table "map.__next__" = some Builtin.«map.__next__»:=entryFor_of_fast (by kernel_rfl)
theorem kef (a:Value):argsOk "map.__next__" ⟨[a],[]⟩:=by unfold argsOk; kernel_rfl
theorem slot_map_next:Slot "map" "__next__" "map.__next__" :=
  .of (owner := "map") (n := "__next__") (by rw [typeLookup_type,builtinLookup_eq_fast]; kernel_rfl) (by decide +kernel) (by decide +kernel) (by decide +kernel)
    (by first | exact .inl (by decide +kernel) | exact .inr (by decide +kernel)) (by rw [isSubtype_type]; kernel_rfl)
theorem kdv:Slot "map" "__iter__" "map.__iter__" :=
  .of (owner := "map") (n := "__iter__") (by rw [typeLookup_type,builtinLookup_eq_fast]; kernel_rfl) (by decide +kernel) (by decide +kernel) (by decide +kernel)
    (by first | exact .inl (by decide +kernel) | exact .inr (by decide +kernel)) (by rw [isSubtype_type]; kernel_rfl)
theorem kgv:entryFor table "map.__iter__" = some Builtin.«dict_keyiterator.__iter__» :=
  entryFor_alias (id' := "dict_keyiterator.__iter__") (by kernel_rfl) (by first | rfl | decide +kernel | (unfold String.splitOn; simp +decide [String.splitOnAux])) (by decide +kernel) (by kernel_rfl)
theorem kip (a:Value):argsOk "map.__iter__" ⟨[a],[]⟩:=by unfold argsOk; kernel_rfl
theorem map_no_len:typeLookup (.type "map") "__len__" = pure none:=by rw [typeLookup_type,builtinLookup_eq_fast]; kernel_rfl
theorem kku:typeLookup (.type "map") "__length_hint__" = pure none:=by rw [typeLookup_type,builtinLookup_eq_fast]; kernel_rfl
section
variable {w:World}{A:Around}{E:Value → Shared → Prop}{s:Shared}
noncomputable abbrev IsMap (h:Heap) (m tp it:Addr) (f:Value):Prop:=h.get? m = some { cls:=.type "map",data:=.fields #[.ref tp,f] } ∧ h.get? tp = some { cls:=.type "tuple",data:=.seq #[.ref it] }
theorem ki6 {m tp it l:Addr}{f:Value}{i:Nat}{items:Array Value}{x:Value}{Q:Value → Shared → Prop}
    (hm:IsMap s.heap m tp it f) (hit:s.heap.IsListIter it l i) (hl:s.heap.IsList l items) (hx:items[i]? = some x) (hmi:m ≠ it)
    (hQ:∀ h',h'.IsListIter it l (i + 1) → Heap.SameBut it s.heap h' → wpAny (model prog w) A (call f [x]) Q E { s with heap:=h' }) :
    wpAny (model prog w) A (Builtin.«map.__next__» ⟨[.ref m],[]⟩) (fun fin s'=>∃ v,fin = .done (.ret v) ∧ Q v s') E s:=by
  obtain ⟨hm,ht⟩:=hm
  show wpAny _ _ (field (.ref m) 0 >>= _) _ _ _
  refine wpAny_bind (wpAny_field hm rfl (x:=.ref tp) rfl ?_)
  show wpAny _ _ (seqItems? (.ref tp) >>= _) _ _ s
  refine wpAny_bind (wpAny_seqItems ht rfl ?_)
  simp only [← Array.forIn_toList,List.forIn_cons,List.forIn_nil]
  refine wpAny_bind (wpAny_bind (wpAny_bind (wpAny_holding (wpAny_nextOf_list_item hit hl hx fun h' hit' hs'=>wpAny_pure (wpAny_pure ?_)))))
  refine wpAny_bind (wpAny_field ((hs'.2 _ hmi).trans hm) rfl (x:=f) rfl ?_)
  refine wpAny_bind (wpAny_holding (wpAny_mono (hQ h' hit' hs') (fun v s' h=>wpAny_bind (wpAny_letGo (wpAny_pure ⟨v,rfl,h⟩))) fun _ _ h=>h))
theorem kjf {m tp it l:Addr}{f:Value}{i:Nat}{items:Array Value}{Q:Value → Shared → Prop}(hh:A.handled = none)
    (hm:IsMap s.heap m tp it f) (hit:s.heap.IsListIter it l i) (hl:s.heap.IsList l items) (hx:items[i]? = none) 
    (hE:∀ h' e,Heap.ExtBut it s.heap h' → (∃ o,h'.get? e = some o ∧ o.cls = .type "StopIteration") → E (.ref e) { s with heap:=h' }) :
    wpAny (model prog w) A (Builtin.«map.__next__» ⟨[.ref m],[]⟩) (fun fin s'=>∃ v,fin = .done (.ret v) ∧ Q v s') E s:=by
  obtain ⟨hm,ht⟩:=hm
  show wpAny _ _ (field (.ref m) 0 >>= _) _ _ _
  refine wpAny_bind (wpAny_field hm rfl (x:=.ref tp) rfl ?_)
  show wpAny _ _ (seqItems? (.ref tp) >>= _) _ _ s
  refine wpAny_bind (wpAny_seqItems ht rfl ?_)
  simp only [← Array.forIn_toList,List.forIn_cons,List.forIn_nil]
  refine wpAny_bind (wpAny_bind (wpAny_bind (wpAny_holding (wpAny_nextOf_list_end hh hit hl hx hE))))
theorem kfz {m tp it l:Addr}{f:Value}{i:Nat}{items:Array Value}{x:Value}{Q:Option Value → Shared → Prop}
    (hm:IsMap s.heap m tp it f) (hit:s.heap.IsListIter it l i) (hl:s.heap.IsList l items) (hx:items[i]? = some x) (hmi:m ≠ it)
    (hQ:∀ (E:Value → Shared → Prop) h',h'.IsListIter it l (i + 1) → Heap.SameBut it s.heap h' → wpAny (model prog w) A.in1 (call f [x]) (fun v s'=>Q (some v) s') E { s with heap:=h' }) :
    wpAny (model prog w) A (pyNext (.ref m)) Q E s:=by
  have hT:s.TypeIs (.ref m) "map" := ⟨_,hm.1,rfl⟩
  unfold pyNext
  refine wpAny_bind (wpAny_attempt (wpAny_callSpecial?_slot (name:=Str.ofString "__next__") hT slot_map_next
    (wpAny_call_entry slot_map_next hT kdf (ki6 hm hit hl hx hmi fun h' a b=>?_) (kef _))))
  exact wpAny_mono (hQ _ h' a b) (fun v s' h=>wpAny_pure h) fun _ _ h=>h
theorem kgs {m tp it l:Addr}{f:Value}{i:Nat}{items:Array Value}{Q:Option Value → Shared → Prop}(hh:A.handled = none)
    (hm:IsMap s.heap m tp it f) (hit:s.heap.IsListIter it l i) (hl:s.heap.IsList l items) (hx:items[i]? = none)
    (hQ:∀ h',Heap.ExtBut it s.heap h' → Q none { s with heap:=h' }):wpAny (model prog w) A (pyNext (.ref m)) Q E s:=by
  have hT:s.TypeIs (.ref m) "map" := ⟨_,hm.1,rfl⟩
  unfold pyNext
  refine wpAny_bind (wpAny_attempt (wpAny_callSpecial?_slot (name:=Str.ofString "__next__") hT slot_map_next
    (wpAny_call_entry slot_map_next hT kdf (kjf hh hm hit hl hx fun h' e he' hx'=>?_) (kef _))))
  obtain ⟨o,ho,hc⟩:=hx'
  refine wpAny_bind (wpAny_isInstance (T := "StopIteration") (b:=true) ⟨o,ho,hc⟩ isSubtype_stop ?_)
  exact wpAny_pure (hQ _ he')
end
end
end Mine
end
section
open PySem PySem.W PyProof.Rows PySem.Calls PySem.Spec PySem.W.X
set_option maxRecDepth 100000
namespace Mine
section
variable {w:World}{h₀:Heap}{n:Nat}
theorem GI.turn {s:Shared}{a:Addr}{h':Heap}{tk:Nat}(G:GI h₀ s) (hn:h₀.get? a = none) (hT:a ≠ Tb) (hs:∀ b o,b ≠ a → s.heap.get? b = some o → h'.get? b = some o) (hc:∀ q, ¬ s.heap.CodeRec (.ref a) q):GI h₀ { s with heap:=h',toks:=tk }:=by
  refine ⟨fun b o e=>hs b o (fun q=>?_) (G.keep b o e), ?_,G.off⟩
  · rw [q,hn] at e; cases e
  · obtain ⟨ps,e,x⟩:=G.tab
    refine ⟨ps,hs _ _ (Ne.symm hT) e, ?_⟩
    rcases x with x | ⟨c',hne,e1,c,o,vs,t,e2,g,r⟩
    · exact .inl x
    · cases e2
      exact .inr ⟨_,hne,e1,_,o,vs,t,rfl,hs _ _ (fun q=>hc tourQual (q ▸ ⟨_,o,vs,t,rfl,g,r⟩)) g,r⟩
theorem kbd {h:Heap}{it l:Addr}{i:Nat}(x:h.IsListIter it l i) (q:Str):¬ h.CodeRec (.ref it) q:=by
  obtain ⟨o,ho,hc,hd⟩:=x
  exact kaw ho hd (fun x t e=>by simp at e) q
structure Extd (h₀:Heap) (s s':Shared) (S it:Addr):Prop where
  same:∃ h' tk,s' = { s with heap:=h',toks:=tk }
  keep:∀ b o,b ≠ Tb → b ≠ S → b ≠ it → s.heap.get? b = some o → s'.heap.get? b = some o
  gi:GI h₀ s'
theorem Extd.trans {s₁ s₂ s₃:Shared}{S it:Addr}(a:Extd h₀ s₁ s₂ S it) (b:Extd h₀ s₂ s₃ S it):Extd h₀ s₁ s₃ S it :=
  ⟨by obtain ⟨_,_,rfl⟩:=a.same; obtain ⟨h,t,rfl⟩:=b.same; exact ⟨h,t,rfl⟩,fun c o h1 h2 h3 e=>b.keep c o h1 h2 h3 (a.keep c o h1 h2 h3 e),b.gi⟩
theorem kk2 {f res:Value}{S m tp it l:Addr}{X:List Addr}{vs:List Value}{ds es:List D}{A:Around}{RR:Result → Shared → Prop}(rm:Room A (n + 2)) (hlen:es.length = ds.length) (hz:ds.length ≤ 1000)
    (hf:∀ (k:Nat) (d e:D),ds[k]? = some d → es[k]? = some e → CallR w h₀ n f [d] e) (hS0:h₀.get? S = none) (hi0:h₀.get? it = none) (hSX:S ∈ X) (hiX:it ∈ X) (hST:S ≠ Tb) (hiT:it ≠ Tb) (hSi:S ≠ it) (hmi:m ≠ it) (hmS:m ≠ S) (hti:tp ≠ it) (htS:tp ≠ S) (hmT:m ≠ Tb) (htT:tp ≠ Tb) (hlX:l ∉ X) :
    ∀ (rem i:Nat) (s:Shared) (us:List Value) (c:Nat),ds.length - i = rem → i ≤ ds.length → Op h₀ X s → IsMap s.heap m tp it f → s.heap.IsListIter it l i → s.heap.IsList l vs.toArray → RAll X s.heap vs ds →
      s.heap.get? S = some { cls:=.type "list",data:=.seq us.toArray c } → RAll X s.heap us (es.take i) →
      (∀ s' us' c',Extd h₀ s s' S it → s'.heap.get? S = some { cls:=.type "list",data:=.seq us'.toArray c' } → RAll X s'.heap us' es → RR (.ok (.ret res)) s') →
      codeAny (model prog w) A (.builtin "list.extend.loop" ⟨[.ref S, .ref m,res],[]⟩) RR s:=by
  have hlT:∀ {s:Shared},Op h₀ X s → l ≠ Tb:=fun O q=>hlX (q ▸ O.tabX)
  have hlS:l ≠ S:=fun q=>hlX (q ▸ hSX)
  have hli:l ≠ it:=fun q=>hlX (q ▸ hiX)
  intro rem
  induction rem with
  | zero =>
    intro i s us c hk hi O hm hit hl rv hS ru hR
    have hin:i = ds.length:=by lia
    subst hin
    refine codeAny_builtin F.entry_extend_loop ?_
    rw [Around.under_plainId F.plain_extend_loop _]
    show wpAny _ A.in1 (pyNext (.ref m) >>= _) _ _ s
    have hx:vs.toArray[ds.length]? = none:=by
      rw [List.getElem?_toArray,List.getElem?_eq_none]; rw [rv.length]; exact Nat.le_refl _
    refine wpAny_bind (kgs rm.handled hm hit hl hx fun h' he'=>?_)
    have kp:∀ b o,b ∉ X → s.heap.get? b = some o → h'.get? b = some o:=fun b o hb e=>he' b o (fun q=>hb (q ▸ hiX)) e
    rw [← hlen,List.take_length] at ru
    exact wpAny_pure (hR _ us c ⟨⟨_,_,rfl⟩,fun b o _ _ h3 e=>he' b o h3 e,O.gi.turn hi0 hiT (fun b o hb e=>he' b o hb e) (kbd hit)⟩ (he' _ _ hSi hS) (ru.keep kp))
  | succ rem ih =>
    intro i s us c hk hi O hm hit hl rv hS ru hR
    have hlt:i < ds.length:=by lia
    refine codeAny_builtin F.entry_extend_loop ?_
    rw [Around.under_plainId F.plain_extend_loop _]
    show wpAny _ A.in1 (pyNext (.ref m) >>= _) _ _ s
    obtain ⟨d,hd⟩ : ∃ d,ds[i]? = some d:=⟨_,List.getElem?_eq_getElem hlt⟩
    obtain ⟨e,he⟩ : ∃ e,es[i]? = some e:=⟨_,List.getElem?_eq_getElem (by lia)⟩
    obtain ⟨x,hx,rx⟩:=rv.get hd
    refine wpAny_bind (kfz hm hit hl (x:=x) (by rw [List.getElem?_toArray]; exact hx) hmi fun E h₁ hit₁ hs₁=>?_)
    have O₁:Op h₀ X { s with heap:=h₁ }:=⟨O.gi.turn (tk:=s.toks) hi0 hiT (fun b o hb e=>(hs₁.2 b hb).trans e) (kbd hit),O.tabX,fun a ha=>by
      by_cases q:a = it
      · obtain ⟨o,ho,_⟩:=hit₁; exact ⟨o,q ▸ ho⟩
      · obtain ⟨o,ho⟩:=O.al a ha; exact ⟨o,(hs₁.2 a q).trans ho⟩⟩
    have k₁:∀ b o,b ∉ X → s.heap.get? b = some o → h₁.get? b = some o:=fun b o hb e=>(hs₁.2 b fun q=>hb (q ▸ hiX)).trans e
    refine hf i d e hd he A.in1.in1 X { s with heap:=h₁ } [x] rm.in1.in1 O₁ (.cons (rx.keep k₁) .nil) _ _ fun v s₂ n₂ r₂=>?_
    have g₂:∀ b o,b ≠ Tb → b ≠ it → s.heap.get? b = some o → s₂.heap.get? b = some o:=fun b o hb hb' e=>n₂.1.get hb ((hs₁.2 b hb').trans e)
    have hS₂:=g₂ _ _ hST hSi hS
    show wpAny _ A.in1 (updateSeq S (·.push v) >>= _) _ _ _
    have hul:us.length = i:=by rw [ru.length,List.length_take]; lia
    have O₂:=O₁.nx n₂
    have hc:∀ q, ¬ s₂.heap.CodeRec (.ref S) q:=kbc ⟨c,hS₂⟩
    refine wpAny_bind ?_
    have hto:us.toArray.push v = (us ++ [v]).toArray:=by simp
    refine wpAny_updateSeq hS₂ rfl (wpAny_pure ⟨plainId_quiet F.plain_extend_loop _,ih (i + 1) _ (us ++ [v]) _ (by lia) hlt ?_ ?_ ?_ ?_ ?_ (by rw [← hto]; exact Heap.get?_update_self _ hS₂ rfl) ?_ fun s' us' c' x₁ x₂ x₃=>hR s' us' c' ⟨?_, ?_,x₁.gi⟩ x₂ x₃⟩)
      (by rw [List.size_toArray,hul,sizeLine_eq]; lia) (by show (us.toArray.push v).size ≤ sizeLine + 1; rw [Array.size_push,List.size_toArray,hul,sizeLine_eq]; lia)
    · exact ⟨O₂.gi.turn (tk:=s₂.toks) hS0 hST (fun b o hb e=>(Heap.get?_update_other _ _ (Ne.symm hb)).trans e) hc,O₂.tabX,fun a ha=>by
        by_cases q:a = S
        · rw [q]; exact ⟨_,Heap.get?_update_self _ hS₂ rfl⟩
        · obtain ⟨o,ho⟩:=O₂.al a ha; exact ⟨o,(Heap.get?_update_other _ _ (Ne.symm q)).trans ho⟩⟩
    · exact ⟨(Heap.get?_update_other _ _ (Ne.symm hmS)).trans (g₂ _ _ hmT hmi hm.1),(Heap.get?_update_other _ _ (Ne.symm htS)).trans (g₂ _ _ htT hti hm.2)⟩
    · obtain ⟨o,ho,r⟩:=hit₁
      exact ⟨o,(Heap.get?_update_other _ _ hSi).trans (n₂.1.get hiT ho),r⟩
    · exact kb2 hl fun o e=>(Heap.get?_update_other _ _ (Ne.symm hlS)).trans (g₂ _ _ (hlT O) hli e)
    · exact rv.keep fun b o hb e=>(Heap.get?_update_other _ _ (fun q:S = b=>hb (q ▸ hSX))).trans (g₂ b o (fun q=>hb (q ▸ O.tabX)) (fun q=>hb (q ▸ hiX)) e)
    · have ht:es.take (i + 1) = es.take i ++ [e]:=by
        rw [List.take_add_one,he]; rfl
      rw [ht]
      have kk:∀ b o,b ∉ X → s₂.heap.get? b = some o → (s₂.heap.update S (Obj.mapSeq (·.push v))).get? b = some o:=fun b o hb e=>(Heap.get?_update_other _ _ (fun q:S = b=>hb (q ▸ hSX))).trans e
      exact .append ((ru.keep fun b o hb e=>g₂ b o (fun q=>hb (q ▸ O.tabX)) (fun q=>hb (q ▸ hiX)) e).keep kk) (.cons (r₂.keep kk) .nil)
    · obtain ⟨h₃,t₃,rfl⟩:=x₁.same
      obtain ⟨h₄,t₄,rfl,_⟩:=n₂.1
      exact ⟨h₃,t₃,rfl⟩
    · exact fun b o h1 h2 h3 e=>x₁.keep b o h1 h2 h3 ((Heap.get?_update_other _ _ (Ne.symm h2)).trans (g₂ b o h1 h3 e))
theorem kgq {f:Value}{m tp it l:Addr}{X:List Addr}{vs:List Value}{ds es:List D}{A:Around}{s:Shared}{Q:List Value → Shared → Prop}{E:Value → Shared → Prop}(rm:Room A (n + 2)) (hlen:es.length = ds.length) (hz:ds.length ≤ 1000)
    (hf:∀ (k:Nat) (d e:D),ds[k]? = some d → es[k]? = some e → CallR w h₀ n f [d] e) (hi0:h₀.get? it = none) (hiX:it ∈ X) (hiT:it ≠ Tb) (hmi:m ≠ it) (hti:tp ≠ it) (hmT:m ≠ Tb) (htT:tp ≠ Tb) (hlX:l ∉ X)
    (O:Op h₀ X s) (hm:IsMap s.heap m tp it f) (hit:s.heap.IsListIter it l 0) (hl:s.heap.IsList l vs.toArray) (rv:RAll X s.heap vs ds)
    (hQ:∀ s' us,Extd h₀ s s' it it → RAll X s'.heap us es → Q us s'):wpAny (model prog w) A (collect (.ref m)) Q E s:=by
  have szN:s.heap.get? s.heap.objs.size = none:=Heap.get?_none_of_le (Nat.le_refl _)
  have ne:∀ b o,s.heap.get? b = some o → b ≠ s.heap.objs.size:=fun b o e q=>by rw [q,szN] at e; cases e
  have hS0:h₀.get? s.heap.objs.size = none:=by
    cases q:h₀.get? s.heap.objs.size with
    | none=>rfl
    | some o=>have:=O.gi.keep _ _ q; rw [szN] at this; cases this
  have hSi:s.heap.objs.size ≠ it:=by obtain ⟨o,ho,_⟩:=hit; exact Ne.symm (ne _ _ ho)
  have hSm:s.heap.objs.size ≠ m:=Ne.symm (ne _ _ hm.1)
  have hSt:s.heap.objs.size ≠ tp:=Ne.symm (ne _ _ hm.2)
  have hST:s.heap.objs.size ≠ Tb:=by obtain ⟨ps,e,_⟩:=O.gi.tab; exact Ne.symm (ne _ _ e)
  have hSl:l ≠ s.heap.objs.size:=by obtain ⟨o,ho,_⟩:=hl; exact ne _ _ ho
  unfold collect
  refine wpAny_bind (wpAny_runValue (codeAny_builtin F.entry_proto_collect ?_))
  rw [Around.under_plainId F.plain_proto_collect _]
  show wpAny _ A.in1 (newList [] >>= fun l=>again (.builtin "list.__iadd__" ⟨[l, .ref m],[]⟩)) _ _ s
  refine wpAny_bind (wpAny_newObj_type ?_)
  refine wpAny_pure ⟨plainId_quiet F.plain_list_iadd _,codeAny_builtin F.entry_list_iadd ?_⟩
  rw [Around.under_plainId F.plain_list_iadd _]
  have hT:({ s with heap:=s.heap.push { cls:=.type "list",data:=.seq ([]:List Value).toArray } } : Shared).TypeIs (.ref m) "map" := ⟨_,Heap.get?_push_of_some _ hm.1,rfl⟩
  show wpAny _ A.in1 (Builtin.List.listExtendWith (.ref s.heap.objs.size) (.ref m) (.ref s.heap.objs.size)) _ _ _
  unfold Builtin.List.listExtendWith
  refine wpAny_bind (wpAny_typeOf hT ?_)
  have h1:Builtin.List.listSameRef (.ref s.heap.objs.size) (.ref m) = false:=by simp [Builtin.List.listSameRef,hSm]
  have h2:(Value.type "map" == Value.type "list") = false:=by decide
  have h3:(Value.type "map" == Value.type "tuple") = false:=by decide
  simp only [h1,h2,h3,Bool.or_false,Bool.false_eq_true,if_false]
  refine wpAny_bind (wpAny_pyIter_slot hT kdv (wpAny_call_entry kdv hT kgv ?_ (kip _)))
  show wpAny _ _ (ret (.ref m)) _ _ _
  refine wpAny_pure ⟨_,rfl, "map",_,hT,slot_map_next.lookup, ?_⟩
  refine wpAny_bind (wpAny_holding ?_)
  unfold Builtin.List.listLengthHint
  refine wpAny_bind (wpAny_specialOf hT map_no_len ?_)
  show wpAny _ A.in1 (specialOf (Value.ref m) (Str.ofString "__length_hint__") >>= _) _ _ _
  refine wpAny_bind (wpAny_specialOf hT kku ?_)
  refine wpAny_pure ?_
  show wpAny _ A.in1 (rule "list.extend.makes-room" >>= fun _=>Builtin.List.listTouch (.ref s.heap.objs.size) >>= fun _ =>
    again (.builtin "list.extend.loop" ⟨[.ref s.heap.objs.size, .ref m, .ref s.heap.objs.size],[]⟩)) _ _ _
  refine wpAny_bind (wpAny_rule ?_)
  have hS₁:(s.heap.push { cls:=.type "list",data:=.seq ([]:List Value).toArray }).get? s.heap.objs.size = some { cls:=.type "list",data:=.seq ([]:List Value).toArray }:=Heap.get?_push_size _ rfl
  refine wpAny_bind ?_
  show wpAny _ A.in1 (updateSeq s.heap.objs.size (·.push .none) >>= fun _=>updateSeq s.heap.objs.size (·.pop)) _ _ _
  refine wpAny_bind (wpAny_updateSeq hS₁ rfl ?_)
  have hS₂:=Heap.get?_update_self (Obj.mapSeq (·.push Value.none)) hS₁ rfl
  refine wpAny_updateSeq hS₂ rfl ?_
  have hS₃:=Heap.get?_update_self (Obj.mapSeq (·.pop)) hS₂ rfl
  have oth:∀ b o,s.heap.get? b = some o →
      (((s.heap.push { cls:=.type "list",data:=.seq ([]:List Value).toArray }).update s.heap.objs.size (Obj.mapSeq (·.push Value.none))).update s.heap.objs.size (Obj.mapSeq (·.pop))).get? b = some o :=
    fun b o e=>(Heap.get?_update_other _ _ (Ne.symm (ne b o e))).trans ((Heap.get?_update_other _ _ (Ne.symm (ne b o e))).trans (Heap.get?_push_of_some _ e))
  generalize hH:(((s.heap.push { cls:=.type "list",data:=.seq ([]:List Value).toArray }).update s.heap.objs.size (Obj.mapSeq (·.push Value.none))).update s.heap.objs.size (Obj.mapSeq (·.pop))) = H at oth hS₃ ⊢
  have O₃:Op h₀ (s.heap.objs.size :: X) { s with heap:=H }:=⟨O.gi.keeps (tk:=s.toks) oth, .tail _ O.tabX,fun a ha=>by
    rcases List.mem_cons.mp ha with q | q
    · rw [q]; exact ⟨_,hS₃⟩
    · obtain ⟨o,e⟩:=O.al a q; exact ⟨o,oth a o e⟩⟩
  have rv₃:RAll (s.heap.objs.size :: X) H vs ds:=(rv.weak (Y:=s.heap.objs.size :: X) fun a ha ⟨o,e⟩=>(List.mem_cons.mp ha).elim (fun q=>absurd q (ne a o e)) id).keep fun b o _ e=>oth b o e
  refine wpAny_pure ⟨plainId_quiet F.plain_extend_loop _,kk2 (us:=[]) (vs:=vs) (ds:=ds) (es:=es) (X:=s.heap.objs.size :: X) (s:={ s with heap:=H }) rm hlen hz hf hS0 hi0 (.head _) (.tail _ hiX) hST hiT hSi hmi (Ne.symm hSm) hti (Ne.symm hSt) hmT htT (fun q=>(List.mem_cons.mp q).elim hSl hlX) _ 0 _ rfl (Nat.zero_le _) O₃ ⟨oth _ _ hm.1,oth _ _ hm.2⟩ ?_ (kb2 hl fun o e=>oth _ o e) rv₃ hS₃ .nil fun s' us' c' x₁ x₂ x₃=>?_⟩
  · obtain ⟨o,ho,r⟩:=hit; exact ⟨o,oth _ _ ho,r⟩
  · show wpAny _ A (load s.heap.objs.size >>= _) _ _ s'
    refine wpAny_bind (wpAny_load x₂ (wpAny_pure ?_))
    have:us'.toArray.toList = us':=rfl
    rw [this]
    refine hQ s' us' ⟨?_,fun b o h1 _ h3 e=>x₁.keep b o h1 (ne b o e) h3 (oth b o e),x₁.gi⟩ (x₃.weak fun a ha _=>.tail _ ha)
    obtain ⟨h,t,rfl⟩:=x₁.same; exact ⟨h,t,rfl⟩
theorem kir {f:Value}{m tp it l:Addr}{Y:List Addr}{vs:List Value}{ds es:List D}{A:Around}{s:Shared}{Q:Value → Shared → Prop}{E:Value → Shared → Prop}(rm:Room A (n + 4)) (hlen:es.length = ds.length) (hz:ds.length ≤ 1000)
    (hf:∀ (k:Nat) (d e:D),ds[k]? = some d → es[k]? = some e → CallR w h₀ n f [d] e) (hi0:h₀.get? it = none) (hiY:it ∉ Y) (hiT:it ≠ Tb) (hmi:m ≠ it) (hti:tp ≠ it) (hmT:m ≠ Tb) (htT:tp ≠ Tb) (hlX:l ∉ it :: Y)
    (O:Op h₀ (it :: Y) s) (hm:IsMap s.heap m tp it f) (hit:s.heap.IsListIter it l 0) (hl:s.heap.IsList l vs.toArray) (rv:RAll (it :: Y) s.heap vs ds)
    (hQ:∀ s' a us,Extd h₀ s s' it it → s'.heap.IsTuple a us.toArray → a ∉ Y → RAll Y s'.heap us es → Q (.ref a) s'):wpAny (model prog w) A (call (.type "tuple") [.ref m]) Q E s:=by
  have hT:s.TypeIs (.ref m) "map" := ⟨_,hm.1,rfl⟩
  have hTY:Tb ∈ Y:=(List.mem_cons.mp O.tabX).elim (fun q=>absurd q.symm hiT) id
  refine callType_codes (Q₁:=fun obj s₁=>s₁.TypeIs obj "tuple" ∧ Q obj s₁) F.called_tuple (F.typeCall_tuple_1 _) F.entry_object_init ?_ fun obj s₁ h₁=>?_
  · refine codeAny_of_tree ?_
    show wpAny _ A.in1.in1 (do checkBuiltinCall "tuple.__new__" ⟨[.type "tuple", .ref m],[]⟩; again (.builtin "tuple.__new__" ⟨[.type "tuple", .ref m],[]⟩)) _ _ s
    refine wpAny_bind (wpAny_of_eq (F.newCall_tuple_1 _) (wpAny_pure ⟨plainId_quiet F.plain_tuple_new _,codeAny_builtin F.entry_tuple_new ?_⟩))
    rw [Around.under_plainId F.plain_tuple_new _]
    have hsub:=PySem.sub_tuple_self
    have hinit:=init_tuple_lookup
    have hmh:=madeHere_tuple
    have hiX:it ∈ it :: Y:=.head _
    have k:∀ s' us,Extd h₀ s s' it it → RAll (it :: Y) s'.heap us es → wpAny (model prog w) A.in1.in1 (Builtin.Tuple.tupleExact us.toArray >>= fun v=>ret v) (fun fin s'=>match fin with | .done f=>wants (fun obj s₁=>s₁.TypeIs obj "tuple" ∧ Q obj s₁) E (.ok f) s' | .again c'=>c'.quiet = true ∧ codeAny (model prog w) A.in1 c' (wants (fun obj s₁=>s₁.TypeIs obj "tuple" ∧ Q obj s₁) E) s') (fun e s'=>wants (fun obj s₁=>s₁.TypeIs obj "tuple" ∧ Q obj s₁) E (.error e) s') s':=fun s' us x r=>by
      have O':Op h₀ Y s':=⟨x.gi,hTY,fun a ha=>by
        by_cases q:a = Tb
        · obtain ⟨ps,e,_⟩:=x.gi.tab; exact ⟨_,q ▸ e⟩
        · have q':a ≠ it:=fun z=>hiY (z ▸ ha)
          obtain ⟨o,e⟩:=O.al a (.tail _ ha); exact ⟨o,x.keep a o q q' q' e⟩⟩
      unfold Builtin.Tuple.tupleExact
      refine wpAny_bind (wpAny_newObj_type ?_ (by show us.toArray.size ≤ sizeLine; rw [List.size_toArray,r.length,sizeLine_eq]; lia))
      refine wpAny_pure ⟨⟨_,Heap.get?_push_size _ rfl,rfl⟩, ?_⟩
      have nx:Nx h₀ s' { s' with heap:=s'.heap.push { cls:=.type "tuple",data:=.seq us.toArray } }:=.push x.gi _ _
      refine hQ _ _ us (x.trans ⟨⟨_,_,rfl⟩,fun b o h1 _ _ e=>nx.1.get h1 e,nx.2⟩) ⟨_,Heap.get?_push_size _ rfl,rfl,_,rfl⟩ O'.fresh ((r.weak (Y:=Y) fun a ha _=>.tail _ ha).nx nx hTY)
    wp_walk using wpAny_typeOf hT,kgq rm.in1.in1 hlen hz hf hi0 hiX hiT hmi hti hmT htT hlX O hm hit hl rv
    intro s' us x r
    exact wpAny_bind (wpAny_pure (k s' us x r))
  · exact ⟨h₁.1,F.args_object_init_2 obj _,object_init_meets F.called_tuple.init.lookup F.called_tuple.made (by decide) prog w A.in1 _ s₁ ⟨h₁.1,rfl,h₁.2⟩⟩
theorem call_tupmap {f:Value}{ds es:List D}(hlen:es.length = ds.length) (hz:ds.length ≤ 1000) (hf:∀ (k:Nat) (d e:D),ds[k]? = some d → es[k]? = some e → CallR w h₀ n f [d] e)
    {A:Around}{X:List Addr}{s:Shared}{v:Value}(rm:Room A (n + 4)) (O:Op h₀ X s) (r:R X s.heap v (.list ds)) {Q:Value → Shared → Prop}{E:Value → Shared → Prop}(hQ:∀ v s',Nx h₀ s s' → R X s'.heap v (.tuple es) → Q v s') :
    wpAny (model prog w) A (call (.type "map") [f,v]) (fun m s₁=>wpAny (model prog w) A (call (.type "tuple") [m]) Q E s₁) E s:=by
  obtain ⟨l,vs,rfl,⟨c,hl⟩,hlX,rv⟩:=r.list_plain
  refine xcall_map ⟨_,hl,rfl,_,rfl⟩ fun m tp it h hm ht hi n1 n2 kp=>?_
  have nx:Nx h₀ s { s with heap:=h }:=.of_keeps O.gi ⟨h,s.toks,rfl,kp⟩
  have O₁:=O.nx nx
  have ne:∀ b o,s.heap.get? b = some o → ∀ a,s.heap.get? a = none → a ≠ b:=fun b o e a ha q=>by rw [q,e] at ha; cases ha
  obtain ⟨ps,hT,_⟩:=O.gi.tab
  have niX:∀ a,s.heap.get? a = none → a ∉ X:=fun a ha q=>by obtain ⟨o,e⟩:=O.al a q; rw [ha] at e; cases e
  refine kir (Y:=X) (vs:=vs) (ds:=ds) (es:=es) (m:=m) (tp:=tp) (it:=it) (l:=l) rm hlen hz hf ?_ (niX _ hi.2) (ne _ _ hT _ hi.2) ?_ ?_ (ne _ _ hT _ hm.2) (ne _ _ hT _ ht.2) ?_ ?_ ⟨hm.1,ht.1⟩ ⟨_,hi.1,rfl,rfl⟩ ⟨_,kp _ _ hl,rfl,_,rfl⟩ ?_ ?_
  · cases q:h₀.get? it with
    | none=>rfl
    | some o=>have:=O.gi.keep _ _ q; rw [hi.2] at this; cases this
  · exact n1
  · exact n2
  · exact fun q=>(List.mem_cons.mp q).elim (fun z=>ne _ _ hl _ hi.2 z.symm) hlX
  · exact ⟨O₁.gi, .tail _ O.tabX,fun a ha=>(List.mem_cons.mp ha).elim (fun q=>⟨_,q ▸ hi.1⟩) (O₁.al a)⟩
  · exact (rv.weak (Y:=it :: X) fun a ha ⟨o,e⟩=>(List.mem_cons.mp ha).elim (fun q=>absurd q.symm (ne _ _ e _ hi.2)) id).keep fun b o _ e=>kp b o e
  · intro s' a us x ht' ha r'
    refine hQ _ _ ⟨?_,x.gi⟩ (.tuple ht' ha r')
    obtain ⟨h',tk,rfl⟩:=x.same
    exact ⟨h',tk,rfl,fun b o hb e=>x.keep b o hb (Ne.symm (ne _ _ e _ hi.2)) (Ne.symm (ne _ _ e _ hi.2)) (kp b o e)⟩
theorem ev_tupmap {sc:Scope}{ω:Owns}{σ:List Var}{e ef:Expr}{tp mp pos pos':Pos}{f:Value}{ds es:List D}(gt:GV h₀ "tuple" (.type "tuple")) (gm:GV h₀ "map" (.type "map")) (kt:sc.names.lookup ("tuple" : Str) = some .globalImplicit) (km:sc.names.lookup ("map" : Str) = some .globalImplicit)
    (hef:EV w h₀ (n + 4) sc ω σ ef (.val f)) (he:EV w h₀ (n + 4) sc ω σ e (.list ds)) (hlen:es.length = ds.length) (hz:ds.length ≤ 1000) (hf:∀ (k:Nat) (d e:D),ds[k]? = some d → es[k]? = some e → CallR w h₀ n f [d] e) (ns:isStarred ef = false:=by rfl) (ns':isStarred e = false:=by rfl) :
    EV w h₀ (n + 4) sc ω σ (.Call (.Name "tuple" tp) [.Call (.Name "map" mp) [ef,e] [] pos'] [] pos) (.tuple es):=fun A env X s0 s rm S Q E hq=>by
  show wpAny _ A (do callWith pos (← eval (.Name "tuple" tp) env) [] (backTo pos (starEach [.Call (.Name "map" mp) [ef,e] [] pos'] env)) []) Q E s
  refine wpAny_bind (ka3 (w:=w) (n:=n + 4) gt kt A env X s0 s rm S _ _ fun v s₁ n₁ rv=>?_)
  have:=rv.val_eq; subst this
  have S₁:=S.nx n₁
  rw [kbm rfl]
  refine kec rfl ?_
  refine evalArgs_plain (spliced_cons ?_)
  show wpAny _ A (do callWith pos' (← eval (.Name "map" mp) env) [] (backTo pos' (starEach [ef,e] env)) []) _ _ _
  refine wpAny_bind (ka3 (w:=w) (n:=n + 4) gm km A env X s0 s₁ rm S₁ _ _ fun v s₂ n₂ rv=>?_)
  have:=rv.val_eq; subst this
  have S₂:=S₁.nx n₂
  refine kb0 rm (.inr (.inl ⟨_,rfl⟩)) (.cons ns hef (.cons ns' he .nil)) S₂ fun vs s₃ n₃ rs=>?_
  cases rs with
  | cons r1 rs =>
    cases rs with
    | cons r2 rs =>
      cases rs
      have:=r1.val_eq; subst this
      have S₃:=S₂.nx n₃
      refine wpAny_mono (call_tupmap hlen hz hf rm S₃.op r2 (E:=E) (Q:=Q) fun v s₄ n₄ r₄=>hq v s₄ (n₁.trans (n₂.trans (n₃.trans n₄))) r₄) (fun m s₄ h=>?_) fun _ _ h=>h
      show wpAny _ A (spliced []) _ _ _
      exact spliced_nil h
end
end Mine
end
section
open PySem PySem.W PyProof.Rows PySem.Calls PySem.Spec
set_option maxRecDepth 100000
namespace Mine
section
theorem slot_sit_next:Slot "set_iterator" "__next__" "set_iterator.__next__" :=
  .of (owner := "set_iterator") (n := "__next__") (by rw [typeLookup_type,builtinLookup_eq_fast]; kernel_rfl) (by decide +kernel) (by decide +kernel) (by decide +kernel)
    (by first | exact .inl (by decide +kernel) | exact .inr (by decide +kernel)) (by rw [isSubtype_type]; kernel_rfl)
theorem kde:entryFor table "set_iterator.__next__" = some Builtin.«set_iterator.__next__»:=entryFor_of_tree (by kernel_rfl)
theorem kee (a:Value):argsOk "set_iterator.__next__" ⟨[a],[]⟩:=by unfold argsOk; kernel_rfl
theorem kgu:entryFor table "set.__iter__" = some Builtin.«frozenset.__iter__» :=
  entryFor_alias (id' := "frozenset.__iter__") (by kernel_rfl) (by first | rfl | decide +kernel | (unfold String.splitOn; simp +decide [String.splitOnAux])) (by decide +kernel) (by kernel_rfl)
theorem pick_one {α:Type}(f:Nat → Nat) (x:α):pickOrder f #[x] = #[x]:=by simp [pickOrder,pickOrder.go,Nat.mod_one]
noncomputable def sitObj (slot i:Nat) (s:Value):Obj:={ cls:=.type "set_iterator",dict:=none,data:=.fields #[rawInt slot,rawInt i,s,rawInt 1,rawInt 1],slots:=#[] }
section
variable {w:World}{A:Around}{E:Value → Shared → Prop}{s:Shared}
theorem kax {a:Addr}{Q:(Array (Int × Value) × Nat × SetTable) → Shared → Prop}{led:Bool}(h:s.heap.get? a = some (setOne led)) (hQ:Q (#[(1, .bool true)],1,setTab led) s):wpAny (model prog w) A (setState a) Q E s :=
  wpAny_setState_of h rfl rfl hQ
theorem kcw {Q:Bool → Shared → Prop}(hQ:Q (!ledOf w) s):wpAny (model prog w) A setsByText Q E s:=by
  unfold setsByText
  refine wpAny_bind (wpAny_askSetting (wpAny_pure ?_))
  have e:(!ledOf w) = w.params.followText "set-order" := by unfold ledOf; rw [Bool.not_not]
  rw [e] at hQ
  exact hQ
theorem khp {a:Addr}{Q:Value → Shared → Prop}(h:s.heap.get? a = some (setOne (ledOf w))) (hQ:Q (.ref s.heap.objs.size) { s with heap:=s.heap.push (sitObj 0 0 (.ref a)) }) :
    wpAny (model prog w) A (pyIter (.ref a)) Q E s:=by
  have hT:s.TypeIs (.ref a) "set" := ⟨_,h,rfl⟩
  refine wpAny_pyIter_slot hT F.slot_set_iter (wpAny_call_entry F.slot_set_iter hT kgu ?_ (F.args_set_iter_1 _))
  show wpAny _ _ (Builtin.Frozenset.sizeOf a >>= _) _ _ _
  unfold Builtin.Frozenset.sizeOf setEntries setDrawn setEpoch
  refine wpAny_bind (wpAny_bind (wpAny_bind (kax h (wpAny_pure (wpAny_pure ?_)))))
  refine wpAny_bind (wpAny_bind (kax h (wpAny_bind (kcw (wpAny_pure ?_)))))
  rw [if_neg (by generalize ledOf w = b; cases b <;> exact Bool.false_ne_true)]
  refine wpAny_bind (wpAny_pure ?_)
  refine wpAny_bind (wpAny_bind (kax h (wpAny_pure ?_)))
  exact wpAny_bind (wpAny_newObj_type (wpAny_pure ⟨_,rfl, "set_iterator",_,⟨_,Heap.get?_push_size _ rfl,rfl⟩,slot_sit_next.lookup,hQ⟩))
theorem kfs {it:Addr}{o:Obj}{vs:Array Value}{Q:Array Value → Shared → Prop}(h:s.heap.get? it = some o) (hd:o.data = .fields vs) (hQ:Q vs s):wpAny (model prog w) A (fieldsOf (.ref it)) Q E s:=by
  unfold fieldsOf
  show wpAny _ _ (load it >>= _) _ _ _
  refine wpAny_bind (wpAny_load h ?_)
  rw [hd]
  exact wpAny_pure hQ
theorem kiu {a it:Addr}{Q:Option Value → Shared → Prop}(h:s.heap.get? a = some (setOne (ledOf w))) (hi:s.heap.get? it = some (sitObj 0 0 (.ref a))) (hne:it ≠ a)
    (hQ:∀ h' k,Heap.SameBut it s.heap h' → h'.get? it = some (sitObj k 1 (.ref a)) → (ledOf w = true → k = 2) → Q (some (.bool true)) { s with heap:=h' }):wpAny (model prog w) A (pyNext (.ref it)) Q E s:=by
  have hT:s.TypeIs (.ref it) "set_iterator" := ⟨_,hi,rfl⟩
  unfold pyNext
  refine wpAny_bind (wpAny_attempt (wpAny_callSpecial?_slot (name:=Str.ofString "__next__") hT slot_sit_next
    (wpAny_call_entry slot_sit_next hT kde ?_ (kee _))))
  show wpAny _ _ (fieldsOf (.ref it) >>= _) _ _ _
  refine wpAny_bind (kfs hi rfl ?_)
  show wpAny _ _ (setEntries a >>= _) _ _ _
  unfold setEntries
  refine wpAny_bind (wpAny_bind (kax h (wpAny_pure ?_)))
  show wpAny _ _ (setNext a 0 0 1 >>= _) _ _ _
  refine wpAny_bind ?_
  unfold setNext
  refine wpAny_bind (kax h (wpAny_bind (kcw ?_)))
  have fin:∀ (E':Value → Shared → Prop) (k:Nat),(ledOf w = true → k = 2) → wpAny (model prog w) A.in1 (do
        setField (.ref it) 0 (rawInt k)
        setField (.ref it) 1 (rawInt ((0:Int) + 1))
        ret (.bool true)) (fun fin s'=>∃ v,fin = .done (.ret v) ∧ wpAny (model prog w) A (pure (some v)) Q E s') E' s:=fun E' k hk=>by
    refine wpAny_bind (wpAny_setField_rec hi (by simp) fun h₁ e₁ s₁=>?_)
    refine wpAny_bind (wpAny_setField_rec e₁ (by simp) fun h₂ e₂ s₂=>?_)
    exact wpAny_pure ⟨_,rfl,wpAny_pure (hQ h₂ k (s₁.trans s₂) e₂ hk)⟩
  cases hl:ledOf w with
  | false =>
    show wpAny _ _ (setWalk a >>= _) _ _ _
    unfold setWalk
    refine wpAny_bind (wpAny_bind (kax h (wpAny_bind (kcw ?_))))
    rw [hl]
    show wpAny _ _ (ask >>= _) _ _ _
    refine wpAny_bind (wpAny_askSetting (wpAny_pure ?_))
    rw [pick_one]
    exact wpAny_pure (fin _ 0 fun q=>by rw [hl] at q; cases q)
  | true =>
    show wpAny _ _ (pure (some (Value.bool true,2))) _ _ _
    exact wpAny_pure (fin _ 2 fun _=>rfl)
theorem kit {a it:Addr}{k:Nat}{Q:Option Value → Shared → Prop}(hh:A.handled = none) (h:s.heap.get? a = some (setOne (ledOf w))) (hi:s.heap.get? it = some (sitObj k 1 (.ref a))) (hk:ledOf w = true → k = 2)
    (hQ:∀ h',Heap.ExtBut it s.heap h' → Q none { s with heap:=h' }):wpAny (model prog w) A (pyNext (.ref it)) Q E s:=by
  have hT:s.TypeIs (.ref it) "set_iterator" := ⟨_,hi,rfl⟩
  unfold pyNext
  refine wpAny_bind (wpAny_attempt (wpAny_callSpecial?_slot (name:=Str.ofString "__next__") hT slot_sit_next
    (wpAny_call_entry slot_sit_next hT kde ?_ (kee _))))
  show wpAny _ _ (fieldsOf (.ref it) >>= _) _ _ _
  refine wpAny_bind (kfs hi rfl ?_)
  show wpAny _ _ (setEntries a >>= _) _ _ _
  unfold setEntries
  refine wpAny_bind (wpAny_bind (kax h (wpAny_pure ?_)))
  show wpAny _ _ (setNext a (k:Int).toNat 1 1 >>= _) _ _ _
  refine wpAny_bind ?_
  unfold setNext
  refine wpAny_bind (kax h (wpAny_bind (kcw ?_)))
  have fin:wpAny (model prog w) A.in1 (do
        setField (.ref it) 2 .none
        raiseNew (← newExc (.type "StopIteration") [])) (fun (fin:PySem.Fin) s'=>∃ v,fin = .done (.ret v) ∧ wpAny (model prog w) A (pure (some v)) Q E s') (fun e s'=>wpAny (model prog w) A (do if ← isInstance e (.type "StopIteration") then pure none else throw e) Q E s') s:=by
    refine wpAny_bind (wpAny_setField_rec hi (by simp) fun h₁ e₁ s₁=>?_)
    refine wpAny_bind ?_
    simp only [newExc,newTuple]
    refine wpAny_bind (wpAny_newObj_type ?_ (by size_fits))
    refine wpAny_bind (m:=firstArgMember _ _) (wpAny_of_eq (a:=Value.none) (by first | rfl | (simp only [firstArgMember]; rfl)) ?_)
    refine wpAny_newObj_type ?_ (by size_fits)
    simp only [raiseNew]
    refine wpAny_bind (wpAny_handled ?_)
    first | rw [show A.in1.handled = none from hh] | rw [hh]
    refine wpAny_bind (wpAny_pure (wpAny_throw ?_))
    refine wpAny_bind (wpAny_isInstance (T := "StopIteration") (b:=true) ⟨_,Heap.get?_push_size _ rfl,rfl⟩ isSubtype_stop ?_)
    exact wpAny_pure (hQ _ ((s₁.extBut.push _).push _))
  cases hl:ledOf w with
  | false =>
    show wpAny _ _ (setWalk a >>= _) _ _ _
    unfold setWalk
    refine wpAny_bind (wpAny_bind (kax h (wpAny_bind (kcw ?_))))
    rw [hl]
    show wpAny _ _ (ask >>= _) _ _ _
    refine wpAny_bind (wpAny_askSetting (wpAny_pure ?_))
    rw [pick_one]
    exact wpAny_pure fin
  | true =>
    have:=hk hl; subst this
    show wpAny _ _ (pure none) _ _ _
    exact wpAny_pure fin
theorem kho {a:Addr}{Q:List Value → Shared → Prop}(hh:A.handled = none) (h:s.heap.get? a = some (setOne (ledOf w)))
    (hQ:∀ h',Heap.ExtBut s.heap.objs.size s.heap h' → Q [.bool true] { s with heap:=h' }):wpAny (model prog w) A (unpackItems (.ref a) 1 none) Q E s:=by
  have hT:s.TypeIs (.ref a) "set" := ⟨_,h,rfl⟩
  have hlt:a ≠ s.heap.objs.size:=Nat.ne_of_lt (Heap.lt_size h)
  unfold unpackItems
  refine wpAny_bind ?_
  unfold notIterableAtAll
  refine wpAny_bind (wpAny_specialOf hT F.slot_set_iter.lookup ?_)
  refine wpAny_pure ?_
  simp only [Bool.false_eq_true,if_false]
  refine wpAny_bind (wpAny_holding (khp h ?_))
  have h₁:(s.heap.push (sitObj 0 0 (.ref a))).get? a = some (setOne (ledOf w)):=Heap.get?_push_of_some _ h
  refine wpAny_bind (wpAny_holding ?_)
  show wpAny _ _ (pyNext (.ref s.heap.objs.size) >>= _) _ _ _
  refine wpAny_bind (kiu h₁ (Heap.get?_push_size _ rfl) (Ne.symm hlt) fun h₂ k hs hi hk=>?_)
  refine wpAny_bind (wpAny_holding (wpAny_pure (wpAny_pure ?_)))
  show wpAny _ _ (if ([Value.bool true]:List Value).length < 1 then _ else _) _ _ _
  rw [if_neg (by simp)]
  refine wpAny_bind (wpAny_holding (kit hh ((hs.2 _ hlt).trans h₁) hi hk fun h₃ he=>?_))
  simp only [Option.isSome_none,Bool.false_eq_true,if_false]
  exact wpAny_pure (hQ h₃ fun b o hb e=>he b o hb ((hs.2 b hb).trans (Heap.get?_push_of_some _ e)))
end
end
section
section
variable {w:World}{h₀:Heap}{n:Nat}{sc:Scope}{ω:Owns}{σ σ':List Var}
theorem comp_nx {env:Env}{X:List Addr}{s0 s s':Shared}{C':Addr}{m:Str → Option Value}{h':Heap}(S:St h₀ sc env X s0 ω σ s) (hC:s.heap.get? C' = none) (kp:Kp s s') (gi:GI h₀ s') (hn:s'.heap.Ns C' m) (hs:Heap.SameBut C' s'.heap h'):Nx h₀ s { s' with heap:=h' }:=by
  have hCT:C' ≠ Tb:=fun q=>by
    obtain ⟨ps,e,_⟩:=S.gi.tab
    rw [← q,hC] at e; cases e
  refine ⟨?_,⟨fun b ob e=>?_, ?_,gi.off⟩⟩
  · obtain ⟨h1,t1,rfl,k⟩:=kp
    exact ⟨h',t1,rfl,fun b ob hb e=>(hs.2 b fun q=>by rw [q,hC] at e; cases e).trans (k b ob hb e)⟩
  · refine (hs.2 b fun q=>?_).trans (gi.keep b ob e)
    have:=S.gi.keep b ob e
    rw [q,hC] at this; cases this
  · obtain ⟨ps,e,x⟩:=gi.tab
    refine ⟨ps,(hs.2 _ (Ne.symm hCT)).trans e, ?_⟩
    rcases x with x | ⟨c',hne',e1,c,o,vs',t,e2,gg,r⟩
    · exact .inl x
    · cases e2
      exact .inr ⟨_,hne',e1,_,o,vs',t,rfl,(hs.2 _ fun q=>kb7 hn tourQual (q ▸ ⟨_,o,vs',t,rfl,gg,r⟩)).trans gg,r⟩
theorem khv {x:Str}{k:VK}{p tpos pos spos:Pos}{tk:Nat}{scope:Scope}{σc:List Var}{elt:Expr}{g:Comprehension}{ds acc':List D}(hi:IterE w h₀ n sc ω σ g.iter ds) (ok:CompOk scope sc σ σc) (C:∃ σ₁,CL w h₀ n (relab scope sc) elt [g] σc ds [] acc' σ₁) (hz:acc'.length ≤ 1000)
    (ht:∀ d ∈ acc',d = .bool true) (hne:acc' ≠ []) (U:Upd σ x k (.bool true) σ') (hk:k ≠ .ext:=by decide) (has:g.is_async = 0:=by rfl) (hfs:∀ env x,foldedSetIterable g.iter env x = pure x:=by intro _ _; rfl) :
    SS w h₀ n sc ω σ (.Assign [.Tuple [.Name x p] tk tpos] (.SetComp elt [g] scope pos) spos) (.next ω σ'):=fun A env X s0 s Q E rm S hq=>by
  obtain ⟨σ₁,C⟩:=C
  refine Assign_Tuple ?_ (by rfl) (by rfl)
  rw [arm_eval_SetComp]
  obtain ⟨gt,gi',gf,ga⟩:=g
  have ha:firstAsync [⟨gt,gi',gf,ga⟩] = false:=by
    show (ga != 0) = false
    simp only at has
    rw [has]; rfl
  show wpAny _ A (comprehension (cexp true elt [⟨gt,gi',gf,ga⟩] scope pos) scope env (firstIterPos [⟨gt,gi',gf,ga⟩] pos) (newAcc true) (firstAsync [⟨gt,gi',gf,ga⟩]) (eval gi' env) none) _ _ s
  rw [ha]
  refine kf0 (k:=true) (use:=none) rm S hi ok C hz ht (fun g' h=>by rw [List.mem_singleton.mp h]; exact has) (fun g' h=>by rw [List.mem_singleton.mp h]; exact hfs) ok.hloc fun a C' s' m hC ha' hne' kp gi hn ⟨Y,hcn,hCY,hXY⟩=>⟨m,hn,fun h' hs=>?_⟩
  have nx:=comp_nx S hC kp gi hn hs
  have S₁:=S.nx nx
  have he:(!acc'.isEmpty) = true:=by cases acc' <;> first | rfl | exact absurd rfl hne
  have hset:h'.get? a = some (setOne (ledOf w)):=by
    have q:s'.heap.get? a = some (setObj (ledOf w) (!acc'.isEmpty)):=hcn.1
    rw [he] at q
    exact (hs.2 a hne').trans q
  show wpAny _ A (assign (.Tuple [.Name x p] tk tpos) env (.ref a)) _ _ _
  rw [arm_assign_Tuple]
  refine wpAny_bind (wpAny_standAt ?_)
  unfold unpack
  refine wpAny_bind (wpAny_holding (kho rm.handled hset fun h₂ he₂=>?_))
  have n₂:Nx h₀ { s' with heap:=h' } { s' with heap:=h₂ }:=.of_keeps nx.2 ⟨h₂,s'.toks,rfl,fun b o e=>he₂ b o (Nat.ne_of_lt (Heap.lt_size e)) e⟩
  have S₂:=S₁.nx n₂
  show wpAny _ A (do holding [] (assign (.Name x p) env (.bool true)); pure ()) _ _ _
  refine wpAny_bind (wpAny_holding (wpAny_assign_Name (S₂.store U hk (.bool true) fun s₃ g₃ S₃=>wpAny_pure ?_)))
  exact hq _ _ ⟨X,(Grow.of_nx (nx.trans n₂) S.tabX).trans g₃,S₃⟩
end
end
section
open PySem.AutoSeq1 (wpAny_loadPart')
open PySem.MeetsSeq
noncomputable def ltT (x y:List Nat):Bool:=decide (x < y)
noncomputable def gtT (g:Bool) (x y:List Nat):Bool:=if g then ltT y x else ltT x y
noncomputable def opOf:Bool → CmpOp
  | false=>.Lt
  | true=>.Gt
noncomputable def TV1:Bool → List Nat → Value → Prop
  | false,x,v=>∃ t,v = .str ⟨x.toArray⟩ t
  | true,x,v=>∃ t,v = .bytes (x.map UInt8.ofNat).toArray t
theorem TV1.of {X:List Addr}{h:Heap}{b:Bool}{x:List Nat}{v:Value}(r:R X h v (tx b x)):TV1 b x v:=by
  cases b with
  | false=>exact r.str_eq
  | true=>exact r.bytes_eq
theorem order_lt:∀ {x y:List Nat},(∀ c ∈ x,c < 128) → (∀ c ∈ y,c < 128) → (Builtin.Bytes.order (x.map UInt8.ofNat) (y.map UInt8.ofNat) == .lt) = decide (x < y) ∧ (Builtin.Bytes.order (x.map UInt8.ofNat) (y.map UInt8.ofNat) == .gt) = decide (y < x)
  | [],[],_,_=>by simp [Builtin.Bytes.order]
  | [],_ :: _,_,_=>by simp [Builtin.Bytes.order]
  | _ :: _,[],_,_=>by simp [Builtin.Bytes.order]
  | a :: x,b :: y,hx,hy=>by
    have ih:=order_lt (x:=x) (y:=y) (fun c h=>hx c (.tail _ h)) (fun c h=>hy c (.tail _ h))
    have ha:=hx a (.head _)
    have hb:=hy b (.head _)
    have e1:(UInt8.ofNat a < UInt8.ofNat b) ↔ a < b:=by
      rw [UInt8.lt_iff_toNat_lt,UInt8.toNat_ofNat',UInt8.toNat_ofNat',Nat.mod_eq_of_lt (by lia),Nat.mod_eq_of_lt (by lia)]
    have e2:(UInt8.ofNat b < UInt8.ofNat a) ↔ b < a:=by
      rw [UInt8.lt_iff_toNat_lt,UInt8.toNat_ofNat',UInt8.toNat_ofNat',Nat.mod_eq_of_lt (by lia),Nat.mod_eq_of_lt (by lia)]
    simp only [List.map_cons,Builtin.Bytes.order,gt_iff_lt,e1,e2,List.cons_lt_cons_iff]
    rcases Nat.lt_trichotomy a b with h | h | h
    · have:¬ b < a:=by lia
      have h2:a ≠ b:=by lia
      have h3:b ≠ a:=by lia
      simp [h,this,h2,h3]
    · subst h
      simp [ih.1,ih.2]
    · have:¬ a < b:=by lia
      have h2:a ≠ b:=by lia
      have h3:b ≠ a:=by lia
      simp [h,this,h2,h3]
theorem gives_b_lt (b c:Array UInt8) (t u:Tok):Gives (Builtin.«bytes.__lt__» ⟨[.bytes b t, .bytes c u],[]⟩) (.val (.bool (Builtin.Bytes.order b.toList c.toList == .lt))):=.of_eq (by kernel_rfl)
theorem gives_b_gt (b c:Array UInt8) (t u:Tok):Gives (Builtin.«bytes.__gt__» ⟨[.bytes b t, .bytes c u],[]⟩) (.val (.bool (Builtin.Bytes.order b.toList c.toList == .gt))):=.of_eq (by kernel_rfl)
section
variable {pg:Program}{w:World}{A:Around}{E:Value → Shared → Prop}{s:Shared}
theorem rc_tx {b:Bool}{x y:List Nat}{v u:Value}{Q:Value → Shared → Prop}(g:Bool) (hx:okTx b x) (hy:okTx b y) (hv:TV1 b x v) (hu:TV1 b y u) (h:Q (.bool (gtT g x y)) s):wpAny (model pg w) A (richCompare (opOf g) v u) Q E s:=by
  cases b with
  | false =>
    obtain ⟨t,rfl⟩:=hv; obtain ⟨t',rfl⟩:=hu
    cases g with
    | false=>exact richCompare_gives (op:=.Lt) (typeIs_str _ _ _) (typeIs_str _ _ _) F.slot_str_lt F.entry_str_lt (F.args_str_lt_2 _ _) (gives_str_lt _ _ t t') (fun e=>nomatch e) h
    | true=>exact richCompare_gives (op:=.Gt) (typeIs_str _ _ _) (typeIs_str _ _ _) F.slot_str_gt F.entry_str_gt (F.args_str_gt_2 _ _) (gives_str_gt _ _ t t') (fun e=>nomatch e) h
  | true =>
    obtain ⟨t,rfl⟩:=hv; obtain ⟨t',rfl⟩:=hu
    have o:=order_lt (hx.2 rfl) (hy.2 rfl)
    cases g with
    | false =>
      refine richCompare_gives (op:=.Lt) (typeIs_bytes _ _ _) (typeIs_bytes _ _ _) khy kgw (kgm _ _) (gives_b_lt _ _ t t') (fun e=>nomatch e) ?_
      have h':Q (.bool (decide (x < y))) s:=h
      rw [← o.1] at h'; exact h'
    | true =>
      refine richCompare_gives (op:=.Gt) (typeIs_bytes _ _ _) (typeIs_bytes _ _ _) khz kgx (kgn _ _) (gives_b_gt _ _ t t') (fun e=>nomatch e) ?_
      have h':Q (.bool (decide (y < x))) s:=h
      rw [← o.2] at h'; exact h'
theorem eq_tx {b:Bool}{x y:List Nat}{v u:Value}{Q:Bool → Shared → Prop}(hx:okTx b x) (hy:okTx b y) (hv:TV1 b x v) (hu:TV1 b y u) (h:Q (x == y) s):wpAny (model pg w) A (eqBool v u) Q E s:=by
  cases b with
  | false =>
    obtain ⟨t,rfl⟩:=hv; obtain ⟨t',rfl⟩:=hu
    refine wpAny_eqBool_str ?_
    have e:decide ((⟨x.toArray⟩ : Str) = ⟨y.toArray⟩) = (x == y):=by
      by_cases q:x = y
      · subst q; simp
      · simp [q]
    rw [e]; exact h
  | true =>
    obtain ⟨t,rfl⟩:=hv; obtain ⟨t',rfl⟩:=hu
    unfold eqBool
    refine wpAny_holding ?_
    by_cases hab:(Value.bytes (x.map UInt8.ofNat).toArray t == Value.bytes (y.map UInt8.ofNat).toArray t') = true
    · rw [if_pos hab]
      have e:x = y:=by
        have q:=eq_of_beq hab
        simp only [Value.bytes.injEq] at q
        exact ki7 (hx.2 rfl) (hy.2 rfl) (by simpa using q.1)
      subst e
      exact wpAny_bind (wpAny_rule (wpAny_pure (by simpa using h)))
    · rw [if_neg hab]
      refine wpAny_bind (richCompare_gives (op:=.Eq) (typeIs_bytes _ _ _) (typeIs_bytes _ _ _) FB.slot_bytes_eq FB.entry_bytes_eq (FB.args_bytes_eq_2 _ _) (gives_bytes_eq _ _ t t') (fun x=>nomatch x) (wpAny_truthy_bool ?_))
      have e:((x.map UInt8.ofNat).toArray.toList == (y.map UInt8.ofNat).toArray.toList) = (x == y):=ki8 (hx.2 rfl) (hy.2 rfl)
      rw [e]; exact h
end
noncomputable def cmpL (g:Bool):List (List Nat) → List (List Nat) → Bool
  | [],[]=>false
  | [],_ :: _=>!g
  | _ :: _,[]=>g
  | x :: xs,y :: ys=>if (x == y) = true then cmpL g xs ys else gtT g x y
inductive TVs1 (b:Bool):List (List Nat) → List Value → Prop
  | nil:TVs1 b [] []
  | cons {x:List Nat}{v:Value}{xs:List (List Nat)}{vs:List Value} : okTx b x → TV1 b x v → TVs1 b xs vs → TVs1 b (x :: xs) (v :: vs)
theorem TVs1.of {X:List Addr}{h:Heap}{b:Bool} : ∀ {xs:List (List Nat)}{vs:List Value},(∀ x ∈ xs,okTx b x) → RAll X h vs (xs.map (tx b)) → TVs1 b xs vs
  | [],_,_,r=>by cases r; exact .nil
  | x :: xs,_,ho,r=>by
    cases r with
    | cons r1 r2=>exact .cons (ho x (.head _)) (.of r1) (TVs1.of (fun y hy=>ho y (.tail _ hy)) r2)
theorem TVs1.length {b:Bool}{xs:List (List Nat)}{vs:List Value}(h:TVs1 b xs vs):vs.length = xs.length:=by
  induction h with
  | nil=>rfl
  | cons _ _ _ ih=>simp [ih]
theorem TVs1.get {b:Bool}{xs:List (List Nat)}{vs:List Value}(h:TVs1 b xs vs) {i:Nat}{x:List Nat}(e:xs[i]? = some x):∃ v,vs[i]? = some v ∧ okTx b x ∧ TV1 b x v:=by
  induction h generalizing i with
  | nil=>simp at e
  | cons h1 h2 _ ih =>
    cases i with
    | zero=>simp at e; subst e; exact ⟨_,rfl,h1,h2⟩
    | succ i=>simpa using ih (by simpa using e)
set_option maxHeartbeats 0 in
theorem lex_loop {b g:Bool}{xs ys:List (List Nat)}{vs us:List Value}(hv:TVs1 b xs vs) (hu:TVs1 b ys us) (l m:Addr) (n n2:Nat) (k:Nat) :
    ∀ i:Nat,xs.length - i = k → i ≤ xs.length → i ≤ ys.length → Meets (Builtin.«list.__eq__.loop» ⟨[.ref l, .ref m,rawInt i,rawInt (if g = true then 4 else 0)],[]⟩)
      (fun _ R s=>s.heap.get? l = some { cls:=.type "list",dict:=none,data:=.seq vs.toArray n,slots:=#[] } ∧ s.heap.get? m = some { cls:=.type "list",dict:=none,data:=.seq us.toArray n2,slots:=#[] } ∧
        R (.ok (.ret (.bool (cmpL g (xs.drop i) (ys.drop i))))) s):=by
  have l1:=hv.length
  have l2:=hu.length
  have hop:∀ l:List CmpOp,l = [.Lt, .LtE, .Eq, .NotEq, .Gt, .GtE] → l[(if g = true then (4:Int) else 0).toNat]? = some (opOf g):=by rintro _ rfl; cases g <;> rfl
  induction k with
  | zero =>
    intro i hk hi1 hi2 prog w A R s h
    obtain ⟨hp,gn,d,tk,os⟩:=s; obtain ⟨hl,hb,h⟩:=h
    have hd:xs.drop i = []:=by simp; lia
    rw [hd] at h
    have h1:vs.toArray[((i:Nat):Int).toNat]? = none:=by simp; lia
    have h2:cmpL g [] (ys.drop i) = if g = true then decide (us.toArray.size < vs.toArray.size) else decide (vs.toArray.size < us.toArray.size):=by
      have e1:vs.toArray.size = i:=by rw [List.size_toArray]; lia
      have e2:us.toArray.size = ys.length:=by rw [List.size_toArray]; lia
      rw [e1,e2]
      cases q:ys.drop i with
      | nil =>
        have:ys.length ≤ i:=by simpa using q
        have:ys.length = i:=by lia
        cases g <;> simp [cmpL,this]
      | cons y r =>
        have:i < ys.length:=by
          have:=congrArg List.length q
          simp at this; lia
        cases g <;> simp [cmpL,this] <;> lia
    rw [h2] at h
    unfold Builtin.«list.__eq__.loop»
    dsimp only [rawInt]
    rw [hop]
    rotate_left
    · rfl
    wp_walk using wpAny_loadPart' hl,wpAny_loadPart' hb
    rw [h1]
    wp_walk using wpAny_loadPart' hl,wpAny_loadPart' hb
    cases g <;> exact h
  | succ k ih =>
    intro i hk hi1 hi2 prog w A R s h
    obtain ⟨hp,gn,d,tk,os⟩:=s; obtain ⟨hl,hb,h⟩:=h
    have hlt:i < xs.length:=by lia
    obtain ⟨v,hv1,hx,hxv⟩:=hv.get (List.getElem?_eq_getElem hlt)
    have e1:vs.toArray[((i:Nat):Int).toNat]? = some v:=by simpa using hv1
    have hd:xs.drop i = xs[i] :: xs.drop (i + 1):=List.drop_eq_getElem_cons hlt
    rw [hd] at h
    by_cases hlt2:i < ys.length
    · obtain ⟨u,hu1,hy,hyu⟩:=hu.get (List.getElem?_eq_getElem hlt2)
      have e2:us.toArray[((i:Nat):Int).toNat]? = some u:=by simpa using hu1
      have hd2:ys.drop i = ys[i] :: ys.drop (i + 1):=List.drop_eq_getElem_cons hlt2
      rw [hd2] at h
      have hc:((i:Int) + 1) = ((i + 1:Nat):Int):=by push_cast; rfl
      have fin:∀ (code:Int) (op:CmpOp),op = opOf g → code = (if g = true then 4 else 0) → True:=fun _ _ _ _=>trivial
      cases q:(xs[i] == ys[i]) with
      | true =>
        simp only [cmpL,q,if_true] at h
        unfold Builtin.«list.__eq__.loop»
        dsimp only [rawInt]
        rw [hop]
        rotate_left
        · rfl
        wp_walk using wpAny_loadPart' hl,wpAny_loadPart' hb
        rw [e1,e2]
        refine wpAny_bind (eq_tx hx hy hxv hyu ?_)
        rw [q]
        wp_walk
        rw [hc]
        exact ⟨plainId_quiet MeetsSeq3.plain_eq_loop _,codeAny_builtin MeetsSeq3.entry_eq_loop (by
          rw [Around.under_plainId MeetsSeq3.plain_eq_loop _]
          exact ih (i + 1) (by lia) (by lia) (by lia) prog w A R _ ⟨hl,hb,h⟩)⟩
      | false =>
        simp only [cmpL,q,Bool.false_eq_true,if_false] at h
        unfold Builtin.«list.__eq__.loop»
        dsimp only [rawInt]
        rw [hop]
        rotate_left
        · rfl
        wp_walk using wpAny_loadPart' hl,wpAny_loadPart' hb
        rw [e1,e2]
        refine wpAny_bind (eq_tx hx hy hxv hyu ?_)
        rw [q]
        wp_walk using wpAny_loadPart' hl,wpAny_loadPart' hb
        rw [e1,e2]
        cases g
        · exact wpAny_bind (rc_tx false hx hy hxv hyu (wpAny_pure h))
        · exact wpAny_bind (rc_tx true hx hy hxv hyu (wpAny_pure h))
    · have hi:i = ys.length:=by lia
      have e2:us.toArray[((i:Nat):Int).toNat]? = none:=by simp; lia
      have hd2:ys.drop i = []:=by simp; lia
      rw [hd2] at h
      have h2:cmpL g (xs[i] :: xs.drop (i + 1)) [] = if g = true then decide (us.toArray.size < vs.toArray.size) else decide (vs.toArray.size < us.toArray.size):=by
        have e1:vs.toArray.size = xs.length:=by rw [List.size_toArray]; lia
        have e2:us.toArray.size = ys.length:=by rw [List.size_toArray]; lia
        rw [e1,e2]
        cases g <;> simp [cmpL] <;> lia
      rw [h2] at h
      unfold Builtin.«list.__eq__.loop»
      dsimp only [rawInt]
      rw [hop]
      rotate_left
      · rfl
      wp_walk using wpAny_loadPart' hl,wpAny_loadPart' hb
      rw [e1,e2]
      wp_walk using wpAny_loadPart' hl,wpAny_loadPart' hb
      cases g <;> exact h
end
section
open PySem.AutoSeq1 (wpAny_loadPart')
open PySem.MeetsSeq
theorem lex_lt {b:Bool}{xs ys:List (List Nat)}{vs us:List Value}(hv:TVs1 b xs vs) (hu:TVs1 b ys us) (l m:Addr) (n n2:Nat):Meets (Builtin.«list.__lt__» ⟨[.ref l, .ref m],[]⟩)
      (fun _ R s=>s.heap.get? l = some { cls:=.type "list",dict:=none,data:=.seq vs.toArray n,slots:=#[] } ∧ s.heap.get? m = some { cls:=.type "list",dict:=none,data:=.seq us.toArray n2,slots:=#[] } ∧
        R (.ok (.ret (.bool (cmpL false xs ys)))) s):=by
  intro prog w A R s h
  obtain ⟨hp,g,d,tk,os⟩:=s; obtain ⟨hl,hb,h⟩:=h
  have f3:=AutoSeq1.sub_list_list
  wp_walk using wpAny_loadPart' hl,wpAny_loadPart' hb
  exact ⟨plainId_quiet MeetsSeq3.plain_eq_loop _,codeAny_builtin MeetsSeq3.entry_eq_loop (by
    rw [Around.under_plainId MeetsSeq3.plain_eq_loop _]
    exact lex_loop (g:=false) hv hu l m n n2 _ 0 rfl (Nat.zero_le _) (Nat.zero_le _) prog w A R _ ⟨hl,hb,h⟩)⟩
theorem lex_gt {b:Bool}{xs ys:List (List Nat)}{vs us:List Value}(hv:TVs1 b xs vs) (hu:TVs1 b ys us) (l m:Addr) (n n2:Nat):Meets (Builtin.«list.__gt__» ⟨[.ref l, .ref m],[]⟩)
      (fun _ R s=>s.heap.get? l = some { cls:=.type "list",dict:=none,data:=.seq vs.toArray n,slots:=#[] } ∧ s.heap.get? m = some { cls:=.type "list",dict:=none,data:=.seq us.toArray n2,slots:=#[] } ∧
        R (.ok (.ret (.bool (cmpL true xs ys)))) s):=by
  intro prog w A R s h
  obtain ⟨hp,g,d,tk,os⟩:=s; obtain ⟨hl,hb,h⟩:=h
  have f3:=AutoSeq1.sub_list_list
  wp_walk using wpAny_loadPart' hl,wpAny_loadPart' hb
  exact ⟨plainId_quiet MeetsSeq3.plain_eq_loop _,codeAny_builtin MeetsSeq3.entry_eq_loop (by
    rw [Around.under_plainId MeetsSeq3.plain_eq_loop _]
    exact lex_loop (g:=true) hv hu l m n n2 _ 0 rfl (Nat.zero_le _) (Nat.zero_le _) prog w A R _ ⟨hl,hb,h⟩)⟩
section
variable {w:World}{A:Around}{E:Value → Shared → Prop}{s:Shared}
theorem rc_list {b:Bool}{xs ys:List (List Nat)}{vs us:List Value}{l m:Addr}{Q:Value → Shared → Prop}(g:Bool) (hv:TVs1 b xs vs) (hu:TVs1 b ys us) (hl:s.heap.PlainList l vs.toArray) (hm:s.heap.PlainList m us.toArray) (hc:A.units < cLine)
    (h:Q (.bool (cmpL g xs ys)) s):wpAny (model prog w) A (richCompare (opOf g) (.ref l) (.ref m)) Q E s:=by
  obtain ⟨n,hl⟩:=hl
  obtain ⟨n2,hm⟩:=hm
  cases g with
  | false=>exact richCompare_meets_room (op:=.Lt) (T := "list") ⟨_,hl,rfl⟩ ⟨_,hm,rfl⟩ F.slot_list_lt F.entry_list_lt (F.args_list_lt_2 _ _) (lex_lt hv hu l m n n2) ⟨hl,hm,(show (Value.bool _ ≠ Value.notImplemented ∧ Q (.bool _) s) from ⟨(fun e=>nomatch e),h⟩)⟩ hc
  | true=>exact richCompare_meets_room (op:=.Gt) (T := "list") ⟨_,hl,rfl⟩ ⟨_,hm,rfl⟩ F.slot_list_gt F.entry_list_gt (F.args_list_gt_2 _ _) (lex_gt hv hu l m n n2) ⟨hl,hm,(show (Value.bool _ ≠ Value.notImplemented ∧ Q (.bool _) s) from ⟨(fun e=>nomatch e),h⟩)⟩ hc
theorem wp_min2 {l:Addr}{v0 v1:Value}{bt:Bool}{Q:Value → Shared → Prop}(hh:A.handled = none) (hl:s.heap.IsList l #[v0,v1])
    (hcmp:∀ s' (Q:Value → Shared → Prop) E,(∀ b o,s.heap.get? b = some o → s'.heap.get? b = some o) → Q (.bool bt) s' → wpAny (model prog w) A.in1 (richCompare .Lt v1 v0) Q E s')
    (hQ:∀ h' tk,(∀ b o,s.heap.get? b = some o → h'.get? b = some o) → Q (if bt then v1 else v0) { s with heap:=h',toks:=tk }):wpAny (model prog w) A (call (.builtin "min") [.ref l]) Q E s:=by
  have hname:(toString "min" ++ toString ".loop" : String) = "min.loop" := by decide
  obtain ⟨ol,hol,_⟩:=id hl
  have hll:l < s.heap.objs.size:=Heap.lt_size hol
  refine call_function_tree F.kind_min F.plain_min F.entry_min (F.args_min1 _) ?_
  show wpAny _ A.in1 (Builtin.Builtins.bindParams "min" ["key", "default"] 0 ⟨[],[]⟩ >>= _) _ _ s
  refine wpAny_bind (wpAny_of_eq (show Builtin.Builtins.bindParams "min" ["key", "default"] 0 ⟨[],[]⟩ = pure [none,none] from rfl) ?_)
  refine wpAny_bind (wpAny_pure ?_)
  refine wpAny_bind (wpAny_pyIter_list hl ?_)
  refine wpAny_bind (wpAny_newList ?_ (Nat.zero_le _))
  rw [hname]
  have hS:(s.heap.push { cls:=.type "list_iterator",data:=.fields #[.ref l, .int 0 0] }).objs.size = s.heap.objs.size + 1:=size_push' ..
  have hlI:l ≠ s.heap.objs.size:=Nat.ne_of_lt hll
  have hSI:(s.heap.push { cls:=.type "list_iterator",data:=.fields #[.ref l, .int 0 0] }).objs.size ≠ s.heap.objs.size:=by rw [hS]; exact Nat.ne_of_gt (Nat.lt_succ_self _)
  have hold:∀ b o,s.heap.get? b = some o → b ≠ s.heap.objs.size ∧ b ≠ (s.heap.push { cls:=.type "list_iterator",data:=.fields #[.ref l, .int 0 0] }).objs.size:=fun b o e =>
    ⟨Nat.ne_of_lt (Heap.lt_size e),by rw [hS]; exact Nat.ne_of_lt (Nat.lt_succ_of_lt (Heap.lt_size e))⟩
  generalize hSd:(s.heap.push { cls:=.type "list_iterator",data:=.fields #[.ref l, .int 0 0] }).objs.size = S at hSI hold
  have k0:∀ b o,s.heap.get? b = some o → ((s.heap.push { cls:=.type "list_iterator",data:=.fields #[.ref l, .int 0 0] }).push { cls:=.type "list",data:=.seq #[] }).get? b = some o:=fun b o e=>Heap.get?_push_of_some _ (Heap.get?_push_of_some _ e)
  have gI:((s.heap.push { cls:=.type "list_iterator",data:=.fields #[.ref l, .int 0 0] }).push { cls:=.type "list",data:=.seq #[] }).get? s.heap.objs.size = some { cls:=.type "list_iterator",data:=.fields #[.ref l, .int 0 0] } :=
    Heap.get?_push_of_some _ (Heap.get?_push_size _ rfl)
  have gS:((s.heap.push { cls:=.type "list_iterator",data:=.fields #[.ref l, .int 0 0] }).push { cls:=.type "list",data:=.seq #[] }).get? S = some { cls:=.type "list",data:=.seq #[] }:=by rw [← hSd]; exact Heap.get?_push_size _ rfl
  generalize hH:((s.heap.push { cls:=.type "list_iterator",data:=.fields #[.ref l, .int 0 0] }).push { cls:=.type "list",data:=.seq #[] }) = H at k0 gI gS
  have W:=Walks.list (prog:=prog) (w:=w) (A:=A.in1) hh s.heap.objs.size l hlI #[v0,v1]
  refine wpAny_pure ⟨plainId_quiet F.plain_min_loop _, ?_⟩
  -- first turn
  refine codeAny_builtin F.entry_min_loop ?_
  rw [Around.under_plainId F.plain_min_loop _]
  show wpAny _ A.in1 (seqItems? (.ref S) >>= _) _ _ _
  refine wpAny_bind (wpAny_seqItems gS rfl ?_)
  show wpAny _ A.in1 (tryCatch (pyNext (.ref s.heap.objs.size)) _ >>= _) _ _ _
  refine wpAny_bind (wpAny_tryCatch (W.item 0 _ _ _ (by show 0 < 2; decide) ⟨⟨_,gI,rfl,rfl⟩,kb2 hl fun o e=>k0 _ _ e⟩ fun v h₁ tk₁ hP st₁ hk₁=>?_))
  have:v = v0:=by have q:some v0 = some v:=hP; exact (Option.some.inj q).symm
  subst this
  have gS₁:h₁.get? S = _:=hk₁ S _ (by simpa using hSI) gS
  show wpAny _ A.in1 (updateSeq S (fun _=>#[v,v]) >>= _) _ _ _
  refine wpAny_bind (wpAny_updateSeq gS₁ rfl ?_)
  rw [hname]
  have gS₂:=Heap.get?_update_self (Obj.mapSeq fun _=>#[v,v]) gS₁ rfl
  have s₂:=Heap.SameBut.update h₁ S (Obj.mapSeq fun _=>#[v,v])
  have k₂:∀ b o,s.heap.get? b = some o → (h₁.update S (Obj.mapSeq fun _=>#[v,v])).get? b = some o:=fun b o e=>(s₂.2 b (hold b o e).2).trans (hk₁ b o (by simpa using (hold b o e).1) (k0 b o e))
  have st₂:=W.frame (h':=h₁.update S (Obj.mapSeq fun _=>#[v,v])) _ _ st₁ fun b hb o e=>(s₂.2 b (fun q=>by
    rcases List.mem_cons.mp hb with z | z
    · exact hSI (q ▸ z)
    · rw [List.mem_singleton.mp z] at q; exact (hold l _ hol).2 q)).trans e
  generalize (h₁.update S (Obj.mapSeq fun _=>#[v,v])) = H₂ at gS₂ k₂ st₂ ⊢
  refine wpAny_pure ⟨plainId_quiet F.plain_min_loop _, ?_⟩
  -- second turn
  refine codeAny_builtin F.entry_min_loop ?_
  rw [Around.under_plainId F.plain_min_loop _]
  show wpAny _ A.in1 (seqItems? (.ref S) >>= _) _ _ _
  refine wpAny_bind (wpAny_seqItems gS₂ rfl ?_)
  show wpAny _ A.in1 (tryCatch (pyNext (.ref s.heap.objs.size)) _ >>= _) _ _ _
  refine wpAny_bind (wpAny_tryCatch (W.item 1 _ _ _ (by show 1 < 2; decide) st₂ fun u h₃ tk₃ hP₃ st₃ hk₃=>?_))
  have:u = v1:=by have q:some v1 = some u:=hP₃; exact (Option.some.inj q).symm
  subst this
  have gS₃:h₃.get? S = _:=hk₃ S _ (by simpa using hSI) gS₂
  have k₃:∀ b o,s.heap.get? b = some o → h₃.get? b = some o:=fun b o e=>hk₃ b o (by simpa using (hold b o e).1) (k₂ b o e)
  show wpAny _ A.in1 (tryCatch (holding [u,u] (richCompare .Lt u v >>= _)) _ >>= _) _ _ _
  refine wpAny_bind (wpAny_tryCatch (wpAny_holding (wpAny_bind (hcmp _ _ _ k₃ ?_))))
  refine wpAny_bind (wpAny_holding (wpAny_truthy_bool ?_))
  refine wpAny_bind (wpAny_letGo (wpAny_pure ?_))
  have third:∀ (x:Value) (H₄:Heap) (c:Nat) (tk₄:Nat),(∀ b o,s.heap.get? b = some o → H₄.get? b = some o) → H₄.get? S = some { cls:=.type "list",dict:=none,data:=.seq #[x,x] c,slots:=#[] } → H₄.IsListIter s.heap.objs.size l 2 ∧ H₄.IsList l #[v,u] →
      (∀ h' tk,(∀ b o,s.heap.get? b = some o → h'.get? b = some o) → Q x { s with heap:=h',toks:=tk }) →
      codeAny (model prog w) A (.builtin "min.loop" ⟨[.ref s.heap.objs.size, .none, .ref S],[]⟩) (fun r s'=>match r with | .ok (.ret v)=>Q v s' | .ok _=>False | .error e=>E e s') { s with heap:=H₄,toks:=tk₄ }:=by
    intro x H₄ c tk₄ k₄ gS₄ st₄ hx
    refine codeAny_builtin F.entry_min_loop ?_
    rw [Around.under_plainId F.plain_min_loop _]
    show wpAny _ A.in1 (seqItems? (.ref S) >>= _) _ _ _
    refine wpAny_bind (wpAny_seqItems gS₄ rfl ?_)
    show wpAny _ A.in1 (tryCatch (pyNext (.ref s.heap.objs.size)) _ >>= _) _ _ _
    refine wpAny_bind (wpAny_tryCatch (W.done _ _ _ st₄ fun h₅ tk₅ hk₅=>?_))
    have gS₅:=hk₅ S _ (by simpa using hSI) gS₄
    show wpAny _ A.in1 (updateSeq S (fun _=>#[]) >>= _) _ _ _
    refine wpAny_bind (wpAny_updateSeq gS₅ rfl (wpAny_bind (wpAny_letGo (wpAny_pure ?_))))
    exact hx _ _ fun b o e=>(Heap.get?_update_other _ _ (Ne.symm (hold b o e).2)).trans (hk₅ b o (by simpa using (hold b o e).1) (k₄ b o e))
  cases bt with
  | true =>
    simp only [if_true]
    refine wpAny_bind (wpAny_updateSeq gS₃ rfl (wpAny_bind (wpAny_letGo ?_)))
    rw [hname]
    have gS₄:=Heap.get?_update_self (Obj.mapSeq fun _=>#[u,u]) gS₃ rfl
    have s₄:=Heap.SameBut.update h₃ S (Obj.mapSeq fun _=>#[u,u])
    refine wpAny_pure ⟨plainId_quiet F.plain_min_loop _,third u _ _ _ (fun b o e=>(s₄.2 b (hold b o e).2).trans (k₃ b o e)) gS₄ (W.frame _ _ _ st₃ fun b hb o e=>(s₄.2 b (fun q=>?_)).trans e) fun h' tk hk=>hQ h' tk hk⟩
    rcases List.mem_cons.mp hb with z | z
    · exact hSI (q ▸ z)
    · rw [List.mem_singleton.mp z] at q; exact (hold l _ hol).2 q
  | false =>
    simp only [Bool.false_eq_true,if_false]
    refine wpAny_bind (wpAny_letGo ?_)
    rw [hname]
    exact wpAny_pure ⟨plainId_quiet F.plain_min_loop _,third v _ _ _ k₃ gS₃ st₃ fun h' tk hk=>hQ h' tk hk⟩
theorem wp_max2 {l:Addr}{v0 v1:Value}{bt:Bool}{Q:Value → Shared → Prop}(hh:A.handled = none) (hl:s.heap.IsList l #[v0,v1])
    (hcmp:∀ s' (Q:Value → Shared → Prop) E,(∀ b o,s.heap.get? b = some o → s'.heap.get? b = some o) → Q (.bool bt) s' → wpAny (model prog w) A.in1 (richCompare .Gt v1 v0) Q E s')
    (hQ:∀ h' tk,(∀ b o,s.heap.get? b = some o → h'.get? b = some o) → Q (if bt then v1 else v0) { s with heap:=h',toks:=tk }):wpAny (model prog w) A (call (.builtin "max") [.ref l]) Q E s:=by
  have hname:(toString "max" ++ toString ".loop" : String) = "max.loop" := by decide
  obtain ⟨ol,hol,_⟩:=id hl
  have hll:l < s.heap.objs.size:=Heap.lt_size hol
  refine call_function_tree F.kind_max F.plain_max F.entry_max (F.args_max1 _) ?_
  show wpAny _ A.in1 (Builtin.Builtins.bindParams "max" ["key", "default"] 0 ⟨[],[]⟩ >>= _) _ _ s
  refine wpAny_bind (wpAny_of_eq (show Builtin.Builtins.bindParams "max" ["key", "default"] 0 ⟨[],[]⟩ = pure [none,none] from rfl) ?_)
  refine wpAny_bind (wpAny_pure ?_)
  refine wpAny_bind (wpAny_pyIter_list hl ?_)
  refine wpAny_bind (wpAny_newList ?_ (Nat.zero_le _))
  rw [hname]
  have hS:(s.heap.push { cls:=.type "list_iterator",data:=.fields #[.ref l, .int 0 0] }).objs.size = s.heap.objs.size + 1:=size_push' ..
  have hlI:l ≠ s.heap.objs.size:=Nat.ne_of_lt hll
  have hSI:(s.heap.push { cls:=.type "list_iterator",data:=.fields #[.ref l, .int 0 0] }).objs.size ≠ s.heap.objs.size:=by rw [hS]; exact Nat.ne_of_gt (Nat.lt_succ_self _)
  have hold:∀ b o,s.heap.get? b = some o → b ≠ s.heap.objs.size ∧ b ≠ (s.heap.push { cls:=.type "list_iterator",data:=.fields #[.ref l, .int 0 0] }).objs.size:=fun b o e =>
    ⟨Nat.ne_of_lt (Heap.lt_size e),by rw [hS]; exact Nat.ne_of_lt (Nat.lt_succ_of_lt (Heap.lt_size e))⟩
  generalize hSd:(s.heap.push { cls:=.type "list_iterator",data:=.fields #[.ref l, .int 0 0] }).objs.size = S at hSI hold
  have k0:∀ b o,s.heap.get? b = some o → ((s.heap.push { cls:=.type "list_iterator",data:=.fields #[.ref l, .int 0 0] }).push { cls:=.type "list",data:=.seq #[] }).get? b = some o:=fun b o e=>Heap.get?_push_of_some _ (Heap.get?_push_of_some _ e)
  have gI:((s.heap.push { cls:=.type "list_iterator",data:=.fields #[.ref l, .int 0 0] }).push { cls:=.type "list",data:=.seq #[] }).get? s.heap.objs.size = some { cls:=.type "list_iterator",data:=.fields #[.ref l, .int 0 0] } :=
    Heap.get?_push_of_some _ (Heap.get?_push_size _ rfl)
  have gS:((s.heap.push { cls:=.type "list_iterator",data:=.fields #[.ref l, .int 0 0] }).push { cls:=.type "list",data:=.seq #[] }).get? S = some { cls:=.type "list",data:=.seq #[] }:=by rw [← hSd]; exact Heap.get?_push_size _ rfl
  generalize hH:((s.heap.push { cls:=.type "list_iterator",data:=.fields #[.ref l, .int 0 0] }).push { cls:=.type "list",data:=.seq #[] }) = H at k0 gI gS
  have W:=Walks.list (prog:=prog) (w:=w) (A:=A.in1) hh s.heap.objs.size l hlI #[v0,v1]
  refine wpAny_pure ⟨plainId_quiet F.plain_max_loop _, ?_⟩
  -- first turn
  refine codeAny_builtin F.entry_max_loop ?_
  rw [Around.under_plainId F.plain_max_loop _]
  show wpAny _ A.in1 (seqItems? (.ref S) >>= _) _ _ _
  refine wpAny_bind (wpAny_seqItems gS rfl ?_)
  show wpAny _ A.in1 (tryCatch (pyNext (.ref s.heap.objs.size)) _ >>= _) _ _ _
  refine wpAny_bind (wpAny_tryCatch (W.item 0 _ _ _ (by show 0 < 2; decide) ⟨⟨_,gI,rfl,rfl⟩,kb2 hl fun o e=>k0 _ _ e⟩ fun v h₁ tk₁ hP st₁ hk₁=>?_))
  have:v = v0:=by have q:some v0 = some v:=hP; exact (Option.some.inj q).symm
  subst this
  have gS₁:h₁.get? S = _:=hk₁ S _ (by simpa using hSI) gS
  show wpAny _ A.in1 (updateSeq S (fun _=>#[v,v]) >>= _) _ _ _
  refine wpAny_bind (wpAny_updateSeq gS₁ rfl ?_)
  rw [hname]
  have gS₂:=Heap.get?_update_self (Obj.mapSeq fun _=>#[v,v]) gS₁ rfl
  have s₂:=Heap.SameBut.update h₁ S (Obj.mapSeq fun _=>#[v,v])
  have k₂:∀ b o,s.heap.get? b = some o → (h₁.update S (Obj.mapSeq fun _=>#[v,v])).get? b = some o:=fun b o e=>(s₂.2 b (hold b o e).2).trans (hk₁ b o (by simpa using (hold b o e).1) (k0 b o e))
  have st₂:=W.frame (h':=h₁.update S (Obj.mapSeq fun _=>#[v,v])) _ _ st₁ fun b hb o e=>(s₂.2 b (fun q=>by
    rcases List.mem_cons.mp hb with z | z
    · exact hSI (q ▸ z)
    · rw [List.mem_singleton.mp z] at q; exact (hold l _ hol).2 q)).trans e
  generalize (h₁.update S (Obj.mapSeq fun _=>#[v,v])) = H₂ at gS₂ k₂ st₂ ⊢
  refine wpAny_pure ⟨plainId_quiet F.plain_max_loop _, ?_⟩
  -- second turn
  refine codeAny_builtin F.entry_max_loop ?_
  rw [Around.under_plainId F.plain_max_loop _]
  show wpAny _ A.in1 (seqItems? (.ref S) >>= _) _ _ _
  refine wpAny_bind (wpAny_seqItems gS₂ rfl ?_)
  show wpAny _ A.in1 (tryCatch (pyNext (.ref s.heap.objs.size)) _ >>= _) _ _ _
  refine wpAny_bind (wpAny_tryCatch (W.item 1 _ _ _ (by show 1 < 2; decide) st₂ fun u h₃ tk₃ hP₃ st₃ hk₃=>?_))
  have:u = v1:=by have q:some v1 = some u:=hP₃; exact (Option.some.inj q).symm
  subst this
  have gS₃:h₃.get? S = _:=hk₃ S _ (by simpa using hSI) gS₂
  have k₃:∀ b o,s.heap.get? b = some o → h₃.get? b = some o:=fun b o e=>hk₃ b o (by simpa using (hold b o e).1) (k₂ b o e)
  show wpAny _ A.in1 (tryCatch (holding [u,u] (richCompare .Gt u v >>= _)) _ >>= _) _ _ _
  refine wpAny_bind (wpAny_tryCatch (wpAny_holding (wpAny_bind (hcmp _ _ _ k₃ ?_))))
  refine wpAny_bind (wpAny_holding (wpAny_truthy_bool ?_))
  refine wpAny_bind (wpAny_letGo (wpAny_pure ?_))
  have third:∀ (x:Value) (H₄:Heap) (c:Nat) (tk₄:Nat),(∀ b o,s.heap.get? b = some o → H₄.get? b = some o) → H₄.get? S = some { cls:=.type "list",dict:=none,data:=.seq #[x,x] c,slots:=#[] } → H₄.IsListIter s.heap.objs.size l 2 ∧ H₄.IsList l #[v,u] →
      (∀ h' tk,(∀ b o,s.heap.get? b = some o → h'.get? b = some o) → Q x { s with heap:=h',toks:=tk }) →
      codeAny (model prog w) A (.builtin "max.loop" ⟨[.ref s.heap.objs.size, .none, .ref S],[]⟩) (fun r s'=>match r with | .ok (.ret v)=>Q v s' | .ok _=>False | .error e=>E e s') { s with heap:=H₄,toks:=tk₄ }:=by
    intro x H₄ c tk₄ k₄ gS₄ st₄ hx
    refine codeAny_builtin F.entry_max_loop ?_
    rw [Around.under_plainId F.plain_max_loop _]
    show wpAny _ A.in1 (seqItems? (.ref S) >>= _) _ _ _
    refine wpAny_bind (wpAny_seqItems gS₄ rfl ?_)
    show wpAny _ A.in1 (tryCatch (pyNext (.ref s.heap.objs.size)) _ >>= _) _ _ _
    refine wpAny_bind (wpAny_tryCatch (W.done _ _ _ st₄ fun h₅ tk₅ hk₅=>?_))
    have gS₅:=hk₅ S _ (by simpa using hSI) gS₄
    show wpAny _ A.in1 (updateSeq S (fun _=>#[]) >>= _) _ _ _
    refine wpAny_bind (wpAny_updateSeq gS₅ rfl (wpAny_bind (wpAny_letGo (wpAny_pure ?_))))
    exact hx _ _ fun b o e=>(Heap.get?_update_other _ _ (Ne.symm (hold b o e).2)).trans (hk₅ b o (by simpa using (hold b o e).1) (k₄ b o e))
  cases bt with
  | true =>
    simp only [if_true]
    refine wpAny_bind (wpAny_updateSeq gS₃ rfl (wpAny_bind (wpAny_letGo ?_)))
    rw [hname]
    have gS₄:=Heap.get?_update_self (Obj.mapSeq fun _=>#[u,u]) gS₃ rfl
    have s₄:=Heap.SameBut.update h₃ S (Obj.mapSeq fun _=>#[u,u])
    refine wpAny_pure ⟨plainId_quiet F.plain_max_loop _,third u _ _ _ (fun b o e=>(s₄.2 b (hold b o e).2).trans (k₃ b o e)) gS₄ (W.frame _ _ _ st₃ fun b hb o e=>(s₄.2 b (fun q=>?_)).trans e) fun h' tk hk=>hQ h' tk hk⟩
    rcases List.mem_cons.mp hb with z | z
    · exact hSI (q ▸ z)
    · rw [List.mem_singleton.mp z] at q; exact (hold l _ hol).2 q
  | false =>
    simp only [Bool.false_eq_true,if_false]
    refine wpAny_bind (wpAny_letGo ?_)
    rw [hname]
    exact wpAny_pure ⟨plainId_quiet F.plain_max_loop _,third v _ _ _ k₃ gS₃ st₃ fun h' tk hk=>hQ h' tk hk⟩
end
end
section
section
variable {w:World}{h₀:Heap}{n:Nat}
theorem call_min {b:Bool}{xs ys:List (List Nat)}(hx:∀ x ∈ xs,okTx b x) (hy:∀ x ∈ ys,okTx b x):CallR w h₀ (n + 1) (.builtin "min") [.list [.list (xs.map (tx b)), .list (ys.map (tx b))]] (.list ((if cmpL false ys xs = true then ys else xs).map (tx b))):=fun A X s vs rm O rs Q E h=>by
  obtain ⟨v,rfl,r⟩:=rs.one
  obtain ⟨l,us,rfl,hl,hlX,rus⟩:=r.list_plain
  obtain ⟨v0,v1,rfl,r0,r1⟩:=rus.two
  obtain ⟨a0,us0,rfl,p0,aX0,q0⟩:=r0.list_plain
  obtain ⟨a1,us1,rfl,p1,aX1,q1⟩:=r1.list_plain
  refine wp_min2 (bt:=cmpL false ys xs) rm.handled hl.isList (fun s' Q E k hq=>rc_list false (TVs1.of hy q1) (TVs1.of hx q0) (p1.at fun o e=>k _ _ e) (p0.at fun o e=>k _ _ e) (by have:=rm.in1.cl; lia) hq) fun h' tk hk=>?_
  refine h _ _ (.of_keeps O.gi ⟨h',tk,rfl,hk⟩) ?_
  cases cmpL false ys xs with
  | true=>exact r1.keep fun b o _ e=>hk b o e
  | false=>exact r0.keep fun b o _ e=>hk b o e
theorem call_max {b:Bool}{xs ys:List (List Nat)}(hx:∀ x ∈ xs,okTx b x) (hy:∀ x ∈ ys,okTx b x):CallR w h₀ (n + 1) (.builtin "max") [.list [.list (xs.map (tx b)), .list (ys.map (tx b))]] (.list ((if cmpL true ys xs = true then ys else xs).map (tx b))):=fun A X s vs rm O rs Q E h=>by
  obtain ⟨v,rfl,r⟩:=rs.one
  obtain ⟨l,us,rfl,hl,hlX,rus⟩:=r.list_plain
  obtain ⟨v0,v1,rfl,r0,r1⟩:=rus.two
  obtain ⟨a0,us0,rfl,p0,aX0,q0⟩:=r0.list_plain
  obtain ⟨a1,us1,rfl,p1,aX1,q1⟩:=r1.list_plain
  refine wp_max2 (bt:=cmpL true ys xs) rm.handled hl.isList (fun s' Q E k hq=>rc_list true (TVs1.of hy q1) (TVs1.of hx q0) (p1.at fun o e=>k _ _ e) (p0.at fun o e=>k _ _ e) (by have:=rm.in1.cl; lia) hq) fun h' tk hk=>?_
  refine h _ _ (.of_keeps O.gi ⟨h',tk,rfl,hk⟩) ?_
  cases cmpL true ys xs with
  | true=>exact r1.keep fun b o _ e=>hk b o e
  | false=>exact r0.keep fun b o _ e=>hk b o e
end
section
variable {w:World}{h₀:Heap}{n:Nat}{sc:Scope}{ω:Owns}{σ:List Var}
theorem St.turn2 {env:Env}{X:List Addr}{s0 s:Shared}{a a2:Addr}{c c' c2 c2':Cn}{h':Heap}{tk:Nat}(S:St h₀ sc env X s0 ((a,c) :: (a2,c2) :: ω) σ s) (hk:∀ b o,b ≠ a → b ≠ a2 → s.heap.get? b = some o → h'.get? b = some o) (hcode:∀ q, ¬ s.heap.CodeRec (.ref a) q) (hcode2:∀ q, ¬ s.heap.CodeRec (.ref a2) q)
    (hal:∃ o,h'.get? a = some o) (hal2:∃ o,h'.get? a2 = some o) (hc:CnIs X { s with heap:=h',toks:=tk } a c') (hc2:CnIs X { s with heap:=h',toks:=tk } a2 c2'):St h₀ sc env X s0 ((a,c') :: (a2,c2') :: ω) σ { s with heap:=h',toks:=tk }:=by
  obtain ⟨haX,hn,hca⟩:=S.owns.is _ (.head _)
  obtain ⟨haX2,hn2,hca2⟩:=S.owns.is _ (.tail _ (.head _))
  have hT:a ≠ Tb:=fun q=>by
    obtain ⟨ps,e,_⟩:=S.gi0.tab
    rw [← q,hn] at e; cases e
  have hT2:a2 ≠ Tb:=fun q=>by
    obtain ⟨ps,e,_⟩:=S.gi0.tab
    rw [← q,hn2] at e; cases e
  have up:∀ v d,R X s.heap v d → R X h' v d:=fun v d r=>r.keep fun b o hb e=>hk b o (fun q=>hb (q ▸ haX)) (fun q=>hb (q ▸ haX2)) e
  have upA:∀ v d,RAll X s.heap v d → RAll X h' v d:=fun v d r=>r.keep fun b o hb e=>hk b o (fun q=>hb (q ▸ haX)) (fun q=>hb (q ▸ haX2)) e
  have hmem:a ∈ ((a,c) :: (a2,c2) :: ω).map (·.1):=.head _
  have hmem2:a2 ∈ ((a,c) :: (a2,c2) :: ω).map (·.1):=.tail _ (.head _)
  refine ⟨S.ok,S.scope,S.glob,S.blt, ?_,⟨fun b o e=>?_, ?_,S.gi.off⟩,S.gi0, ?_, ?_,S.inj,S.locX,S.new,S.newc, ?_,S.tabX, ?_⟩
  · obtain ⟨h,t,rfl,k⟩:=S.base
    refine ⟨h',tk,rfl,fun b o hb e=>hk b o (fun q=>?_) (fun q=>?_) (k b o hb e)⟩
    · rw [q,hn] at e; cases e
    · rw [q,hn2] at e; cases e
  · refine hk b o (fun q=>?_) (fun q=>?_) (S.gi.keep b o e)
    · have:=S.gi0.keep b o e
      rw [q,hn] at this; cases this
    · have:=S.gi0.keep b o e
      rw [q,hn2] at this; cases this
  · obtain ⟨ps,e,x⟩:=S.gi.tab
    refine ⟨ps,hk _ _ (Ne.symm hT) (Ne.symm hT2) e, ?_⟩
    rcases x with x | ⟨c',hne,e1,c,o,vs,t,e2,g,r⟩
    · exact .inl x
    · cases e2
      exact .inr ⟨_,hne,e1,_,o,vs,t,rfl,hk _ _ (fun q=>hcode tourQual (q ▸ ⟨_,o,vs,t,rfl,g,r⟩)) (fun q=>hcode2 tourQual (q ▸ ⟨_,o,vs,t,rfl,g,r⟩)) g,r⟩
  · obtain ⟨m,hm,hv⟩:=S.ns
    refine ⟨m,ns_at hm fun o e=>hk _ _ (fun q=>kba S.owns hm (q ▸ hmem)) (fun q=>kba S.owns hm (q ▸ hmem2)) e,fun e he hk' d hd=>?_⟩
    obtain ⟨v,h1,h2⟩:=hv e he hk' d hd
    exact ⟨v,h1,up _ _ h2⟩
  · intro e he hk'
    obtain ⟨c',ov,h1,h2,h3,h4⟩:=S.cell e he hk'
    refine ⟨c',ov,h1,kaf h2 fun o e=>hk _ _ (fun q=>kbi S.owns h2 (q ▸ hmem)) (fun q=>kbi S.owns h2 (q ▸ hmem2)) e,h3,fun d hd=>?_⟩
    obtain ⟨v,e1,e2⟩:=h4 d hd
    exact ⟨v,e1,up _ _ e2⟩
  · intro b hb
    by_cases q:b = a
    · exact q ▸ hal
    · by_cases q2:b = a2
      · exact q2 ▸ hal2
      · obtain ⟨o,e⟩:=S.alive b hb
        exact ⟨o,hk b o q q2 e⟩
  · have hnd:=S.owns.nd
    refine ⟨hnd,fun p hp=>?_⟩
    rcases List.mem_cons.mp hp with rfl | hp
    · exact ⟨haX,hn,hc⟩
    · rcases List.mem_cons.mp hp with rfl | hp
      · exact ⟨haX2,hn2,hc2⟩
      · obtain ⟨h1,h2,h3⟩:=S.owns.is p (.tail _ (.tail _ hp))
        simp only [List.map_cons,List.nodup_cons,List.mem_cons,not_or] at hnd
        have hne:p.1 ≠ a:=fun q=>hnd.1.2 (List.mem_map.mpr ⟨p,hp,q⟩)
        have hne2:p.1 ≠ a2:=fun q=>hnd.2.1 (List.mem_map.mpr ⟨p,hp,q⟩)
        refine ⟨h1,h2, ?_⟩
        obtain ⟨b,c'⟩:=p
        cases c' with
        | lst ds=>obtain ⟨vs,q1,q2⟩:=h3; exact ⟨vs,q1.at fun o e=>hk _ _ hne hne2 e,upA _ _ q2⟩
        | obj o=>exact ⟨hk _ _ hne hne2 h3.1,h3.2⟩
noncomputable abbrev enumObj (it:Addr) (i:Int) (old:Value):Obj:={ cls:=.type "enumerate",dict:=none,data:=.fields #[.none, .bool false, .ref it,rawInt i, .none,old],slots:=#[] }
inductive FE (w:World) (h₀:Heap) (n:Nat) (sc:Scope) (es:List Expr) (body:List Stmt):Owns → List Var → Nat → List D → Out → Prop
  | nil {ω:Owns}{σ:List Var}{i:Nat} : FE w h₀ n sc es body ω σ i [] (.next ω σ)
  | next {ω ω₂:Owns}{σ σ₁ σ₂:List Var}{i:Nat}{d:D}{ds:List D}{out:Out} : Upds σ es [.int i,d] σ₁ → (∀ p q,SX w h₀ n sc (p :: q :: ω) σ₁ body (.next (p :: q :: ω₂) σ₂)) → FE w h₀ n sc es body ω₂ σ₂ (i + 1) ds out → FE w h₀ n sc es body ω σ i (d :: ds) out
  | brk {ω ω₂:Owns}{σ σ₁ σ₂:List Var}{i:Nat}{d:D}{ds:List D} : Upds σ es [.int i,d] σ₁ → (∀ p q,SX w h₀ n sc (p :: q :: ω) σ₁ body (.brk (p :: q :: ω₂) σ₂)) → FE w h₀ n sc es body ω σ i (d :: ds) (.next ω₂ σ₂)
theorem kij {h:Heap}{e it:Addr}{i:Int}{old:Value}(x:h.get? e = some (enumObj it i old)) (q:Str):¬ h.CodeRec (.ref e) q:=kaw x rfl (fun x t e=>by simp at e) q
set_option tactic.hygienic true in
theorem wp_forE {A:Around}{env:Env}{s0 sB:Shared}{es:List Expr}{x1:Nat}{pt:Pos}{body:List Stmt}{e it l:Addr}{XB:List Addr}{vs:List Value}{all:List D}(rm:Room A n) (heX:e ∉ XB) (hiX:it ∉ XB) (hei:e ≠ it) {i:Nat}{ds:List D}{out:Out}(F:FE w h₀ n sc es body ω σ i ds out) :
    ∀ {old:Value}{oi:Obj}{X:List Addr}{s:Shared}{RR:Result → Shared → Prop},St h₀ sc env X s0 ((e, .obj (enumObj it i old)) :: (it, .obj oi) :: ω) σ s → oi.cls = .type "list_iterator" → oi.data = .fields #[.ref l, .int i 0] → Grow XB sB X s → i ≤ all.length → all.drop i = ds → l ∉ X → s.heap.IsList l vs.toArray → RAll X s.heap vs all →
      (∀ fl s',OutOk h₀ sc env XB s0 sB out fl s' → RR (.ok fl) s') → codeAny (model prog w) A (.forLoop (.Tuple es x1 pt) (.ref e) body [] env) RR s:=by
  have item:∀ {ω:Owns}{σ σ₁:List Var}{i:Nat}{d:D}{old:Value}{oi:Obj}{X:List Addr}{s:Shared}{RR:Result → Shared → Prop},St h₀ sc env X s0 ((e, .obj (enumObj it i old)) :: (it, .obj oi) :: ω) σ s → oi.cls = .type "list_iterator" → oi.data = .fields #[.ref l, .int i 0] → all[i]? = some d → l ∉ X → s.heap.IsList l vs.toArray → RAll X s.heap vs all →
      Upds σ es [.int i,d] σ₁ →
      (∀ x oi' s',St h₀ sc env X s0 ((e, .obj (enumObj it (i + 1:Nat) x)) :: (it, .obj oi') :: ω) σ₁ s' → oi'.cls = .type "list_iterator" → oi'.data = .fields #[.ref l, .int (i + 1:Nat) 0] → Grow X s X s' → wpAny (model prog w) A (execs body env) (fun f s₃=>match f with
            | .next | .cont=>codeAny (model prog w) A (.forLoop (.Tuple es x1 pt) (.ref e) body [] env) RR s₃
            | .brk=>RR (.ok .next) s₃
            | .ret v=>RR (.ok (.ret v)) s₃) (notedBy (model prog w) A env fun e s'=>RR (.error e) s') s') → codeAny (model prog w) A (.forLoop (.Tuple es x1 pt) (.ref e) body [] env) RR s:=by
    intro ω σ σ₁ i d old oi X s RR S hoc hod hd hlX hl rv U k
    have he:IsEnum s.heap e it i old:=(S.owns.is _ (.head _)).2.2.1
    have hit:s.heap.IsListIter it l i:=⟨oi,(S.owns.is _ (.tail _ (.head _))).2.2.1,hoc,hod⟩
    obtain ⟨v,hv,rd⟩:=rv.get hd
    have haX:e ∈ X:=(S.owns.is _ (.head _)).1
    have haX2:it ∈ X:=(S.owns.is _ (.tail _ (.head _))).1
    refine codeAny_of_tree ?_
    show wpAny _ A ((forTurn (.Tuple es x1 pt) (.ref e) body [] env).onRaise (fun x=>do noteFrame x env; theTreesLotGoes x)) _ _ s
    refine wpAny_noted ?_
    simp only [forTurn]
    refine wpAny_bind (wpAny_standAt (wpAny_bind (wpAny_onRaise (wpAny_pyNext_enum_item he hit hl (x:=v) (by rw [List.getElem?_toArray]; exact hv) hei fun h₁ heo hit₁ ht₁ hz₁ hk₁=>?_))))
    refine wpAny_bind (wpAny_letOwnedTupleGo_enum heo fun h₂ he₂ hs₂=>?_)
    replace hs₂:Heap.SameBut e h₁ h₂:=hs₂
    obtain ⟨oi',hoi',hoc',hod'⟩:=hit₁
    have hc:((i:Int) + 1) = ((i + 1:Nat):Int):=by push_cast; rfl
    rw [hc] at he₂
    have hoi₂:h₂.get? it = some oi':=(hs₂.2 _ (Ne.symm hei)).trans hoi'
    have keep:∀ b o,b ≠ e → b ≠ it → s.heap.get? b = some o → h₂.get? b = some o:=fun b o h1 h2 h3=>(hs₂.2 b h1).trans (hk₁ b o h1 h2 h3)
    have hnt:∀ q, ¬ s.heap.CodeRec (.ref it) q:=kbd hit
    have S₂:St h₀ sc env X s0 ((e, .obj (enumObj it (i + 1:Nat) v)) :: (it, .obj oi') :: ω) σ { s with heap:=h₂,toks:=s.toks + 1 } :=
      S.turn2 keep (kij he) hnt ⟨_,he₂⟩ ⟨_,hoi₂⟩ ⟨he₂, .inl ⟨_,rfl⟩⟩ ⟨hoi₂, .inl ⟨_,hod'⟩⟩
    have g₂:Grow X s X { s with heap:=h₂,toks:=s.toks + 1 }:=⟨⟨_,_,rfl⟩,fun b o hb q=>keep b o (fun z=>hb (z ▸ haX)) (fun z=>hb (z ▸ haX2)) q,fun _ h=>h,fun _ h=>.inl h⟩
    have heH:e < s.heap.objs.size:=Heap.lt_size he
    have ht₂:h₂.IsTuple s.heap.objs.size #[.int i s.toks,v]:=⟨_,(hs₂.2 _ (Nat.ne_of_gt heH)).trans ht₁,rfl,_,rfl⟩
    have hfr:s.heap.objs.size ∉ X:=S.op.fresh
    have rt:R X h₂ (.ref s.heap.objs.size) (.tuple [.int i,d]):=.tuple (vs:=[.int i s.toks,v]) ht₂ hfr (.cons (.int _ _) (.cons (rd.grow g₂) .nil))
    refine wpAny_bind (ked (w:=w) (n:=n) U A env X s0 _ _ _ _ rm S₂ rt fun s₃ g₃ S₃=>?_)
    refine wpAny_bind (wpAny_mono (k v oi' s₃ S₃ hoc' hod' (g₂.trans g₃)) (fun f s₃ hf=>?_) fun _ _ e=>e)
    cases f with
    | next=>exact wpAny_pure ⟨rfl,hf⟩
    | cont=>exact wpAny_pure ⟨rfl,hf⟩
    | brk=>exact wpAny_pure hf
    | ret v=>exact wpAny_pure hf
  have offX:∀ {X X':List Addr}{s s':Shared},Grow X s X' s' → l ∉ X → s.heap.IsList l vs.toArray → RAll X s.heap vs all → l ∉ X' ∧ s'.heap.IsList l vs.toArray ∧ RAll X' s'.heap vs all:=fun {X X' s s'} g hX hl rv=>by
    refine ⟨fun q=>(g.new l q).elim hX fun z=>?_,kb2 hl fun o e=>g.keep _ _ hX e,(rv.weak (Y:=X') fun a ha ⟨o,e⟩=>(g.new a ha).elim id fun z=>?_).keep fun b o hb e=>g.keep b o (fun q=>hb (g.sub b q)) e⟩
    · obtain ⟨o,e,_⟩:=hl; rw [z] at e; cases e
    · rw [z] at e; cases e
  induction F with
  | nil =>
    intro old oi X s RR S hoc hod gB hi hd hlX hl rv h
    rename_i i
    have he:IsEnum s.heap e it i old:=(S.owns.is _ (.head _)).2.2.1
    have hit:s.heap.IsListIter it l i:=⟨oi,(S.owns.is _ (.tail _ (.head _))).2.2.1,hoc,hod⟩
    have haX2:it ∈ X:=(S.owns.is _ (.tail _ (.head _))).1
    have hn:vs.toArray[i]? = none:=by
      have:=List.drop_eq_nil_iff.mp hd
      rw [List.getElem?_toArray,List.getElem?_eq_none]; rw [rv.length]; exact this
    refine codeAny_of_tree ?_
    show wpAny _ A ((forTurn (.Tuple es x1 pt) (.ref e) body [] env).onRaise (fun x=>do noteFrame x env; theTreesLotGoes x)) _ _ s
    refine wpAny_noted ?_
    simp only [forTurn]
    refine wpAny_bind (wpAny_standAt (wpAny_bind (wpAny_onRaise (wpAny_pyNext_enum_end rm.handled he hit hl hn fun h₁ he₁=>?_))))
    have S₁:=((S.perm (.swap _ _ _)).erase (tk:=s.toks) (fun b o hb e=>he₁ b o hb e) (kbd hit)).drop
    refine wpAny_pure ⟨rfl,codeAny_block (wpAny_execs_nil (h _ _ ⟨X.filter (· != it), ?_,S₁⟩))⟩
    refine ⟨?_,fun b o hb q=>he₁ b o (fun z=>?_) (gB.keep b o hb q),fun a ha=>List.mem_filter.mpr ⟨gB.sub a ha,by simpa using fun q:a = it=>hiX (q ▸ ha)⟩,fun a ha=>gB.new a (List.mem_filter.mp ha).1⟩
    · obtain ⟨h1,t1,rfl⟩:=gB.same
      exact ⟨h₁,_,rfl⟩
    · subst z
      rcases gB.new b haX2 with z | z
      · exact hb z
      · rw [z] at q; cases q
  | next U hb F' ih =>
    intro old oi X s RR S hoc hod gB hi hd hlX hl rv h
    obtain ⟨h1,h2,h3⟩:=kbb hd
    refine item S hoc hod h1 hlX hl rv U fun x oi' s' S' hoc' hod' g'=>hb _ _ A env X s0 s' _ _ rm S' fun fl s₂ oo=>?_
    cases fl with
    | next =>
      obtain ⟨X₂,g₂,S₂⟩:=oo
      obtain ⟨a1,a2,a3⟩:=offX (g'.trans g₂) hlX hl rv
      exact ih S₂ hoc' hod' (gB.trans (g'.trans g₂)) h3 h2 a1 a2 a3 h
    | _=>exact oo.elim
  | brk U hb =>
    intro old oi X s RR S hoc hod gB hi hd hlX hl rv h
    obtain ⟨h1,h2,h3⟩:=kbb hd
    refine item S hoc hod h1 hlX hl rv U fun x oi' s' S' hoc' hod' g'=>hb _ _ A env X s0 s' _ _ rm S' fun fl s₂ oo=>?_
    cases fl with
    | brk =>
      obtain ⟨X₂,g₂,S₂⟩:=oo
      exact h _ _ ⟨X₂,gB.trans (g'.trans g₂),S₂.drop.drop⟩
    | _=>exact oo.elim
theorem kkl {es:List Expr}{x1:Nat}{e:Expr}{xp cp pt pos:Pos}{body:List Stmt}{ds:List D}{out:Out}(hg:GV h₀ "enumerate" (.type "enumerate")) (hk:sc.names.lookup ("enumerate" : Str) = some .globalImplicit) (he:EV w h₀ n sc ω σ e (.list ds)) (F:FE w h₀ n sc es body ω σ 0 ds out) (ns:isStarred e = false:=by rfl) :
    SS w h₀ n sc ω σ (.For (.Tuple es x1 pt) (.Call (.Name "enumerate" xp) [e] [] cp) body [] pos) out:=fun A env X s0 s Q E rm S h=>by
  refine wpAny_For ?_ (fun _=>rfl)
  show wpAny _ A (do callWith cp (← eval (.Name "enumerate" xp) env) [] (backTo cp (starEach [e] env)) []) _ E s
  refine wpAny_bind (ka3 hg hk A env X s0 s rm S _ _ fun v s₁ n₁ rv=>?_)
  have:=rv.val_eq; subst this
  refine kb0 rm (.inr (.inl ⟨_,rfl⟩)) (.cons ns he .nil) (S.nx n₁) fun vs s₂ n₂ rs=>?_
  obtain ⟨v,rfl,r⟩:=rs.one
  obtain ⟨l,us,rfl,hl,hlX,rus⟩:=r.list_eq
  have n12:=n₁.trans n₂
  refine call_enumerate_list hl fun h' hen hli hz hkp=>?_
  have n₃:Nx h₀ s₂ { s₂ with heap:=h' }:=.of_keeps n12.2 ⟨h',s₂.toks,rfl,hkp⟩
  have nA:=n12.trans n₃
  have fr0:s₂.heap.get? s₂.heap.objs.size = none:=Heap.get?_none_of_le (Nat.le_refl _)
  have fr1:s₂.heap.get? (s₂.heap.objs.size + 1) = none:=Heap.get?_none_of_le (Nat.le_succ _)
  have S₂:=S.nx n12
  obtain ⟨oi,hoi,hoc,hod⟩:=id hli
  have hei:s₂.heap.objs.size + 1 ≠ s₂.heap.objs.size:=Nat.succ_ne_self _
  -- first the list iterator,then the enumerate object
  have T₁:St h₀ sc env (s₂.heap.objs.size :: X) s0 ((s₂.heap.objs.size, .obj oi) :: ω) σ { s₂ with heap:=h' }:=S₂.adopt n₃ fr0 ⟨_,hoi⟩ ⟨hoi, .inl ⟨_,hod⟩⟩
  have n0:Nx h₀ s₂ s₂:=.refl S₂.gi
  have g₁:Grow X s₂ (s₂.heap.objs.size :: X) { s₂ with heap:=h' }:=.adopt n₃ S.tabX fr0
  have T₂:St h₀ sc env ((s₂.heap.objs.size + 1) :: s₂.heap.objs.size :: X) s0 ((s₂.heap.objs.size + 1, .obj (enumObj s₂.heap.objs.size 0 .none)) :: (s₂.heap.objs.size, .obj oi) :: ω) σ { s₂ with heap:=h' }:=by
    have U:=T₁
    have hs0:s0.heap.get? (s₂.heap.objs.size + 1) = none:=by
      cases q:s0.heap.get? (s₂.heap.objs.size + 1) with
      | none=>rfl
      | some o =>
        by_cases ht:s₂.heap.objs.size + 1 = Tb
        · obtain ⟨ps,e,_⟩:=S₂.gi.tab
          rw [← ht,fr1] at e; cases e
        · have:=S₂.base.get ht q
          rw [fr1] at this; cases this
    have hnotR:∀ a,a = s₂.heap.objs.size + 1 → ¬ ∃ its,h'.IsList a its ∨ h'.IsTuple a its:=fun a ha ⟨its,q⟩=>by
      subst ha
      rcases q with ⟨o,ho,_,k,hd⟩ | ⟨o,ho,_,k,hd⟩ <;> (have z:=hen.symm.trans ho; cases z; cases hd)
    have up:∀ v d,R (s₂.heap.objs.size :: X) h' v d → R ((s₂.heap.objs.size + 1) :: s₂.heap.objs.size :: X) h' v d:=fun v d r=>r.weakS fun a ha q=>(List.mem_cons.mp ha).elim (fun z=>absurd q (hnotR a z)) id
    have upA:∀ v d,RAll (s₂.heap.objs.size :: X) h' v d → RAll ((s₂.heap.objs.size + 1) :: s₂.heap.objs.size :: X) h' v d:=fun v d r=>r.weakS fun a ha q=>(List.mem_cons.mp ha).elim (fun z=>absurd q (hnotR a z)) id
    refine ⟨U.ok,U.scope,U.glob,U.blt,U.base,U.gi,U.gi0, ?_, ?_,U.inj, .tail _ U.locX,U.new,U.newc, ?_, .tail _ U.tabX, ?_⟩
    · obtain ⟨m,hm,hv⟩:=U.ns
      exact ⟨m,hm,fun e he hk d hd=>let ⟨v,h1,h2⟩:=hv e he hk d hd; ⟨v,h1,up _ _ h2⟩⟩
    · intro e he hk'
      obtain ⟨c',ov,h1,h2,h3,h4⟩:=U.cell e he hk'
      exact ⟨c',ov,h1,h2, .tail _ h3,fun d hd=>let ⟨v,e1,e2⟩:=h4 d hd; ⟨v,e1,up _ _ e2⟩⟩
    · intro b hb
      rcases List.mem_cons.mp hb with q | q
      · exact q ▸ ⟨_,hen⟩
      · exact U.alive b q
    · refine ⟨?_,fun p hp=>?_⟩
      · rw [List.map_cons,List.nodup_cons]
        refine ⟨fun q=>?_,U.owns.nd⟩
        obtain ⟨p,hp,e⟩:=List.mem_map.mp q
        rcases List.mem_cons.mp hp with rfl | hp
        · exact hei e.symm
        · obtain ⟨o,ho⟩:=S₂.alive p.1 (S₂.owns.is p hp).1
          have e':p.1 = s₂.heap.objs.size + 1:=e
          rw [e',fr1] at ho; cases ho
      · rcases List.mem_cons.mp hp with rfl | hp
        · exact ⟨.head _,hs0,hen, .inl ⟨_,rfl⟩⟩
        · obtain ⟨h1,h2,h3⟩:=U.owns.is p hp
          refine ⟨.tail _ h1,h2, ?_⟩
          obtain ⟨b,c'⟩:=p
          cases c' with
          | lst ds=>obtain ⟨vs,q1,q2⟩:=h3; exact ⟨vs,q1,upA _ _ q2⟩
          | obj o=>exact h3
  have gB:Grow X s ((s₂.heap.objs.size + 1) :: s₂.heap.objs.size :: X) { s₂ with heap:=h' }:=by
    have g:=(Grow.of_nx n12 S.tabX).trans g₁
    refine ⟨g.same,g.keep,fun a ha=>.tail _ (g.sub a ha),fun a ha=>(List.mem_cons.mp ha).elim (fun z=>.inr ?_) fun z=>g.new a z⟩
    exact n12.back (z ▸ fr1)
  have hlne:l ∉ (s₂.heap.objs.size + 1) :: s₂.heap.objs.size :: X:=fun q=>by
    obtain ⟨o,ho,_⟩:=hl
    rcases List.mem_cons.mp q with z | q
    · rw [z,fr1] at ho; cases ho
    · rcases List.mem_cons.mp q with z | q
      · rw [z,fr0] at ho; cases ho
      · exact hlX q
  have nX:∀ a,s₂.heap.get? a = none → a ∉ X:=fun a ha q=>by obtain ⟨o,e⟩:=S₂.alive a q; rw [ha] at e; cases e
  refine wpAny_pyIter_enum hen ?_
  refine wp_forE (vs:=us) (all:=ds) (l:=l) rm (nX _ fr1) (nX _ fr0) hei F T₂ hoc hod gB (Nat.zero_le _) rfl hlne (kb2 hl fun o e=>hkp _ _ e) ?_ fun fl s' oo=>h fl s' oo
  exact (rus.weak (Y:=(s₂.heap.objs.size + 1) :: s₂.heap.objs.size :: X) fun a ha ⟨o,e⟩=>(List.mem_cons.mp ha).elim (fun z=>by rw [z,fr1] at e; cases e) fun ha=>(List.mem_cons.mp ha).elim (fun z=>by rw [z,fr0] at e; cases e) id).keep fun b o _ e=>hkp b o e
end
end
section
open PySem.Builtin PySem.Builtin.Str PySem.SeqAt
noncomputable def swB (scope sc:Scope) (x:Str) (p pos:Pos):Bool:=sc.kind == .function && sc.names.lookup x == some .local && p.line == pos.line && !(scope.names.any fun (n,k)=>n == x && (k == .local || k == .cell))
theorem sw_ok {scope sc:Scope}{x:Str}{p pos:Pos}{elt:Expr}{gs:List Comprehension}{l:Nat}(h:swB scope sc x p pos = true):∀ env:Env,env.scope = sc → swapsWith (.ListComp elt gs scope pos) (some (.Name x p)) l env = pure true:=fun env he=>by
  subst he
  simp only [swB,Bool.and_eq_true] at h
  obtain ⟨⟨⟨h1,h2⟩,h3⟩,h4⟩:=h
  have hk:env.scope.kind = .function:=by simpa using h1
  have hb:(env.blockKind == .function) = true:=by unfold Env.blockKind; rw [hk]; rfl
  show pure (env.blockKind == .function && env.kindOf x == some .local && p.line == pos.line && !(scope.names.any fun (n,k)=>n == x && (k == .local || k == .cell))) = _
  have h2':(env.kindOf x == some .local) = true:=h2
  rw [hb,h2',h3,h4]; rfl
section
variable {w:World}{h₀:Heap}{n:Nat}{sc:Scope}{ω:Owns}{σ σ':List Var}
theorem tru_tuple {ds:List D}(hz:ds.length ≤ 100000):TruR w h₀ n (.tuple ds) (!ds.isEmpty):=fun A X s va rm O ra Q E h=>by
  obtain ⟨a,us,rfl,hl,_,ru⟩:=ra.tuple_eq
  have hlen:=ru.length
  refine truthy_tuple (show IsTup s.heap a us.toArray from hl) (by rw [List.size_toArray,hlen]; lia) ?_
  have e:(!us.toArray.isEmpty) = !ds.isEmpty:=by cases us <;> cases ds <;> simp_all
  rw [e]; exact h _ (.tok O.gi _)
end
section
variable {w:World}{h₀:Heap}{n:Nat}{sc:Scope}
theorem CL.fl {β:Type}{elt:Expr}{g:Comprehension}{σ:Option β → List Var}{it:β → D}{p:β → Bool}{f:β → D}(cs:List β) (ha:∀ o c ω,AsgR w h₀ n sc ω g.target (it c) (σ o) (σ (some c))) (ht:∀ c ∈ cs, ∀ ω,TVs w h₀ n sc ω (σ (some c)) .And g.ifs (p c)) (he:∀ c ∈ cs,p c = true → ∀ ω,EV w h₀ n sc ω (σ (some c)) elt (f c)) :
    ∃ σ',CL w h₀ n sc elt [g] (σ none) (cs.map it) [] ((cs.filter p).map f) σ':=by
  have C:=CL.fm (p:=p) (f:=f) cs none [] ha ht he
  rwa [List.nil_append] at C
end
noncomputable def partsT (b:Bool) (x:List Nat):List (List Nat):=(splitT b x [47]).filter fun c=>!c.isEmpty && (c != [46])
noncomputable def minL (xs ys:List (List Nat)):List (List Nat):=if cmpL false ys xs = true then ys else xs
noncomputable def maxL (xs ys:List (List Nat)):List (List Nat):=if cmpL true ys xs = true then ys else xs
noncomputable def comScan (s1 s2:List (List Nat)):Nat → List (List Nat) → List (List Nat)
  | _,[]=>s1
  | i,c :: cs=>if (c != s2.getD i []) = true then s1.take i else comScan s1 s2 (i + 1) cs
noncomputable def comL (xs ys:List (List Nat)):List (List Nat):=comScan (minL xs ys) (maxL xs ys) 0 (minL xs ys)
noncomputable def commonT (b:Bool) (x y:List Nat):List Nat:=[47] ++ joinAllT b [47] (comL (partsT b x) (partsT b y))
noncomputable def okSplit (b:Bool) (x:List Nat):Bool:=okTxB b x && decide ((splitT b x [47]).length ≤ 900) && (splitT b x [47]).all (fun p=>okTxB b p) && startsT b x [47]
noncomputable def okScan (s2:List (List Nat)):Nat → List (List Nat) → Bool
  | _,[]=>true
  | i,c :: cs=>decide (i < s2.length) && ((c != s2.getD i []) || okScan s2 (i + 1) cs)
noncomputable def okCommon (b:Bool) (x y:List Nat):Bool:=okSplit b x && okSplit b y && okScan (maxL (partsT b x) (partsT b y)) 0 (minL (partsT b x) (partsT b y)) && joinOkT b [47] (comL (partsT b x) (partsT b y)) && okTxB b (joinAllT b [47] (comL (partsT b x) (partsT b y)))
section
variable {w:World}{h₀:Heap}(G:Gr w h₀)
include G
theorem kfc {b:Bool}{x y:List Nat}(hok:okCommon b x y = true):CallR w h₀ 8 (.ref 164) [.list [tx b x,tx b y]] (tx b (commonT b x y)):=by
  simp only [okCommon,Bool.and_eq_true] at hok
  obtain ⟨⟨⟨⟨o1,o2⟩,o3⟩,o4⟩,o5⟩:=hok
  simp only [okSplit,Bool.and_eq_true,decide_eq_true_eq] at o1 o2
  obtain ⟨⟨⟨x1,x2⟩,x3⟩,x4⟩:=o1
  obtain ⟨⟨⟨y1,y2⟩,y3⟩,y4⟩:=o2
  have hps:∀ p ∈ [x,y],okTx b p ∧ startsT b p [47] = true ∧ (splitT b p [47]).length ≤ 900 ∧ ∀ q ∈ splitT b p [47],okTx b q:=fun p hp=>by
    rcases List.mem_cons.mp hp with rfl | hp
    · exact ⟨okTxB.ok x1,x4,x2,fun q hq=>okTxB.ok (List.all_eq_true.mp x3 q hq)⟩
    · rw [List.mem_singleton.mp hp]
      exact ⟨okTxB.ok y1,y4,y2,fun q hq=>okTxB.ok (List.all_eq_true.mp y3 q hq)⟩
  have hparts:∀ p ∈ [x,y], ∀ q ∈ partsT b p,okTx b q:=fun p hp q hq=>(hps p hp).2.2.2 q (List.mem_filter.mp hq).1
  have hplen:∀ p ∈ [x,y],(partsT b p).length ≤ 900:=fun p hp=>Nat.le_trans (List.length_filter_le _ _) (hps p hp).2.2.1
  refine kaq (vars:=[("paths", .loc),("sep", .own),("curdir", .own),("split_paths", .loc),("isabs", .loc),("c", .loc),("s1", .loc),("s2", .loc),("common", .loc),("i", .loc),("prefix", .loc)])
    ⟨⟨_,G.K 164 _ rfl,rfl⟩,rfl,rfl,rfl,rfl,⟨_,_,_,_,rfl,G.K _ _ rfl,rfl,rfl⟩,rfl,rfl,G.lim,by decide +kernel,rfl⟩ (kaa (len1 fun _=>?_)) ?_
  · rfl
  refine ka5 (ka1 (ev_tupmap (n:=3) (es:=[tx b x,tx b y]) (gv_tuple G) (gv_map G) (by decide +kernel) (by decide +kernel) (ka3 (kc0 G) (by decide +kernel)) (ka0 .z) rfl (Nat.le_of_ble_eq_true rfl) (fun k d e hd he=>?_)) .z) ?_
  · rw [hd] at he; cases he
    match k,hd with
    | 0,hd=>cases hd; exact (kc5 G).mono (by decide)
    | 1,hd=>cases hd; exact (kc5 G).mono (by decide)
  refine ka5 (ss_if (kfw (kap (ka0 .z) (tru_tuple (Nat.le_of_ble_eq_true rfl)))) (fun h=>by cases h) (fun _=>kbw)) ?_
  refine ka5 (ω':=[]) (σ':=[⟨"paths", .loc,some (.tuple [tx b x,tx b y])⟩,⟨"sep", .own,some (tx b [47])⟩,⟨"curdir", .own,some (tx b [46])⟩,⟨"split_paths", .loc,none⟩,⟨"isabs", .loc,none⟩,⟨"c", .loc,none⟩,⟨"s1", .loc,none⟩,⟨"s2", .loc,none⟩,⟨"common", .loc,none⟩,⟨"i", .loc,none⟩,⟨"prefix", .loc,none⟩])
    (ss_if (kap (ka8 (ka3 (kbp G) (by decide +kernel)) (.inl ⟨_,rfl⟩) (.cons rfl (kao (ka0 .z) ka7 (kbx (i:=0) (by decide) rfl)) (.cons rfl (ka3 (kda G) (by decide +kernel)) .nil)) kc4) kau) (fun hb=>?_) fun hb=>?_) ?_
  · subst hb; exact ka5 (ka1 (kgc (y:=[47]) rfl) (.s .z)) (ka4 (ka1 (kgc (y:=[46]) rfl) (.s (.s .z))))
  · subst hb; exact ka5 (ka1 kag (.s .z)) (ka4 (ka1 kag (.s (.s .z))))
  refine ka4 (ss_try ?_ rfl)
  -- split_paths = [path.split(sep) for path in paths]
  refine ka5 (kai (acc':=[.list ((splitT b x [47]).map (tx b)), .list ((splitT b y [47]).map (tx b))]) (.of (ka0 .z) keo)
    (CompOk.of (σc:=[⟨"sep", .ext,some (tx b [47])⟩,⟨"path", .loc,none⟩]) [("paths", .loc),("sep", .own),("curdir", .own),("split_paths", .loc),("isabs", .loc),("c", .loc),("s1", .loc),("s2", .loc),("common", .loc),("i", .loc),("prefix", .loc)] [("sep", .ext),("path", .loc)] (by decide +kernel) (.ext (k:=.own) (by decide) (.tail _ (.head _)) (.own (by decide) .nil)) rfl rfl) ?_ (Nat.le_of_ble_eq_true rfl) (.s (.s (.s .z))) (sw_ok (by decide +kernel))) ?_
  · exact CL.mp (σ:=fun (o:Option (List Nat))=>[⟨"sep", .ext,some (tx b [47])⟩,⟨"path", .loc,o.map (tx b)⟩]) (it:=tx b) (f:=fun p=>.list ((splitT b p [47]).map (tx b))) [x,y] (fun o c ω=>kac (.s .z)) rfl fun p hp ω =>
      kbj (ka0 (.s .z)) m_split (.cons rfl (ka0 .z) .nil) (khi (hps p hp).1 rfl (Nat.le_trans (hps p hp).2.2.1 (by decide)) (List.all_eq_true.mpr fun q hq=>by simpa using ((hps p hp).2.2.2 q hq).1))
  -- isabs, = {p.startswith(sep) for p in paths}
  refine ka5 (ss_try (ka4 (khv (acc':=[.bool true, .bool true]) (.of (ka0 .z) keo)
    (CompOk.of (σc:=[⟨"sep", .ext,some (tx b [47])⟩,⟨"p", .loc,none⟩]) [("paths", .loc),("sep", .own),("curdir", .own),("split_paths", .loc),("isabs", .loc),("c", .loc),("s1", .loc),("s2", .loc),("common", .loc),("i", .loc),("prefix", .loc)] [("sep", .ext),("p", .loc)] (by decide +kernel) (.ext (k:=.own) (by decide) (.tail _ (.head _)) (.own (by decide) .nil)) rfl rfl) ?_ (by decide) (fun d hd=>by simpa using hd) (by simp) (.s (.s (.s (.s .z)))))) rfl) ?_
  · exact CL.mp (σ:=fun (o:Option (List Nat))=>[⟨"sep", .ext,some (tx b [47])⟩,⟨"p", .loc,o.map (tx b)⟩]) (it:=tx b) (f:=fun p=>.bool true) [x,y] (fun o c ω=>kac (.s .z)) rfl fun p hp ω =>
      EV.cast (congrArg D.bool (hps p hp).2.1) (kbj (ka0 (.s .z)) m_starts (.cons rfl (ka0 .z) .nil) kgh)
  -- split_paths = [[c for c in s if c and c != curdir] for s in split_paths]
  refine ka5 (kai (acc':=[.list ((partsT b x).map (tx b)), .list ((partsT b y).map (tx b))]) (.of (ka0 (.s (.s (.s .z)))) kae)
    (CompOk.of (σc:=[⟨"curdir", .ext,some (tx b [46])⟩,⟨"s", .loc,none⟩]) [("paths", .loc),("sep", .own),("curdir", .own),("split_paths", .loc),("isabs", .loc),("c", .loc),("s1", .loc),("s2", .loc),("common", .loc),("i", .loc),("prefix", .loc)] [("curdir", .ext),("s", .loc)] (by decide +kernel) (.ext (k:=.own) (by decide) (.tail _ (.tail _ (.head _))) (.own (by decide) .nil)) rfl rfl) ?_ (Nat.le_of_ble_eq_true rfl) (.s (.s (.s .z))) (sw_ok (by decide +kernel))) ?_
  · refine CL.mp (σ:=fun (o:Option (List Nat))=>[⟨"curdir", .ext,some (tx b [46])⟩,⟨"s", .loc,o.map fun p=>.list ((splitT b p [47]).map (tx b))⟩]) (it:=fun p=>.list ((splitT b p [47]).map (tx b))) (f:=fun p=>.list ((partsT b p).map (tx b))) [x,y] (fun o c ω=>kac (.s .z)) rfl fun p hp ω=>?_
    refine kb5 (.of (ka0 (.s .z)) kae) (CompOk.of (σc:=[⟨"curdir", .ext,some (tx b [46])⟩,⟨"c", .loc,none⟩]) [("curdir", .ext),("s", .loc)] [("curdir", .ext),("c", .loc)] (by decide +kernel) (.ext (k:=.ext) (by decide) (.head _) (.own (by decide) .nil)) rfl rfl) ?_ (by rw [List.length_map]; exact Nat.le_trans (hplen p hp) (by decide))
    exact CL.fl (σ:=fun (o:Option (List Nat))=>[⟨"curdir", .ext,some (tx b [46])⟩,⟨"c", .loc,o.map (tx b)⟩]) (it:=tx b) (p:=fun c=>!c.isEmpty && (c != [46])) (f:=tx b) (splitT b p [47]) (fun o c ω=>kac (.s .z)) (fun c hc ω=>kcx (kbv (kht (kap (ka0 (.s .z)) (kf3 ((hps p hp).2.2.2 c hc))) fun _=>kam (ka0 (.s .z)) (ka0 .z) (kbh ((hps p hp).2.2.2 c hc) .dot)))) (fun c hc _ ω=>ka0 (.s .z))
  -- s1,s2,common
  refine ka5 (ka1 (ka8 (ka3 (gv_min G) (by decide +kernel)) (.inl ⟨_,rfl⟩) (.cons rfl (ka0 (.s (.s (.s .z)))) .nil) (call_min (n:=6) (hparts x (.head _)) (hparts y (.tail _ (.head _))))) (.s (.s (.s (.s (.s (.s .z))))))) ?_
  refine ka5 (ka1 (ka8 (ka3 (gv_max G) (by decide +kernel)) (.inl ⟨_,rfl⟩) (.cons rfl (ka0 (.s (.s (.s .z)))) .nil) (call_max (n:=6) (hparts x (.head _)) (hparts y (.tail _ (.head _))))) (.s (.s (.s (.s (.s (.s (.s .z)))))))) ?_
  show SX w h₀ 7 _ [] [⟨"paths", .loc,some (.tuple [tx b x,tx b y])⟩,⟨"sep", .own,some (tx b [47])⟩,⟨"curdir", .own,some (tx b [46])⟩,⟨"split_paths", .loc,_⟩,⟨"isabs", .loc,_⟩,⟨"c", .loc,none⟩,⟨"s1", .loc,some (.list ((minL (partsT b x) (partsT b y)).map (tx b)))⟩,⟨"s2", .loc,some (.list ((maxL (partsT b x) (partsT b y)).map (tx b)))⟩,⟨"common", .loc,none⟩,⟨"i", .loc,none⟩,⟨"prefix", .loc,none⟩] _ _
  have hmin:∀ q ∈ minL (partsT b x) (partsT b y),okTx b q:=fun q hq=>by
    unfold minL at hq; split at hq
    · exact hparts y (.tail _ (.head _)) q hq
    · exact hparts x (.head _) q hq
  have hmax:∀ q ∈ maxL (partsT b x) (partsT b y),okTx b q:=fun q hq=>by
    unfold maxL at hq; split at hq
    · exact hparts y (.tail _ (.head _)) q hq
    · exact hparts x (.head _) q hq
  have hlmin:(minL (partsT b x) (partsT b y)).length ≤ 900:=by
    unfold minL; split
    · exact hplen y (.tail _ (.head _))
    · exact hplen x (.head _)
  have hcom:comL (partsT b x) (partsT b y) = comScan (minL (partsT b x) (partsT b y)) (maxL (partsT b x) (partsT b y)) 0 (minL (partsT b x) (partsT b y)):=rfl
  have hres:commonT b x y = [47] ++ joinAllT b [47] (comL (partsT b x) (partsT b y)):=rfl
  generalize hd1:(D.list [.list ((partsT b x).map (tx b)), .list ((partsT b y).map (tx b))]) = dsp
  generalize hd2:commonT b x y = res at hres ⊢
  generalize hd3:comL (partsT b x) (partsT b y) = com at hcom hres o4 o5
  generalize minL (partsT b x) (partsT b y) = s1 at *
  generalize maxL (partsT b x) (partsT b y) = s2 at *
  refine ka5 (ka1 (ka0 (.s (.s (.s (.s (.s (.s .z))))))) (.s (.s (.s (.s (.s (.s (.s (.s .z))))))))) ?_
  -- the loop
  have loop:∀ (sc:Scope) (es:List Expr) (body:List Stmt) (cs:List (List Nat)) (i:Nat) (oc oi:Option D),s1.drop i = cs → okScan s2 i cs = true →
      (∀ (oc oi:Option D) (i:Nat) (c:List Nat),Upds [⟨"paths", .loc,some (.tuple [tx b x,tx b y])⟩,⟨"sep", .own,some (tx b [47])⟩,⟨"curdir", .own,some (tx b [46])⟩,⟨"split_paths", .loc,some dsp⟩,⟨"isabs", .loc,some (.bool true)⟩,⟨"c", .loc,oc⟩,⟨"s1", .loc,some (.list (s1.map (tx b)))⟩,⟨"s2", .loc,some (.list (s2.map (tx b)))⟩,⟨"common", .loc,some (.list (s1.map (tx b)))⟩,⟨"i", .loc,oi⟩,⟨"prefix", .loc,none⟩] es [.int i,tx b c]
        [⟨"paths", .loc,some (.tuple [tx b x,tx b y])⟩,⟨"sep", .own,some (tx b [47])⟩,⟨"curdir", .own,some (tx b [46])⟩,⟨"split_paths", .loc,some dsp⟩,⟨"isabs", .loc,some (.bool true)⟩,⟨"c", .loc,some (tx b c)⟩,⟨"s1", .loc,some (.list (s1.map (tx b)))⟩,⟨"s2", .loc,some (.list (s2.map (tx b)))⟩,⟨"common", .loc,some (.list (s1.map (tx b)))⟩,⟨"i", .loc,some (.int i)⟩,⟨"prefix", .loc,none⟩]) →
      (∀ (i:Nat) (c:List Nat) (ω:Owns),s1[i]? = some c → i < s2.length → SX w h₀ 7 sc ω [⟨"paths", .loc,some (.tuple [tx b x,tx b y])⟩,⟨"sep", .own,some (tx b [47])⟩,⟨"curdir", .own,some (tx b [46])⟩,⟨"split_paths", .loc,some dsp⟩,⟨"isabs", .loc,some (.bool true)⟩,⟨"c", .loc,some (tx b c)⟩,⟨"s1", .loc,some (.list (s1.map (tx b)))⟩,⟨"s2", .loc,some (.list (s2.map (tx b)))⟩,⟨"common", .loc,some (.list (s1.map (tx b)))⟩,⟨"i", .loc,some (.int i)⟩,⟨"prefix", .loc,none⟩] body
        (if (c != s2.getD i []) = true then .brk ω [⟨"paths", .loc,some (.tuple [tx b x,tx b y])⟩,⟨"sep", .own,some (tx b [47])⟩,⟨"curdir", .own,some (tx b [46])⟩,⟨"split_paths", .loc,some dsp⟩,⟨"isabs", .loc,some (.bool true)⟩,⟨"c", .loc,some (tx b c)⟩,⟨"s1", .loc,some (.list (s1.map (tx b)))⟩,⟨"s2", .loc,some (.list (s2.map (tx b)))⟩,⟨"common", .loc,some (.list ((s1.take i).map (tx b)))⟩,⟨"i", .loc,some (.int i)⟩,⟨"prefix", .loc,none⟩]
          else .next ω [⟨"paths", .loc,some (.tuple [tx b x,tx b y])⟩,⟨"sep", .own,some (tx b [47])⟩,⟨"curdir", .own,some (tx b [46])⟩,⟨"split_paths", .loc,some dsp⟩,⟨"isabs", .loc,some (.bool true)⟩,⟨"c", .loc,some (tx b c)⟩,⟨"s1", .loc,some (.list (s1.map (tx b)))⟩,⟨"s2", .loc,some (.list (s2.map (tx b)))⟩,⟨"common", .loc,some (.list (s1.map (tx b)))⟩,⟨"i", .loc,some (.int i)⟩,⟨"prefix", .loc,none⟩])) →
      ∃ oc' oi',FE w h₀ 7 sc es body [] [⟨"paths", .loc,some (.tuple [tx b x,tx b y])⟩,⟨"sep", .own,some (tx b [47])⟩,⟨"curdir", .own,some (tx b [46])⟩,⟨"split_paths", .loc,some dsp⟩,⟨"isabs", .loc,some (.bool true)⟩,⟨"c", .loc,oc⟩,⟨"s1", .loc,some (.list (s1.map (tx b)))⟩,⟨"s2", .loc,some (.list (s2.map (tx b)))⟩,⟨"common", .loc,some (.list (s1.map (tx b)))⟩,⟨"i", .loc,oi⟩,⟨"prefix", .loc,none⟩] i (cs.map (tx b))
        (.next [] [⟨"paths", .loc,some (.tuple [tx b x,tx b y])⟩,⟨"sep", .own,some (tx b [47])⟩,⟨"curdir", .own,some (tx b [46])⟩,⟨"split_paths", .loc,some dsp⟩,⟨"isabs", .loc,some (.bool true)⟩,⟨"c", .loc,oc'⟩,⟨"s1", .loc,some (.list (s1.map (tx b)))⟩,⟨"s2", .loc,some (.list (s2.map (tx b)))⟩,⟨"common", .loc,some (.list ((comScan s1 s2 i cs).map (tx b)))⟩,⟨"i", .loc,oi'⟩,⟨"prefix", .loc,none⟩]):=by
    intro sc es body cs
    induction cs with
    | nil=>intro i oc oi hd ho hu hb; exact ⟨oc,oi, .nil⟩
    | cons c cs ih =>
      intro i oc oi hd ho hu hb
      simp only [okScan,Bool.and_eq_true,decide_eq_true_eq] at ho
      obtain ⟨hlt,ho⟩:=ho
      obtain ⟨h1,h2,h3⟩ : s1[i]? = some c ∧ s1.drop (i + 1) = cs ∧ i + 1 ≤ s1.length:=by
        have hlt:i < s1.length:=by
          have:=congrArg List.length hd
          simp only [List.length_drop,List.length_cons] at this
          lia
        have e2:=List.drop_eq_getElem_cons hlt
        rw [e2] at hd
        cases hd
        exact ⟨by simp [hlt],rfl,hlt⟩
      by_cases q:(c != s2.getD i []) = true
      · refine ⟨some (tx b c),some (.int i), ?_⟩
        rw [comScan,if_pos q,List.map_cons]
        exact .brk (hu oc oi i c) fun p p'=>by have:=hb i c (p :: p' :: []) h1 hlt; rw [if_pos q] at this; exact this
      · have ho':okScan s2 (i + 1) cs = true:=by
          rcases Bool.or_eq_true_iff.mp ho with z | z
          · exact absurd z q
          · exact z
        obtain ⟨oc',oi',F⟩:=ih (i + 1) (some (tx b c)) (some (.int i)) h2 ho' hu hb
        refine ⟨oc',oi', ?_⟩
        rw [comScan,if_neg q,List.map_cons]
        exact .next (hu oc oi i c) (fun p p'=>by have:=hb i c (p :: p' :: []) h1 hlt; rw [if_neg q] at this; exact this) F
  have use:∀ {sc:Scope}{x1:Nat}{xp cp pt pos:Pos}{es:List Expr}{body rest:List Stmt}{e:Expr}{out:Out},sc.names.lookup ("enumerate" : Str) = some .globalImplicit → EV w h₀ 7 sc [] [⟨"paths", .loc,some (.tuple [tx b x,tx b y])⟩,⟨"sep", .own,some (tx b [47])⟩,⟨"curdir", .own,some (tx b [46])⟩,⟨"split_paths", .loc,some dsp⟩,⟨"isabs", .loc,some (.bool true)⟩,⟨"c", .loc,none⟩,⟨"s1", .loc,some (.list (s1.map (tx b)))⟩,⟨"s2", .loc,some (.list (s2.map (tx b)))⟩,⟨"common", .loc,some (.list (s1.map (tx b)))⟩,⟨"i", .loc,none⟩,⟨"prefix", .loc,none⟩] e (.list (s1.map (tx b))) → isStarred e = false →
      (∀ (oc oi:Option D) (i:Nat) (c:List Nat),Upds [⟨"paths", .loc,some (.tuple [tx b x,tx b y])⟩,⟨"sep", .own,some (tx b [47])⟩,⟨"curdir", .own,some (tx b [46])⟩,⟨"split_paths", .loc,some dsp⟩,⟨"isabs", .loc,some (.bool true)⟩,⟨"c", .loc,oc⟩,⟨"s1", .loc,some (.list (s1.map (tx b)))⟩,⟨"s2", .loc,some (.list (s2.map (tx b)))⟩,⟨"common", .loc,some (.list (s1.map (tx b)))⟩,⟨"i", .loc,oi⟩,⟨"prefix", .loc,none⟩] es [.int i,tx b c]
        [⟨"paths", .loc,some (.tuple [tx b x,tx b y])⟩,⟨"sep", .own,some (tx b [47])⟩,⟨"curdir", .own,some (tx b [46])⟩,⟨"split_paths", .loc,some dsp⟩,⟨"isabs", .loc,some (.bool true)⟩,⟨"c", .loc,some (tx b c)⟩,⟨"s1", .loc,some (.list (s1.map (tx b)))⟩,⟨"s2", .loc,some (.list (s2.map (tx b)))⟩,⟨"common", .loc,some (.list (s1.map (tx b)))⟩,⟨"i", .loc,some (.int i)⟩,⟨"prefix", .loc,none⟩]) →
      (∀ (i:Nat) (c:List Nat) (ω:Owns),s1[i]? = some c → i < s2.length → SX w h₀ 7 sc ω [⟨"paths", .loc,some (.tuple [tx b x,tx b y])⟩,⟨"sep", .own,some (tx b [47])⟩,⟨"curdir", .own,some (tx b [46])⟩,⟨"split_paths", .loc,some dsp⟩,⟨"isabs", .loc,some (.bool true)⟩,⟨"c", .loc,some (tx b c)⟩,⟨"s1", .loc,some (.list (s1.map (tx b)))⟩,⟨"s2", .loc,some (.list (s2.map (tx b)))⟩,⟨"common", .loc,some (.list (s1.map (tx b)))⟩,⟨"i", .loc,some (.int i)⟩,⟨"prefix", .loc,none⟩] body
        (if (c != s2.getD i []) = true then .brk ω [⟨"paths", .loc,some (.tuple [tx b x,tx b y])⟩,⟨"sep", .own,some (tx b [47])⟩,⟨"curdir", .own,some (tx b [46])⟩,⟨"split_paths", .loc,some dsp⟩,⟨"isabs", .loc,some (.bool true)⟩,⟨"c", .loc,some (tx b c)⟩,⟨"s1", .loc,some (.list (s1.map (tx b)))⟩,⟨"s2", .loc,some (.list (s2.map (tx b)))⟩,⟨"common", .loc,some (.list ((s1.take i).map (tx b)))⟩,⟨"i", .loc,some (.int i)⟩,⟨"prefix", .loc,none⟩]
          else .next ω [⟨"paths", .loc,some (.tuple [tx b x,tx b y])⟩,⟨"sep", .own,some (tx b [47])⟩,⟨"curdir", .own,some (tx b [46])⟩,⟨"split_paths", .loc,some dsp⟩,⟨"isabs", .loc,some (.bool true)⟩,⟨"c", .loc,some (tx b c)⟩,⟨"s1", .loc,some (.list (s1.map (tx b)))⟩,⟨"s2", .loc,some (.list (s2.map (tx b)))⟩,⟨"common", .loc,some (.list (s1.map (tx b)))⟩,⟨"i", .loc,some (.int i)⟩,⟨"prefix", .loc,none⟩])) →
      (∀ oc' oi',SX w h₀ 7 sc [] [⟨"paths", .loc,some (.tuple [tx b x,tx b y])⟩,⟨"sep", .own,some (tx b [47])⟩,⟨"curdir", .own,some (tx b [46])⟩,⟨"split_paths", .loc,some dsp⟩,⟨"isabs", .loc,some (.bool true)⟩,⟨"c", .loc,oc'⟩,⟨"s1", .loc,some (.list (s1.map (tx b)))⟩,⟨"s2", .loc,some (.list (s2.map (tx b)))⟩,⟨"common", .loc,some (.list (com.map (tx b)))⟩,⟨"i", .loc,oi'⟩,⟨"prefix", .loc,none⟩] rest out) →
      SX w h₀ 7 sc [] [⟨"paths", .loc,some (.tuple [tx b x,tx b y])⟩,⟨"sep", .own,some (tx b [47])⟩,⟨"curdir", .own,some (tx b [46])⟩,⟨"split_paths", .loc,some dsp⟩,⟨"isabs", .loc,some (.bool true)⟩,⟨"c", .loc,none⟩,⟨"s1", .loc,some (.list (s1.map (tx b)))⟩,⟨"s2", .loc,some (.list (s2.map (tx b)))⟩,⟨"common", .loc,some (.list (s1.map (tx b)))⟩,⟨"i", .loc,none⟩,⟨"prefix", .loc,none⟩] (.For (.Tuple es x1 pt) (.Call (.Name "enumerate" xp) [e] [] cp) body [] pos :: rest) out:=by
    intro sc x1 xp cp pt pos es body rest e out hk he hs hu hb h
    obtain ⟨oc',oi',F⟩:=loop sc es body s1 0 none none rfl o3 hu hb
    rw [← hcom] at F
    exact ka5 (kkl (kjp G) hk he F hs) (h oc' oi')
  refine use (by decide +kernel) (ka0 (.s (.s (.s (.s (.s (.s .z))))))) rfl (fun oc oi i c=>.cons (by decide) (.s (.s (.s (.s (.s (.s (.s (.s (.s .z))))))))) (.cons (by decide) (.s (.s (.s (.s (.s .z))))) .nil)) (fun i c ω h1 h2=>?_) fun oc' oi'=>?_
  · have hc:okTx b c:=hmin c (List.mem_of_getElem? h1)
    have h2':s2[i]? = some (s2.getD i []):=by rw [List.getD_eq_getElem?_getD,List.getElem?_eq_getElem h2]; rfl
    have hi:i < s1.length:=(List.getElem?_eq_some_iff.mp h1).1
    refine ka4 (ss_if (kam (ka0 (.s (.s (.s (.s (.s .z)))))) (kao (ka0 (.s (.s (.s (.s (.s (.s (.s .z)))))))) (ka0 (.s (.s (.s (.s (.s (.s (.s (.s (.s .z)))))))))) (kah (d:=tx b (s2.getD i [])) (by lia) ?_ (by rw [Int.toNat_natCast,List.getElem?_map,h2']; rfl))) (kbh hc (hmax _ (List.mem_of_getElem? h2')))) (fun q=>?_) fun q=>?_)
    · lia
    · rw [if_pos q]
      have e:(s1.take i).map (tx b) = sl none (some (i:Int)) (s1.map (tx b)):=by
        unfold sl
        have hcl:clipAt (s1.map (tx b)).length (i:Int) = i:=by
          rw [List.length_map]; unfold clipAt; rw [if_neg (by lia)]; lia
        simp only [Option.elim_none,Option.elim_some,hcl,List.drop_zero,Nat.sub_zero,List.map_take]
      rw [e]
      exact ka5 (ka1 (kav (ka0 (.s (.s (.s (.s (.s (.s .z))))))) .none (.some (ka0 (.s (.s (.s (.s (.s (.s (.s (.s (.s .z))))))))))) .none (kcg (by rw [List.length_map]; lia))) (.s (.s (.s (.s (.s (.s (.s (.s .z))))))))) (ka4 ss_break)
    · rw [if_neg (by rw [q]; exact Bool.false_ne_true)]
      exact kbw
  · refine ka5 (ka1 (ev_ite (c:=true) (kap (ka0 (.s (.s (.s (.s .z))))) kau) (fun _=>ka0 (.s .z)) (fun h=>by cases h)) (.s (.s (.s (.s (.s (.s (.s (.s (.s (.s .z))))))))))) ?_
    rw [hres]
    exact ka4 (kab (kad (ka0 (.s (.s (.s (.s (.s (.s (.s (.s (.s (.s .z)))))))))))  (kbj (ka0 (.s .z)) m_join (.cons rfl (ka0 (.s (.s (.s (.s (.s (.s (.s (.s .z))))))))) .nil) (kff o4)) (kex .sep (okTxB.ok o5))))
theorem kdg:Cal h₀ (.ref 164):=.inr (.inr ⟨_,_,_,rfl,G.K 164 _ rfl,rfl⟩)
end
end
section
section
variable {w:World}{h₀:Heap}{n:Nat}
theorem cmp_lt_tx {b:Bool}{x y:List Nat}(hx:okTx b x) (hy:okTx b y):CmpR w h₀ n .Lt (tx b x) (tx b y) (ltT x y):=fun A X s va vb rm O ra rb Q E h =>
  rc_tx (E:=E) false hx hy (TV1.of ra) (TV1.of rb) (h _ _ (.refl O.gi) (.bool _))
end
noncomputable def bit0 (r:Int) (d:Nat):Bool:=(r.fdiv (4 ^ d)).fmod 2 == 1
noncomputable def bit1 (r:Int) (d:Nat):Bool:=((r.fdiv (4 ^ d)).fdiv 2).fmod 2 == 1
noncomputable def aheadT (b:Bool) (k:Nat) (x y:List Nat) (r:Int):Bool :=
  if (commonT b x y == x || commonT b x y == y) = true then (commonT b x y == x) != bit1 r (depthT b k (commonT b x y))
  else ltT (childT b (commonT b x y) k x) (childT b (commonT b x y) k y) != bit0 r (depthT b k (commonT b x y))
noncomputable def answerT (b:Bool) (k:Nat) (x y:List Nat) (r:Int):Int :=
  if (x == y) = true then 0 else if aheadT b k x y r = true then 0 - 2 - (depthT b k (commonT b x y):Int) else 2 + (depthT b k (commonT b x y):Int)
noncomputable def okAnswer (b:Bool) (k:Nat) (x y:List Nat):Bool :=
  okTxB b x && okTxB b y && (x == y || (okCommon b x y && okTxB b (commonT b x y) && okClimb b k (commonT b x y) && decide (depthT b k (commonT b x y) ≤ 8) &&
    (commonT b x y == x || commonT b x y == y || (okChild b (commonT b x y) k x && okChild b (commonT b x y) k y && okTxB b (childT b (commonT b x y) k x) && okTxB b (childT b (commonT b x y) k y)))))
section
variable {w:World}{h₀:Heap}{n:Nat}{sc:Scope}{ω:Owns}{σ:List Var}
theorem kcz {d:Nat}(h:d ≤ 8):(4:Int) ^ d ≠ 0 ∧ ((4:Int) ^ d).natAbs < 1073741824:=by
  revert d
  exact fun {d} h=>(by decide:∀ d,d < 9 → (4:Int) ^ d ≠ 0 ∧ ((4:Int) ^ d).natAbs < 1073741824) d (Nat.lt_succ_of_le h)
theorem kii {e:Expr}{k:Nat}{p pos:Pos}{d:Nat}(he:EV w h₀ n sc ω σ e (.int d)) (h:d ≤ 8):EV w h₀ n sc ω σ (.BinOp (.Constant (.int 4) k p) .Pow e pos) (.int (4 ^ d)):=by
  have:=kad (w:=w) (h₀:=h₀) (n:=n) (sc:=sc) (ω:=ω) (σ:=σ) (pos:=pos) (ka7 (i:=4) (k:=k) (pos:=p)) he (kcr (by lia) (by
    have:Builtin.Int.intBits 4 = 3:=by decide +kernel
    rw [this]; lia))
  rwa [Int.toNat_natCast] at this
theorem ev_bit0 {r e:Expr}{k k2 k3:Nat}{p p2 p3 p4 p5 p6 p7:Pos}{d:Nat}{v:Int}(hr:EV w h₀ n sc ω σ r (.int v)) (he:EV w h₀ n sc ω σ e (.int d)) (h:d ≤ 8) :
    EV w h₀ n sc ω σ (.Compare (.BinOp (.BinOp r .FloorDiv (.BinOp (.Constant (.int 4) k p) .Pow e p2) p3) .Mod (.Constant (.int 2) k2 p4) p5) [.Eq] [.Constant (.int 1) k3 p6] p7) (.bool (bit0 v d)) :=
  kb8 (kad (kad hr (kii he h) (kas (kcz h).1 (kcz h).2)) ka7 (kat (by decide))) ka7 kb9
theorem ev_bit1 {r e:Expr}{k k1 k2 k3:Nat}{p p1 p2 p3 p4 p5 p6 p7 p8:Pos}{d:Nat}{v:Int}(hr:EV w h₀ n sc ω σ r (.int v)) (he:EV w h₀ n sc ω σ e (.int d)) (h:d ≤ 8) :
    EV w h₀ n sc ω σ (.Compare (.BinOp (.BinOp (.BinOp r .FloorDiv (.BinOp (.Constant (.int 4) k p) .Pow e p2) p3) .FloorDiv (.Constant (.int 2) k1 p1) p8) .Mod (.Constant (.int 2) k2 p4) p5) [.Eq] [.Constant (.int 1) k3 p6] p7) (.bool (bit1 v d)) :=
  kb8 (kad (kad (kad hr (kii he h) (kas (kcz h).1 (kcz h).2)) ka7 (kas (by decide) (by decide))) ka7 (kat (by decide))) ka7 kb9
theorem kh1 {e:Expr}{b:Bool}(h:EV w h₀ n sc ω σ e (.bool b)) (hp:plainTest e = true:=by rfl):TV w h₀ n sc ω σ e b:=kap h kau hp
theorem tv_bit0 {r e:Expr}{k k2 k3:Nat}{p p2 p3 p4 p5 p6 p7:Pos}{d:Nat}{v:Int}(hr:EV w h₀ n sc ω σ r (.int v)) (he:EV w h₀ n sc ω σ e (.int d)) (h:d ≤ 8) :
    TV w h₀ n sc ω σ (.Compare (.BinOp (.BinOp r .FloorDiv (.BinOp (.Constant (.int 4) k p) .Pow e p2) p3) .Mod (.Constant (.int 2) k2 p4) p5) [.Eq] [.Constant (.int 1) k3 p6] p7) (bit0 v d) :=
  kam (kad (kad hr (kii he h) (kas (kcz h).1 (kcz h).2)) ka7 (kat (by decide))) ka7 kb9
theorem tv_bit1 {r e:Expr}{k k1 k2 k3:Nat}{p p1 p2 p3 p4 p5 p6 p7 p8:Pos}{d:Nat}{v:Int}(hr:EV w h₀ n sc ω σ r (.int v)) (he:EV w h₀ n sc ω σ e (.int d)) (h:d ≤ 8) :
    TV w h₀ n sc ω σ (.Compare (.BinOp (.BinOp (.BinOp r .FloorDiv (.BinOp (.Constant (.int 4) k p) .Pow e p2) p3) .FloorDiv (.Constant (.int 2) k1 p1) p8) .Mod (.Constant (.int 2) k2 p4) p5) [.Eq] [.Constant (.int 1) k3 p6] p7) (bit1 v d) :=
  kam (kad (kad (kad hr (kii he h) (kas (kcz h).1 (kcz h).2)) ka7 (kas (by decide) (by decide))) ka7 (kat (by decide))) ka7 kb9
end
section
variable {w:World}{h₀:Heap}(G:Gr w h₀)
include G
theorem f_answer {b:Bool}{x y:List Nat}{k:Nat}{r:Int}(hok:okAnswer b k x y = true):CallR w h₀ 9 (.ref 202) [tx b x,tx b y, .int r] (.int (answerT b k x y r)):=by
  simp only [okAnswer,Bool.and_eq_true,Bool.or_eq_true,decide_eq_true_eq] at hok
  obtain ⟨⟨hx,hy⟩,hok⟩:=hok
  have hx:=okTxB.ok hx
  have hy:=okTxB.ok hy
  refine kaq (vars:=[("one", .loc),("other", .loc),("rules", .loc),("top", .loc),("depth", .loc),("ahead", .loc)]) ⟨⟨_,G.K 202 _ rfl,rfl⟩,rfl,rfl,rfl,rfl,⟨_,_,_,_,rfl,G.K _ _ rfl,rfl,rfl⟩,rfl,rfl,G.lim,by decide +kernel,rfl⟩ (kaa (len3 fun _ _ _=>?_)) ?_
  · rfl
  have hans:answerT b k x y r = if (x == y) = true then 0 else if aheadT b k x y r = true then 0 - 2 - (depthT b k (commonT b x y):Int) else 2 + (depthT b k (commonT b x y):Int):=rfl
  generalize answerT b k x y r = res at hans ⊢
  by_cases q:(x == y) = true
  · rw [if_pos q] at hans
    subst hans
    exact kdh (ss_if (kam (ka0 .z) (ka0 (.s .z)) (kb6 hx hy)) (fun _=>ka4 (kab ka7)) (fun h=>by rw [q] at h; cases h)) rfl
  rw [if_neg q] at hans
  have hah:aheadT b k x y r = if (commonT b x y == x || commonT b x y == y) = true then (commonT b x y == x) != bit1 r (depthT b k (commonT b x y))
    else ltT (childT b (commonT b x y) k x) (childT b (commonT b x y) k y) != bit0 r (depthT b k (commonT b x y)):=rfl
  obtain ⟨⟨⟨⟨oc,ot⟩,ol⟩,od⟩,oe⟩:=hok.resolve_left q
  have ht:=okTxB.ok ot
  refine ka5 (ss_if (kam (ka0 .z) (ka0 (.s .z)) (kb6 hx hy)) (fun h=>absurd h q) (fun _=>kbw)) ?_
  refine ka5 (ka1 (ka8 (ka3 (ke3 G) (by decide +kernel)) (kdg G) (.cons rfl (kaj (.cons rfl (ka0 .z) (.cons rfl (ka0 (.s .z)) .nil))) .nil) (kfc G oc)) (.s (.s (.s .z)))) ?_
  refine ka5 (ka1 (ka8 (ka3 (kd2 G) (by decide +kernel)) (kgi G) (.cons rfl (ka0 (.s (.s (.s .z)))) .nil) ((f_depth (k:=k) G ol).mono (by decide))) (.s (.s (.s (.s .z))))) ?_
  generalize aheadT b k x y r = ah at hah hans
  generalize hd:depthT b k (commonT b x y) = d at *
  generalize commonT b x y = top at *
  refine ka5 (ω':=[]) (σ':=[⟨"one", .loc,some (tx b x)⟩,⟨"other", .loc,some (tx b y)⟩,⟨"rules", .loc,some (.int r)⟩,⟨"top", .loc,some (tx b top)⟩,⟨"depth", .loc,some (.int d)⟩,⟨"ahead", .loc,some (.bool ah)⟩])
    (ss_if (kbv (kfv (kam (ka0 (.s (.s (.s .z)))) (ka0 .z) (kb6 ht hx)) fun _=>kam (ka0 (.s (.s (.s .z)))) (ka0 (.s .z)) (kb6 ht hy))) (fun h=>?_) fun h=>?_) ?_
  · rw [if_pos h] at hah
    subst hah
    exact ka4 (ka1 (kb8 (kb8 (ka0 (.s (.s (.s .z)))) (ka0 .z) (kb6 ht hx)) (ev_bit1 (ka0 (.s (.s .z))) (ka0 (.s (.s (.s (.s .z))))) od) kcl) (.s (.s (.s (.s (.s .z))))))
  · rw [if_neg (by rw [h]; exact Bool.false_ne_true)] at hah
    subst hah
    have hne:¬ ((top == x) = true) ∧ ¬ ((top == y) = true):=by
      rw [Bool.or_eq_false_iff] at h
      exact ⟨by rw [h.1]; exact Bool.false_ne_true,by rw [h.2]; exact Bool.false_ne_true⟩
    obtain ⟨⟨⟨c1,c2⟩,c3⟩,c4⟩:=oe.resolve_left fun z=>z.elim hne.1 hne.2
    exact ka4 (ka1 (kb8 (kb8 (ka8 (ka3 (kf9 G) (by decide +kernel)) (kk9 G) (.cons rfl (ka0 .z) (.cons rfl (ka0 (.s (.s (.s .z)))) .nil)) ((f_child G ht c1).mono (by decide)))
      (ka8 (ka3 (kf9 G) (by decide +kernel)) (kk9 G) (.cons rfl (ka0 (.s .z)) (.cons rfl (ka0 (.s (.s (.s .z)))) .nil)) ((f_child G ht c2).mono (by decide))) (cmp_lt_tx (okTxB.ok c3) (okTxB.ok c4)))
      (ev_bit0 (ka0 (.s (.s .z))) (ka0 (.s (.s (.s (.s .z))))) od) kcl) (.s (.s (.s (.s (.s .z))))))
  · refine ka4 (kab (ev_ite (c:=ah) (kh1 (ka0 (.s (.s (.s (.s (.s .z))))))) (fun h=>?_) fun h=>?_))
    · rw [if_pos h] at hans
      subst hans
      exact kad (kad ka7 ka7 kcq) (ka0 (.s (.s (.s (.s .z))))) kcq
    · rw [if_neg (by rw [h]; exact Bool.false_ne_true)] at hans
      subst hans
      exact kad ka7 (ka0 (.s (.s (.s (.s .z))))) kal
theorem cal_answer:Cal h₀ (.ref 202):=.inr (.inr ⟨_,_,_,rfl,G.K 202 _ rfl,rfl⟩)
end
end
section
open PySem.AutoSeq1 (wpAny_loadPart')
open PySem.MeetsSeq PySem.SeqAt
noncomputable def okB (k:Nat) (d:D):Prop:=d.pl = true ∧ d.py.canLay0 = true ∧ d.py.depth ≤ k
theorem okB.eq {k:Nat}{d:D}(h:okB k d) (hk:k ≤ 64):okEq d = true:=by
  unfold okEq shaped
  rw [h.1,h.2.1,decide_eq_true (Nat.le_trans h.2.2 hk)]; rfl
theorem okB.int (k:Nat) (i:Int):okB k (.int i):=⟨rfl,rfl,Nat.zero_le _⟩
theorem okB.bool (k:Nat) (b:Bool):okB k (.bool b):=⟨rfl,rfl,Nat.zero_le _⟩
theorem okB.text (k:Nat) {x:List Nat}(h:okEq (T x) = true):okB k (T x):=by
  have:=okEq.two h
  exact ⟨this.1,canLay_of_shaped this.2,Nat.zero_le _⟩
theorem okB.all {k:Nat} : ∀ {ds:List D},(∀ d ∈ ds,okB k d) → D.pls ds = true ∧ PyData.canLayAll0 (D.pys ds) = true ∧ PyData.depthAll (D.pys ds) ≤ k
  | [],_=>⟨rfl,rfl,Nat.zero_le _⟩
  | d :: ds,h=>by
    obtain ⟨a1,a2,a3⟩:=h d (.head _)
    obtain ⟨b1,b2,b3⟩:=okB.all (fun e he=>h e (.tail _ he))
    refine ⟨?_, ?_, ?_⟩
    · rw [D.pls,a1,b1]; rfl
    · rw [D.pys,PyData.canLayAll0,a2,b2]; rfl
    · rw [D.pys,PyData.depthAll]; exact Nat.max_le.mpr ⟨a3,b3⟩
theorem okB.list {k:Nat}{ds:List D}(h:∀ d ∈ ds,okB k d):okB (k + 1) (.list ds):=by
  obtain ⟨h1,h2,h3⟩:=okB.all h
  exact ⟨h1,by simp only [D.py,PyData.canLay0]; exact h2,by simp only [D.py,PyData.depth]; lia⟩
theorem okB.map {α:Type}{k:Nat}{f:α → D}{xs:List α}(h:∀ x ∈ xs,okB k (f x)):okB (k + 1) (.list (xs.map f)):=okB.list fun d hd=>by
  obtain ⟨x,hx,rfl⟩:=List.mem_map.mp hd
  exact h x hx
noncomputable def Inj (α:Type) [BEq α] (f:α → D):Prop:=∀ a b,PyData.eqv (f a).py (f b).py = (a == b)
theorem eqv_all {α:Type} [BEq α] {f:α → D}(hf:Inj α f):∀ xs ys:List α,PyData.eqvAll (D.pys (xs.map f)) (D.pys (ys.map f)) = (xs == ys)
  | [],[]=>rfl
  | [],_ :: _=>rfl
  | _ :: _,[]=>rfl
  | x :: xs,y :: ys=>by
    rw [List.map_cons,List.map_cons,D.pys,D.pys,PyData.eqvAll,hf x y,eqv_all hf xs ys]; rfl
theorem Inj.list {α:Type} [BEq α] {f:α → D}(hf:Inj α f):Inj (List α) (fun xs=>.list (xs.map f)):=fun xs ys=>by
  simp only [D.py,PyData.eqv]; exact eqv_all hf xs ys
theorem Inj.text:Inj (List Nat) T:=fun a b=>by
  show (Str.mk a.toArray == Str.mk b.toArray) = _
  exact kkj a b
theorem Inj.int:Inj Int D.int:=fun a b=>rfl
theorem Inj.bool:Inj Bool D.bool:=fun a b=>rfl
theorem any_map {α:Type} [BEq α] [LawfulBEq α] {f:α → D}(hf:Inj α f) (x:α):∀ xs:List α,((D.pys (xs.map f)).any fun y=>PyData.eqv y (f x).py) = xs.contains x
  | []=>rfl
  | y :: ys=>by
    rw [List.map_cons,D.pys,List.any_cons,any_map hf x ys,hf y x,List.contains_cons]
    congr 1
    rw [Bool.eq_iff_iff,beq_iff_eq,beq_iff_eq]; exact eq_comm
section
variable {w:World}{h₀:Heap}{n:Nat}{sc:Scope}{ω:Owns}{σ:List Var}
theorem CmpR.cast {op:CmpOp}{a b:D}{c d:Bool}(h:c = d) (t:CmpR w h₀ n op a b c):CmpR w h₀ n op a b d:=h ▸ t
theorem keu {α:Type} [BEq α] {k:Nat}{f:α → D}(hf:Inj α f) {x y:α}(hx:okB k (f x)) (hy:okB k (f y)) (hk:k ≤ 64):CmpR w h₀ n .Eq (f x) (f y) (x == y):=(cmp_eq_D (hx.eq hk) (hy.eq hk)).cast (hf x y)
theorem cmp_ne_map {α:Type} [BEq α] {k:Nat}{f:α → D}(hf:Inj α f) {x y:α}(hx:okB k (f x)) (hy:okB k (f y)) (hk:k ≤ 64):CmpR w h₀ n .NotEq (f x) (f y) (x != y):=(cmp_ne_D (hx.eq hk) (hy.eq hk)).cast (by rw [hf x y]; rfl)
theorem cmp_in_map {α:Type} [BEq α] [LawfulBEq α] {k:Nat}{f:α → D}(hf:Inj α f) {x:α}{xs:List α}(hx:okB k (f x)) (hy:∀ y ∈ xs,okB k (f y)) (hk:k < 64):CmpR w h₀ (n + 1) .In (f x) (.list (xs.map f)) (xs.contains x) :=
  (cmp_in_list (hx.eq (Nat.le_of_lt hk)) ((okB.map hy).eq hk)).cast (any_map hf x xs)
theorem list_eq_ne (l b:Addr) (items items2:Array Value) (n n2:Nat) (hsz:items.size ≠ items2.size) :
    Meets (Builtin.«list.__eq__» ⟨[.ref l, .ref b],[]⟩)
      (fun _ R s=>s.heap.get? l = some { cls:=.type "list",dict:=none,data:=.seq items n,slots:=#[] } ∧ s.heap.get? b = some { cls:=.type "list",dict:=none,data:=.seq items2 n2,slots:=#[] } ∧
        R (.ok (.ret (.bool false))) s):=by
  intro prog w A R s h
  obtain ⟨hp,g,d,tk,os⟩:=s; obtain ⟨hl,hb,h⟩:=h
  have f3:=AutoSeq1.sub_list_list
  have hne:(items.size != items2.size) = true:=by simpa using hsz
  wp_walk using wpAny_loadPart' hl,wpAny_loadPart' hb
  exact h
theorem kbs {ds:List D} : CmpR w h₀ n .Eq (.list ds) (.list []) ds.isEmpty:=fun A X s va vb rm O ra rb Q E h=>by
  obtain ⟨l,vs,rfl,⟨k,hl⟩,_,rs⟩:=ra.list_plain
  obtain ⟨m,us,rfl,⟨k2,hm⟩,_,rt⟩:=rb.list_plain
  cases rt
  have hc:=rm.cl
  have go:Q (.bool ds.isEmpty) s:=h _ _ (.refl O.gi) (.bool _)
  cases rs with
  | nil=>exact richCompare_meets_room (op:=.Eq) (T := "list") ⟨_,hl,rfl⟩ ⟨_,hm,rfl⟩ F.slot_list_eq F.entry_list_eq (F.args_list_eq_2 _ _) (MeetsSeq3.list_eq l m _ _ k k2 rfl (fun _=>true) (fun j h1 _=>absurd h1 (by simp))) ⟨hl,hm,(show (Value.bool _ ≠ Value.notImplemented ∧ Q (.bool _) s) from ⟨(fun e=>nomatch e),go⟩)⟩ (by lia)
  | cons r1 r2=>exact richCompare_meets_room (op:=.Eq) (T := "list") ⟨_,hl,rfl⟩ ⟨_,hm,rfl⟩ F.slot_list_eq F.entry_list_eq (F.args_list_eq_2 _ _) (list_eq_ne l m _ _ k k2 (by simp)) ⟨hl,hm,(show (Value.bool _ ≠ Value.notImplemented ∧ Q (.bool _) s) from ⟨(fun e=>nomatch e),go⟩)⟩ (by lia)
theorem ev_and {e₁ e₂:Expr}{pos:Pos}{a b:Bool}(h1:EV w h₀ n sc ω σ e₁ (.bool a)) (h2:a = true → EV w h₀ n sc ω σ e₂ (.bool b)):EV w h₀ n sc ω σ (.BoolOp .And [e₁,e₂] pos) (.bool (a && b)):=fun A env X s0 s rm S Q E hq=>by
  show wpAny _ A (do
    let v ← eval e₁ env
    standAt pos
    let t ← holding [v] (truthy v)
    match BoolOp.And,t with
    | .And,false | .Or,true=>pure v
    | _,_=>eval e₂ env) Q E s
  refine wpAny_bind (h1 A env X s0 s rm S _ _ fun v s₁ n₁ r=>wpAny_bind (wpAny_standAt (wpAny_bind (wpAny_holding ?_))))
  have:=r.bool_eq; subst this
  refine wpAny_truthy_bool ?_
  cases a with
  | false=>exact wpAny_pure (hq _ _ n₁ (.bool _))
  | true=>exact h2 rfl A env X s0 s₁ rm (S.nx n₁) _ _ fun v s₂ n₂ r=>hq v s₂ (n₁.trans n₂) r
theorem ev_or {e₁ e₂:Expr}{pos:Pos}{a b:Bool}(h1:EV w h₀ n sc ω σ e₁ (.bool a)) (h2:a = false → EV w h₀ n sc ω σ e₂ (.bool b)):EV w h₀ n sc ω σ (.BoolOp .Or [e₁,e₂] pos) (.bool (a || b)):=fun A env X s0 s rm S Q E hq=>by
  show wpAny _ A (do
    let v ← eval e₁ env
    standAt pos
    let t ← holding [v] (truthy v)
    match BoolOp.Or,t with
    | .And,false | .Or,true=>pure v
    | _,_=>eval e₂ env) Q E s
  refine wpAny_bind (h1 A env X s0 s rm S _ _ fun v s₁ n₁ r=>wpAny_bind (wpAny_standAt (wpAny_bind (wpAny_holding ?_))))
  have:=r.bool_eq; subst this
  refine wpAny_truthy_bool ?_
  cases a with
  | true=>exact wpAny_pure (hq _ _ n₁ (.bool _))
  | false=>exact h2 rfl A env X s0 s₁ rm (S.nx n₁) _ _ fun v s₂ n₂ r=>hq v s₂ (n₁.trans n₂) r
theorem m_index {ds:List D} : Meth w (.list ds) "index" "list.index" := fun A X s v pl Q E r h=>by
  obtain ⟨a,vs,rfl,hl,_,_⟩:=r.list_plain
  exact kkf hl F.slot_list_index F.type_list_index h
theorem khk {is:List Int}{k:Int}(hk:k ∈ is) (hz:is.length ≤ 1000):CallR w h₀ n (.builtin "list.index") [.list (is.map D.int), .int k] (.int (is.idxOf k)):=fun A X s vs rm O rs Q E h=>by
  obtain ⟨v,u,rfl,r1,r2⟩:=rs.two
  obtain ⟨l,us,rfl,⟨c,hl⟩,_,ru⟩:=r1.list_plain
  obtain ⟨t,rfl⟩:=r2.int_eq
  have ia:=RAll.ints ru
  have hlen:us.length = is.length:=ia.length
  have hj:is.idxOf k < is.length:=List.idxOf_lt_length_of_mem hk
  have at':∀ m (hm:m < us.toArray.size), ∃ t,us.toArray[m] = .int (is[m]'(by rw [List.size_toArray,hlen] at hm; exact hm)) t:=fun m hm=>by
    have hm':m < is.length:=by rw [List.size_toArray,hlen] at hm; exact hm
    obtain ⟨t,ht⟩:=ia.get m _ (List.getElem?_eq_getElem hm')
    refine ⟨t, ?_⟩
    have:us.toArray[m]? = some (.int is[m] t):=by rw [List.getElem?_toArray]; exact ht
    rw [Array.getElem?_eq_getElem hm] at this
    exact Option.some.inj this
  refine call_meets F.slot_list_index ⟨_,hl,rfl⟩ F.entry_list_index (F.args_list_index_2 _ _) (list_index l us.toArray c (.int k t) (fun v=>match v with | .int i _=>i == k | _=>false) (fun y hy=>?_) (is.idxOf k) (by rw [List.size_toArray,hlen]; exact hj) (by lia) ?_ (fun m hm hlt=>?_)) ⟨hl,h _ _ (.tok O.gi _) (.int _ _)⟩
  · obtain ⟨m,hm,e⟩:=Array.getElem_of_mem hy
    obtain ⟨t',ht'⟩:=at' m hm
    rw [← e,ht']
    exact EqGives.int _ _ _ _
  · obtain ⟨t',ht'⟩:=at' (is.idxOf k) (by rw [List.size_toArray,hlen]; exact hj)
    rw [ht']
    simp [List.getElem_idxOf]
  · obtain ⟨t',ht'⟩:=at' m hm
    rw [ht']
    have hm':m < is.length:=by rw [List.size_toArray,hlen] at hm; exact hm
    have:=List.not_of_lt_findIdx (p:=(· == k)) (xs:=is) hlt
    simpa using this
end
end
section
noncomputable abbrev Row:=List (List Nat) × Int
noncomputable abbrev rowD (p:Row):D:=.tuple [.list (p.1.map T), .int p.2]
noncomputable def headsT (c:Bool):List (List Nat):=if c then [[98],[97,98],[97]] else [[97],[97,98],[98]]
noncomputable def walkT:Nat → List Row → Nat → Int → List Int
  | 0,_,_,_=>[]
  | f + 1,rows,d,r =>
    if rows.isEmpty = true then [] else
      if bit1 r d = true then (headsT (bit0 r d)).foldl (fun acc h=>acc ++ walkT f (rows.filter fun p=>sl (some (d:Int)) (some ((d:Int) + 1)) p.1 == [h]) (d + 1) r) [] ++ (rows.filter fun p=>(p.1.length:Int) == (d:Int)).map (·.2)
      else (rows.filter fun p=>(p.1.length:Int) == (d:Int)).map (·.2) ++ (headsT (bit0 r d)).foldl (fun acc h=>acc ++ walkT f (rows.filter fun p=>sl (some (d:Int)) (some ((d:Int) + 1)) p.1 == [h]) (d + 1) r) []
noncomputable def okRows (d f:Nat) (rows:List Row):Prop:=∀ p ∈ rows,d ≤ p.1.length ∧ p.1.length < d + f ∧ ∀ x ∈ p.1,okEq (T x) = true
theorem sl_at {α:Type}{d:Nat}{x:List α}(h:d ≤ x.length):sl (some (d:Int)) (some ((d:Int) + 1)) x = (x.drop d).take 1:=by
  unfold sl
  have h1:clipAt x.length (d:Int) = d:=by unfold clipAt; rw [if_neg (by lia)]; lia
  simp only [Option.elim_some,h1]
  by_cases q:d = x.length
  · subst q; simp
  · have h2:clipAt x.length ((d:Int) + 1) = d + 1:=by unfold clipAt; rw [if_neg (by lia)]; lia
    rw [h2]; congr 1; lia
theorem okRows.next {d f:Nat}{rows:List Row}(h:okRows d (f + 1) rows) (nm:List Nat):okRows (d + 1) f (rows.filter fun p=>sl (some (d:Int)) (some ((d:Int) + 1)) p.1 == [nm]):=fun p hp=>by
  obtain ⟨h1,h2⟩:=List.mem_filter.mp hp
  obtain ⟨a,b,c⟩:=h p h1
  rw [sl_at a] at h2
  have h3:(p.1.drop d).take 1 = [nm]:=by simpa using h2
  have h4:=congrArg List.length h3
  simp only [List.length_take,List.length_drop,List.length_cons,List.length_nil] at h4
  exact ⟨by lia,by lia,c⟩
theorem kiv:∀ (f:Nat) (rows:List Row) (d:Nat) (r:Int),okRows d f rows → (walkT f rows d r).length ≤ 4 ^ f * rows.length
  | 0,rows,d,r,h=>Nat.zero_le _
  | f + 1,rows,d,r,h=>by
    have ih:=fun nm=>kiv f _ (d + 1) r (h.next nm)
    have fl:∀ nm,(walkT f (rows.filter fun p=>sl (some (d:Int)) (some ((d:Int) + 1)) p.1 == [nm]) (d + 1) r).length ≤ 4 ^ f * rows.length:=fun nm=>Nat.le_trans (ih nm) (Nat.mul_le_mul_left _ (List.length_filter_le _ _))
    have h0:(List.map (fun (p:Row)=>p.2) (rows.filter fun p=>(p.1.length:Int) == (d:Int))).length ≤ rows.length:=by rw [List.length_map]; exact List.length_filter_le _ _
    have h4:rows.length ≤ 4 ^ f * rows.length:=Nat.le_mul_of_pos_left _ (Nat.pow_pos (by decide))
    have hh:∀ c,((headsT c).foldl (fun acc h=>acc ++ walkT f (rows.filter fun p=>sl (some (d:Int)) (some ((d:Int) + 1)) p.1 == [h]) (d + 1) r) []).length ≤ 3 * (4 ^ f * rows.length):=fun c=>by
      cases c <;> (simp only [headsT,if_true,if_false,Bool.false_eq_true,List.foldl_cons,List.foldl_nil,List.nil_append,List.length_append]; have a:=fl [97]; have b:=fl [97,98]; have c:=fl [98]; lia)
    have hp:4 ^ (f + 1) * rows.length = 4 * (4 ^ f * rows.length):=by rw [Nat.pow_succ]; rw [Nat.mul_comm (4 ^ f) 4,Nat.mul_assoc]
    rw [hp]
    have:=hh (bit0 r d)
    unfold walkT
    split
    · exact Nat.zero_le _
    · split <;> (rw [List.length_append]; lia)
section
variable {w:World}{h₀:Heap}{n:Nat}
theorem kfd {x y:List (List Nat)}(hx:∀ z ∈ x,okEq (T z) = true) (hy:∀ z ∈ y,okEq (T z) = true):CmpR w h₀ n .Eq (.list (x.map T)) (.list (y.map T)) (x == y) :=
  keu (k:=1) (f:=fun (xs:List (List Nat))=>D.list (xs.map T)) Inj.text.list (okB.map fun z hz=>okB.text 0 (hx z hz)) (okB.map fun z hz=>okB.text 0 (hy z hz)) (by decide)
end
section
variable {w:World}{h₀:Heap}(G:Gr w h₀)
include G
theorem cal_walk:Cal h₀ (.ref 212):=.inr (.inr ⟨_,_,_,rfl,G.K 212 _ rfl,rfl⟩)
theorem f_walk {r:Int} : ∀ (f:Nat) (rows:List Row) (d:Nat),okRows d f rows → rows.length ≤ 5 → d + f ≤ 8 → f ≤ 4 → CallR w h₀ (f + 4) (.ref 212) [.list (rows.map rowD), .int d, .int r] (.list ((walkT f rows d r).map D.int))
  | 0,rows,d,hr,hz,hd,hf=>by
    have e:rows = []:=by
      cases rows with
      | nil=>rfl
      | cons p ps=>have:=hr p (.head _); lia
    subst e
    refine kaq (vars:=[("rows", .loc),("depth", .own),("rules", .loc),("here", .loc),("under", .loc),("heads", .loc),("name", .own)]) ⟨⟨_,G.K 212 _ rfl,rfl⟩,rfl,rfl,rfl,rfl,⟨_,_,_,_,rfl,G.K _ _ rfl,rfl,rfl⟩,rfl,rfl,G.lim,by decide +kernel,rfl⟩ (kaa (len3 fun _ _ _=>?_)) ?_
    · rfl
    exact kdh (ss_if (kam (ka0 .z) (kaj .nil) kbs) (fun _=>ka4 (kab (kaj .nil))) (fun h=>by cases h)) rfl
  | f + 1,rows,d,hr,hz,hd,hf=>by
    refine kaq (vars:=[("rows", .loc),("depth", .own),("rules", .loc),("here", .loc),("under", .loc),("heads", .loc),("name", .own)]) ⟨⟨_,G.K 212 _ rfl,rfl⟩,rfl,rfl,rfl,rfl,⟨_,_,_,_,rfl,G.K _ _ rfl,rfl,rfl⟩,rfl,rfl,G.lim,by decide +kernel,rfl⟩ (kaa (len3 fun _ _ _=>?_)) ?_
    · rfl
    by_cases he:rows = []
    · subst he
      exact kdh (ss_if (kam (ka0 .z) (kaj .nil) kbs) (fun _=>ka4 (kab (kaj .nil))) (fun h=>by cases h)) rfl
    have hne:(rows.map rowD).isEmpty = false:=by cases rows <;> first | exact absurd rfl he | rfl
    have hne':¬ rows.isEmpty = true:=by cases rows <;> first | exact absurd rfl he | exact Bool.false_ne_true
    refine ka5 (ss_if (kam (ka0 .z) (kaj .nil) kbs) (fun h=>by rw [hne] at h; cases h) (fun _=>kbw)) ?_
    have hd8:d ≤ 8:=by lia
    have hzl:∀ p ∈ rows,(p.1.map T).length ≤ 100000:=fun p hp=>by have:=hr p hp; rw [List.length_map]; lia
    -- here
    refine ka5 (kai (acc':=((rows.filter fun p=>(p.1.length:Int) == (d:Int)).map (·.2)).map D.int) (.of (ka0 .z) kae)
      (CompOk.of (σc:=[⟨"depth", .ext,some (.int d)⟩,⟨"names", .loc,none⟩,⟨"k", .loc,none⟩]) [("rows", .loc),("depth", .own),("rules", .loc),("here", .loc),("under", .loc),("heads", .loc),("name", .own)] [("depth", .ext),("names", .loc),("k", .loc)] (by decide +kernel) (.ext (k:=.own) (by decide) (.tail _ (.head _)) (.own (by decide) (.own (by decide) .nil))) rfl rfl) ?_
      (by rw [List.length_map,List.length_map]; exact Nat.le_trans (List.length_filter_le _ _) (by lia)) (.s (.s (.s .z))) (sw_ok (by decide +kernel))) ?_
    · rw [List.map_map]
      exact CL.fl (σ:=fun (o:Option Row)=>[⟨"depth", .ext,some (.int d)⟩,⟨"names", .loc,o.map fun p=>.list (p.1.map T)⟩,⟨"k", .loc,o.map fun p=>.int p.2⟩]) (it:=rowD) (p:=fun p=>(p.1.length:Int) == (d:Int)) (f:=D.int ∘ fun p=>p.2) rows
        (fun o c ω=>ked (.cons (by decide) (.s .z) (.cons (by decide) (.s (.s .z)) .nil)))
        (fun p hp ω=>kcx (kam (EV.cast (by rw [List.length_map]) (ka8 (ka3 (ke0 G) (by decide +kernel)) (.inl ⟨_,rfl⟩) (.cons rfl (ka0 (.s .z)) .nil) (kar (hzl p hp)))) (ka0 .z) kb9)) (fun p hp _ ω=>ka0 (.s (.s .z)))
    refine ka5 (ka1 (kaj .nil) (.s (.s (.s (.s .z))))) ?_
    refine ka5 (ka1 (d:=.list ((headsT (bit0 r d)).map T)) (ev_ite (tv_bit0 (ka0 (.s (.s .z))) (ka0 (.s .z)) hd8) (fun h=>?_) fun h=>?_) (.s (.s (.s (.s (.s .z)))))) ?_
    · rw [h]; exact kaj (.cons rfl kag (.cons rfl kag (.cons rfl kag .nil)))
    · rw [h]; exact kaj (.cons rfl kag (.cons rfl kag (.cons rfl kag .nil)))
    have hwalk:walkT (f + 1) rows d r = if bit1 r d = true then (headsT (bit0 r d)).foldl (fun acc h=>acc ++ walkT f (rows.filter fun p=>sl (some (d:Int)) (some ((d:Int) + 1)) p.1 == [h]) (d + 1) r) [] ++ (rows.filter fun p=>(p.1.length:Int) == (d:Int)).map (·.2)
      else (rows.filter fun p=>(p.1.length:Int) == (d:Int)).map (·.2) ++ (headsT (bit0 r d)).foldl (fun acc h=>acc ++ walkT f (rows.filter fun p=>sl (some (d:Int)) (some ((d:Int) + 1)) p.1 == [h]) (d + 1) r) []:=by
      rw [walkT,if_neg hne']
    generalize walkT (f + 1) rows d r = res at hwalk ⊢
    have hlu:((headsT (bit0 r d)).foldl (fun acc h=>acc ++ walkT f (rows.filter fun p=>sl (some (d:Int)) (some ((d:Int) + 1)) p.1 == [h]) (d + 1) r) []).length + rows.length ≤ 1000:=by
      have fl:∀ nm,(walkT f (rows.filter fun p=>sl (some (d:Int)) (some ((d:Int) + 1)) p.1 == [nm]) (d + 1) r).length ≤ 64 * 5:=fun nm=>Nat.le_trans (kiv f _ (d + 1) r (hr.next nm)) (Nat.mul_le_mul (Nat.le_trans (Nat.pow_le_pow_right (by decide) (show f ≤ 3 by lia)) (by decide)) (Nat.le_trans (List.length_filter_le _ _) hz))
      have a:=fl [97]; have b:=fl [97,98]; have c:=fl [98]
      cases bit0 r d <;> (simp only [headsT,if_true,if_false,Bool.false_eq_true,List.foldl_cons,List.foldl_nil,List.nil_append,List.length_append]; lia)
    have hlh:((rows.filter fun p=>(p.1.length:Int) == (d:Int)).map (·.2)).length ≤ rows.length:=by rw [List.length_map]; exact List.length_filter_le _ _
    have hheads:∀ nm ∈ headsT (bit0 r d),okEq (T nm) = true:=by
      cases bit0 r d <;> (intro nm hm; simp only [headsT,if_true,if_false,Bool.false_eq_true,List.mem_cons,List.not_mem_nil,or_false] at hm; rcases hm with rfl | rfl | rfl <;> decide +kernel)
    generalize hh:headsT (bit0 r d) = heads at *
    have hstep:∀ (hs:List (List Nat)) (acc:List Int),(hs.foldl (fun acc h=>acc ++ walkT f (rows.filter fun p=>sl (some (d:Int)) (some ((d:Int) + 1)) p.1 == [h]) (d + 1) r) acc).length = acc.length + (hs.foldl (fun acc h=>acc ++ walkT f (rows.filter fun p=>sl (some (d:Int)) (some ((d:Int) + 1)) p.1 == [h]) (d + 1) r) []).length:=by
      intro hs
      induction hs with
      | nil=>intro acc; simp
      | cons h hs ih=>intro acc; rw [List.foldl_cons,List.foldl_cons,ih,ih ([] ++ _),List.length_append,List.length_append]; simp; lia
    generalize hHd:((rows.filter fun p=>(p.1.length:Int) == (d:Int)).map (·.2)) = here at *
    -- the loop
    have loop:∀ (sc:Scope) (t:Expr) (body:List Stmt) (hs:List (List Nat)) (acc:List Int) (o:Option D),(∀ h ∈ hs,okEq (T h) = true) → (hs.foldl (fun acc h=>acc ++ walkT f (rows.filter fun p=>sl (some (d:Int)) (some ((d:Int) + 1)) p.1 == [h]) (d + 1) r) acc).length ≤ 1000 →
        (∀ (o:Option D) (acc:List Int) (h:List Nat) (ω:Owns),AsgR w h₀ (f + 4) sc ω t (T h) [⟨"rows", .loc,some (.list (rows.map rowD))⟩,⟨"depth", .own,some (.int d)⟩,⟨"rules", .loc,some (.int r)⟩,⟨"here", .loc,some (.list (here.map D.int))⟩,⟨"under", .loc,some (.list (acc.map D.int))⟩,⟨"heads", .loc,some (.list (heads.map T))⟩,⟨"name", .own,o⟩] [⟨"rows", .loc,some (.list (rows.map rowD))⟩,⟨"depth", .own,some (.int d)⟩,⟨"rules", .loc,some (.int r)⟩,⟨"here", .loc,some (.list (here.map D.int))⟩,⟨"under", .loc,some (.list (acc.map D.int))⟩,⟨"heads", .loc,some (.list (heads.map T))⟩,⟨"name", .own,some (T h)⟩]) →
        (∀ (acc:List Int) (h:List Nat) (ω:Owns),okEq (T h) = true → (acc ++ walkT f (rows.filter fun p=>sl (some (d:Int)) (some ((d:Int) + 1)) p.1 == [h]) (d + 1) r).length ≤ 1000 → SX w h₀ (f + 4) sc ω [⟨"rows", .loc,some (.list (rows.map rowD))⟩,⟨"depth", .own,some (.int d)⟩,⟨"rules", .loc,some (.int r)⟩,⟨"here", .loc,some (.list (here.map D.int))⟩,⟨"under", .loc,some (.list (acc.map D.int))⟩,⟨"heads", .loc,some (.list (heads.map T))⟩,⟨"name", .own,some (T h)⟩] body (.next ω [⟨"rows", .loc,some (.list (rows.map rowD))⟩,⟨"depth", .own,some (.int d)⟩,⟨"rules", .loc,some (.int r)⟩,⟨"here", .loc,some (.list (here.map D.int))⟩,⟨"under", .loc,some (.list ((acc ++ walkT f (rows.filter fun p=>sl (some (d:Int)) (some ((d:Int) + 1)) p.1 == [h]) (d + 1) r).map D.int))⟩,⟨"heads", .loc,some (.list (heads.map T))⟩,⟨"name", .own,some (T h)⟩])) →
        ∃ o',FL w h₀ (f + 4) sc t body [] [⟨"rows", .loc,some (.list (rows.map rowD))⟩,⟨"depth", .own,some (.int d)⟩,⟨"rules", .loc,some (.int r)⟩,⟨"here", .loc,some (.list (here.map D.int))⟩,⟨"under", .loc,some (.list (acc.map D.int))⟩,⟨"heads", .loc,some (.list (heads.map T))⟩,⟨"name", .own,o⟩] (hs.map T) (.next [] [⟨"rows", .loc,some (.list (rows.map rowD))⟩,⟨"depth", .own,some (.int d)⟩,⟨"rules", .loc,some (.int r)⟩,⟨"here", .loc,some (.list (here.map D.int))⟩,⟨"under", .loc,some (.list ((hs.foldl (fun acc h=>acc ++ walkT f (rows.filter fun p=>sl (some (d:Int)) (some ((d:Int) + 1)) p.1 == [h]) (d + 1) r) acc).map D.int))⟩,⟨"heads", .loc,some (.list (heads.map T))⟩,⟨"name", .own,o'⟩]):=by
      intro sc t body hs
      induction hs with
      | nil=>intro acc o _ _ _ _; exact ⟨o, .nil⟩
      | cons h hs ih =>
        intro acc o ho hl ha hb
        have hl':(acc ++ walkT f (rows.filter fun p=>sl (some (d:Int)) (some ((d:Int) + 1)) p.1 == [h]) (d + 1) r).length ≤ 1000:=by
          rw [List.foldl_cons,hstep] at hl; lia
        obtain ⟨o',F⟩:=ih (acc ++ walkT f (rows.filter fun p=>sl (some (d:Int)) (some ((d:Int) + 1)) p.1 == [h]) (d + 1) r) (some (T h)) (fun x hx=>ho x (.tail _ hx)) hl ha hb
        exact ⟨o', .next (fun p=>ha o acc h _) (fun p=>hb acc h _ (ho h (.head _)) hl') F⟩
    have use:∀ {sc:Scope}{t e:Expr}{pos:Pos}{body rest:List Stmt}{out:Out},IterE w h₀ (f + 4) sc [] [⟨"rows", .loc,some (.list (rows.map rowD))⟩,⟨"depth", .own,some (.int d)⟩,⟨"rules", .loc,some (.int r)⟩,⟨"here", .loc,some (.list (here.map D.int))⟩,⟨"under", .loc,some (.list [])⟩,⟨"heads", .loc,some (.list (heads.map T))⟩,⟨"name", .own,none⟩] e (heads.map T) → (∀ env x,foldedSetIterable e env x = pure x) →
        (∀ (o:Option D) (acc:List Int) (h:List Nat) (ω:Owns),AsgR w h₀ (f + 4) sc ω t (T h) [⟨"rows", .loc,some (.list (rows.map rowD))⟩,⟨"depth", .own,some (.int d)⟩,⟨"rules", .loc,some (.int r)⟩,⟨"here", .loc,some (.list (here.map D.int))⟩,⟨"under", .loc,some (.list (acc.map D.int))⟩,⟨"heads", .loc,some (.list (heads.map T))⟩,⟨"name", .own,o⟩] [⟨"rows", .loc,some (.list (rows.map rowD))⟩,⟨"depth", .own,some (.int d)⟩,⟨"rules", .loc,some (.int r)⟩,⟨"here", .loc,some (.list (here.map D.int))⟩,⟨"under", .loc,some (.list (acc.map D.int))⟩,⟨"heads", .loc,some (.list (heads.map T))⟩,⟨"name", .own,some (T h)⟩]) →
        (∀ (acc:List Int) (h:List Nat) (ω:Owns),okEq (T h) = true → (acc ++ walkT f (rows.filter fun p=>sl (some (d:Int)) (some ((d:Int) + 1)) p.1 == [h]) (d + 1) r).length ≤ 1000 → SX w h₀ (f + 4) sc ω [⟨"rows", .loc,some (.list (rows.map rowD))⟩,⟨"depth", .own,some (.int d)⟩,⟨"rules", .loc,some (.int r)⟩,⟨"here", .loc,some (.list (here.map D.int))⟩,⟨"under", .loc,some (.list (acc.map D.int))⟩,⟨"heads", .loc,some (.list (heads.map T))⟩,⟨"name", .own,some (T h)⟩] body (.next ω [⟨"rows", .loc,some (.list (rows.map rowD))⟩,⟨"depth", .own,some (.int d)⟩,⟨"rules", .loc,some (.int r)⟩,⟨"here", .loc,some (.list (here.map D.int))⟩,⟨"under", .loc,some (.list ((acc ++ walkT f (rows.filter fun p=>sl (some (d:Int)) (some ((d:Int) + 1)) p.1 == [h]) (d + 1) r).map D.int))⟩,⟨"heads", .loc,some (.list (heads.map T))⟩,⟨"name", .own,some (T h)⟩])) →
        (∀ o',SX w h₀ (f + 4) sc [] [⟨"rows", .loc,some (.list (rows.map rowD))⟩,⟨"depth", .own,some (.int d)⟩,⟨"rules", .loc,some (.int r)⟩,⟨"here", .loc,some (.list (here.map D.int))⟩,⟨"under", .loc,some (.list ((heads.foldl (fun acc h=>acc ++ walkT f (rows.filter fun p=>sl (some (d:Int)) (some ((d:Int) + 1)) p.1 == [h]) (d + 1) r) []).map D.int))⟩,⟨"heads", .loc,some (.list (heads.map T))⟩,⟨"name", .own,o'⟩] rest out) →
        SX w h₀ (f + 4) sc [] [⟨"rows", .loc,some (.list (rows.map rowD))⟩,⟨"depth", .own,some (.int d)⟩,⟨"rules", .loc,some (.int r)⟩,⟨"here", .loc,some (.list (here.map D.int))⟩,⟨"under", .loc,some (.list [])⟩,⟨"heads", .loc,some (.list (heads.map T))⟩,⟨"name", .own,none⟩] (.For t e body [] pos :: rest) out:=by
      intro sc t e pos body rest out hi hfs ha hb h
      obtain ⟨o',F⟩:=loop sc t body heads [] none hheads (by lia) ha hb
      exact ka5 (kdt hi F hfs) (h o')
    refine use (.of (ka0 (.s (.s (.s (.s (.s .z)))))) kae) (fun _ _=>rfl) (fun o acc h ω=>kac (.s (.s (.s (.s (.s (.s .z))))))) (fun acc h ω hok hl=>?_) fun o'=>?_
    · refine ka4 (ka1 ?_ (.s (.s (.s (.s .z)))))
      rw [List.map_append]
      refine kad (ka0 (.s (.s (.s (.s .z))))) (ka8 (ka3 (kg7 G) (by decide +kernel)) (cal_walk G) (.cons rfl ?_ (.cons rfl (EV.cast (show D.int ((d:Int) + 1) = .int ((d + 1:Nat):Int) by push_cast; rfl) (kad (ka0 (.s .z)) ka7 kal)) (.cons rfl (ka0 (.s (.s .z))) .nil))) (f_walk f (rows.filter fun p=>sl (some (d:Int)) (some ((d:Int) + 1)) p.1 == [h]) (d + 1) (hr.next h) (Nat.le_trans (List.length_filter_le _ _) hz) (by lia) (by lia))) (kb3 ?_)
      · refine kb5 (.of (ka0 .z) kae) (CompOk.of (σc:=[⟨"depth", .ext,some (.int d)⟩,⟨"name", .ext,some (T h)⟩,⟨"names", .loc,none⟩,⟨"k", .loc,none⟩]) [("rows", .loc),("depth", .own),("rules", .loc),("here", .loc),("under", .loc),("heads", .loc),("name", .own)] [("depth", .ext),("name", .ext),("names", .loc),("k", .loc)] (by decide +kernel) (.ext (k:=.own) (by decide) (.tail _ (.head _)) (.ext (k:=.own) (by decide) (.tail _ (.tail _ (.tail _ (.tail _ (.tail _ (.tail _ (.head _))))))) (.own (by decide) (.own (by decide) .nil)))) rfl rfl) ?_
          (by rw [List.length_map]; exact Nat.le_trans (List.length_filter_le _ _) (by lia))
        exact CL.fl (σ:=fun (o:Option Row)=>[⟨"depth", .ext,some (.int d)⟩,⟨"name", .ext,some (T h)⟩,⟨"names", .loc,o.map fun p=>.list (p.1.map T)⟩,⟨"k", .loc,o.map fun p=>.int p.2⟩]) (it:=rowD) (p:=fun p=>sl (some (d:Int)) (some ((d:Int) + 1)) p.1 == [h]) (f:=rowD) rows
          (fun o c ω=>ked (.cons (by decide) (.s (.s .z)) (.cons (by decide) (.s (.s (.s .z))) .nil)))
          (fun p hp ω=>kcx (kam (EV.cast (by rw [kj1]) (kav (ka0 (.s (.s .z))) (.some (ka0 .z)) (.some (kad (ka0 .z) ka7 kal)) .none (kcg (hzl p hp)))) (kaj (.cons rfl (ka0 (.s .z)) .nil)) (kfd (y:=[h]) (fun z hz=>(hr p hp).2.2 z (sl_mem hz)) (fun z hz=>by rw [List.mem_singleton.mp hz]; exact hok))))
          (fun p hp _ ω=>kb4 (.cons rfl (ka0 (.s (.s .z))) (.cons rfl (ka0 (.s (.s (.s .z)))) .nil)))
      · rw [List.length_append] at hl; rw [List.length_map,List.length_map]; exact hl
    · refine ka4 (kab (ev_ite (tv_bit1 (ka0 (.s (.s .z))) (ka0 (.s .z)) hd8) (fun h=>?_) fun h=>?_))
      · rw [if_pos h] at hwalk
        rw [hwalk,List.map_append]
        exact kad (ka0 (.s (.s (.s (.s .z))))) (ka0 (.s (.s (.s .z)))) (kb3 (by rw [List.length_map,List.length_map]; lia))
      · rw [if_neg (by rw [h]; exact Bool.false_ne_true)] at hwalk
        rw [hwalk,List.map_append]
        exact kad (ka0 (.s (.s (.s .z)))) (ka0 (.s (.s (.s (.s .z))))) (kb3 (by rw [List.length_map,List.length_map]; lia))
end
end
section
open PySem.SeqAt
section
variable {w:World}{h₀:Heap}{n:Nat}{sc:Scope}{ω:Owns}{σ:List Var}
theorem kki {l:Expr}{x:Str}{k:VK}{a:Addr}{op:CmpOp}{xp pos:Pos}{d:D}{ds:List D}{c:Bool}(hl:EV w h₀ n sc ω σ l d) (hx:Has σ x k (.val (.ref a))) (hm:(a, .lst ds) ∈ ω) (h:CmpR w h₀ n op d (.list ds) c) (hmk:behindInMarks op (.Name x xp) = false:=by rfl):TV w h₀ n sc ω σ (.Compare l [op] [.Name x xp] pos) c :=
  fun A env X s0 s rm S Q E hq=>wpAny_isTrue_Compare1 (hl A env X s0 s rm S _ _ fun va s₁ n₁ ra=>ka0 (w:=w) (n:=n) hx A env X s0 s₁ rm (S.nx n₁) _ _ fun vb s₂ n₂ rb=>by
    have:=rb.val_eq; subst this
    have S₂:=S.nx (n₁.trans n₂)
    obtain ⟨haX,hn,vs,hls,rvs⟩:=S₂.owns.is _ hm
    have haT:a ≠ Tb:=fun q=>by
      obtain ⟨ps,e,_⟩:=S.gi0.tab
      rw [← q,hn] at e; cases e
    have hX':∀ b ∈ X.filter (· != a),b ∈ X:=fun b hb=>(List.mem_filter.mp hb).1
    have O':Op h₀ (X.filter (· != a)) s₂:=⟨S₂.gi,List.mem_filter.mpr ⟨S₂.tabX,by simpa using Ne.symm haT⟩,fun b hb=>S₂.alive b (hX' b hb)⟩
    refine h A (X.filter (· != a)) s₂ va (.ref a) rm O' ((ra.nx n₂ S.tabX).weak fun b hb _=>hX' b hb) (.list hls (fun q=>by simpa using (List.mem_filter.mp q).2) (rvs.weak fun b hb _=>hX' b hb)) _ _ fun v s₃ n₃ rv=>?_
    rw [rv.bool_eq]
    exact wpAny_truthy_bool (hq s₃ (n₁.trans (n₂.trans n₃)))) hmk
theorem kik {α:Type} [BEq α] [LawfulBEq α] {k:Nat}{f:α → D}(hf:Inj α f) {x:α}{xs:List α}(hx:okB k (f x)) (hy:∀ y ∈ xs,okB k (f y)) (hk:k < 64):CmpR w h₀ (n + 1) .NotIn (f x) (.list (xs.map f)) (!xs.contains x) :=
  (kgy (hx.eq (Nat.le_of_lt hk)) ((okB.map hy).eq hk)).cast (by rw [any_map hf x xs])
end
noncomputable abbrev NsD (ns:List (List Nat)):D:=.list (ns.map T)
noncomputable abbrev BsD (s:List Bool):D:=.list (s.map D.bool)
noncomputable def okNs (ns:List (List Nat)):Prop:=∀ z ∈ ns,okEq (T z) = true
theorem okNs.b {ns:List (List Nat)}(h:okNs ns):okB 1 (NsD ns):=okB.map fun z hz=>okB.text 0 (h z hz)
theorem okNs.take {ns:List (List Nat)}(h:okNs ns) (k:Nat):okNs (ns.take k):=fun z hz=>h z (List.mem_of_mem_take hz)
theorem kkn {α:Type}(k:Nat) (x:List α):sl none (some (k:Int)) x = x.take k:=by
  unfold sl
  have h1:clipAt x.length (k:Int) = min k x.length:=by unfold clipAt; rw [if_neg (by lia)]; lia
  simp only [Option.elim_none,Option.elim_some,h1,List.drop_zero,Nat.sub_zero]
  rw [List.take_eq_take_iff]; lia
noncomputable def frontStep (acc:List (List (List Nat))) (ns:List (List Nat)) (k:Nat):List (List (List Nat)):=if acc.contains (ns.take k) = true then acc else acc ++ [ns.take k]
noncomputable def frontRow (acc:List (List (List Nat))) (ns:List (List Nat)):List (List (List Nat)):=(List.range ns.length).foldl (fun acc i=>frontStep acc ns (1 + i)) acc
noncomputable def frontsT (rows:List (List (List Nat))):List (List (List Nat)):=rows.foldl frontRow []
noncomputable def sideOf (rows:List (List (List Nat))) (fr:List (List Nat)):List Bool:=rows.map fun ns=>ns.take fr.length == fr
noncomputable def sidesT (rows:List (List (List Nat))):List (List Bool):=((frontsT rows).map (sideOf rows)).filter fun s=>s.contains false
theorem kbq {acc:List (List (List Nat))}{ns:List (List Nat)}{k:Nat} : (frontStep acc ns k).length ≤ acc.length + 1:=by
  unfold frontStep; split
  · lia
  · simp
theorem kd3 {acc:List (List (List Nat))}{ns:List (List Nat)}{k:Nat}(h:∀ f ∈ acc,okNs f ∧ f.length ≤ 100) (hn:okNs ns) (hl:ns.length ≤ 100):∀ f ∈ frontStep acc ns k,okNs f ∧ f.length ≤ 100:=fun f hf=>by
  unfold frontStep at hf; split at hf
  · exact h f hf
  · rcases List.mem_append.mp hf with hf | hf
    · exact h f hf
    · rw [List.mem_singleton.mp hf]; exact ⟨hn.take k,by rw [List.length_take]; lia⟩
section
variable {w:World}{h₀:Heap}(G:Gr w h₀)
include G
theorem f_sides {rows:List (List (List Nat))}(hz:rows.length ≤ 5) (hok:∀ ns ∈ rows,okNs ns ∧ ns.length ≤ 10):CallR w h₀ 5 (.ref 217) [.list (rows.map NsD)] (.list ((sidesT rows).map BsD)):=by
  refine kaq (vars:=[("rows", .own),("fronts", .loc),("names", .loc),("size", .loc),("sides", .loc)]) ⟨⟨_,G.K 217 _ rfl,rfl⟩,rfl,rfl,rfl,rfl,⟨_,_,_,_,rfl,G.K _ _ rfl,rfl,rfl⟩,rfl,rfl,G.lim,by decide +kernel,rfl⟩ (kaa (len1 fun _=>?_)) ?_
  · rfl
  refine kh3 (fun a=>.s .z) (by decide) fun a=>?_
  -- the fronts
  refine ka5 (kdt (.of (ka0 .z) kae) (FL.fold (fun (st:List (List (List Nat)) × Option D × Option D)=>[(a,Cn.lst (st.1.map NsD))]) (fun st=>[⟨"rows", .own,some (.list (rows.map NsD))⟩,⟨"fronts", .loc,some (.val (.ref a))⟩,⟨"names", .loc,st.2.1⟩,⟨"size", .loc,st.2.2⟩,⟨"sides", .loc,none⟩])
      (fun st ns=>(((List.range ns.length).foldl (fun (q:List (List (List Nat)) × Option D) i=>(frontStep q.1 ns (1 + i),some (D.int (1 + (i:Int))))) (st.1,st.2.2)).1,some (NsD ns),((List.range ns.length).foldl (fun (q:List (List (List Nat)) × Option D) i=>(frontStep q.1 ns (1 + i),some (D.int (1 + (i:Int))))) (st.1,st.2.2)).2)) NsD
      (fun k st=>st.1.length ≤ 10 * k ∧ k ≤ 5 ∧ ∀ f ∈ st.1,okNs f ∧ f.length ≤ 100) rows 0 ([],none,none) ⟨Nat.le_refl _,by lia,fun f hf=>by cases hf⟩ ?_)) ?_
  · intro k st ns hc hI
    obtain ⟨acc,o1,o2⟩:=st
    obtain ⟨i1,i2,i3⟩:=hI
    have hk:k < 5:=by have:=(List.getElem?_eq_some_iff.mp hc).1; lia
    obtain ⟨hns,hnl⟩:=hok ns (List.mem_of_getElem? hc)
    have i1':acc.length ≤ 10 * (0 + k):=i1
    have inner:∀ (is:List Nat) (acc:List (List (List Nat))) (o:Option D),(∀ f ∈ acc,okNs f ∧ f.length ≤ 100) → (is.foldl (fun (q:List (List (List Nat)) × Option D) i=>(frontStep q.1 ns (1 + i),some (D.int (1 + (i:Int))))) (acc,o)).1.length ≤ acc.length + is.length ∧ ∀ f ∈ (is.foldl (fun (q:List (List (List Nat)) × Option D) i=>(frontStep q.1 ns (1 + i),some (D.int (1 + (i:Int))))) (acc,o)).1,okNs f ∧ f.length ≤ 100:=by
      intro is
      induction is with
      | nil=>intro acc o h; exact ⟨Nat.le_refl _,h⟩
      | cons i is ih =>
        intro acc o h
        rw [List.foldl_cons]
        obtain ⟨a1,a2⟩:=ih (frontStep acc ns (1 + i)) (some (D.int (1 + (i:Int)))) (kd3 h hns (by lia))
        have:=kbq (acc:=acc) (ns:=ns) (k:=1 + i)
        exact ⟨by simp only [List.length_cons]; lia,a2⟩
    obtain ⟨b1,b2⟩:=inner (List.range ns.length) acc o2 i3
    refine ⟨⟨?_,by lia,b2⟩,[⟨"rows", .own,some (.list (rows.map NsD))⟩,⟨"fronts", .loc,some (.val (.ref a))⟩,⟨"names", .loc,some (NsD ns)⟩,⟨"size", .loc,o2⟩,⟨"sides", .loc,none⟩],fun p=>kac (.s (.s .z)), .inl fun p=>?_⟩
    · rw [List.length_range] at b1
      show (List.foldl _ (acc,o2) (List.range ns.length)).1.length ≤ 10 * (0 + k + 1)
      lia
    · refine ka4 (kdt (kkx (a:=1) (m:=ns.length) (kbo G) (by decide +kernel) ka7 (EV.cast (by rw [List.length_map,Int.add_comm]) (kad (ka8 (ka3 (ke0 G) (by decide +kernel)) (.inl ⟨_,rfl⟩) (.cons rfl (ka0 (.s (.s .z))) .nil) (kar (by rw [List.length_map]; lia))) ka7 kal)) (by decide) (by decide) (by lia)) ?_)
      refine (FL.fold (fun (q:List (List (List Nat)) × Option D)=>[p,(a,Cn.lst (q.1.map NsD))]) (fun q=>[⟨"rows", .own,some (.list (rows.map NsD))⟩,⟨"fronts", .loc,some (.val (.ref a))⟩,⟨"names", .loc,some (NsD ns)⟩,⟨"size", .loc,q.2⟩,⟨"sides", .loc,none⟩])
        (fun (q:List (List (List Nat)) × Option D) (i:Nat)=>(frontStep q.1 ns (1 + i),some (D.int (1 + (i:Int))))) (fun i=>D.int (1 + (i:Int))) (fun j q=>q.1.length ≤ acc.length + j ∧ j ≤ 10 ∧ ∀ f ∈ q.1,okNs f ∧ f.length ≤ 100) (List.range ns.length) 0 (acc,o2) ⟨Nat.le_refl _,by lia,i3⟩ ?_)
      intro j q i hj hJ
      obtain ⟨acc',o'⟩:=q
      obtain ⟨j1,j2,j3⟩:=hJ
      have hjl:j < ns.length:=by have:=(List.getElem?_eq_some_iff.mp hj).1; rwa [List.length_range] at this
      have hji:i = j:=by
        have:=List.getElem?_range hjl
        rw [this] at hj; exact (Option.some.inj hj).symm
      subst hji
      have j1':acc'.length ≤ acc.length + (0 + i):=j1
      have hstep:=kbq (acc:=acc') (ns:=ns) (k:=1 + i)
      refine ⟨⟨by show (frontStep acc' ns (1 + i)).length ≤ _; lia,by lia,kd3 j3 hns (by lia)⟩,[⟨"rows", .own,some (.list (rows.map NsD))⟩,⟨"fronts", .loc,some (.val (.ref a))⟩,⟨"names", .loc,some (NsD ns)⟩,⟨"size", .loc,some (.int (1 + (i:Int)))⟩,⟨"sides", .loc,none⟩],fun p=>kac (.s (.s (.s .z))), .inl fun p'=>?_⟩
      show SX _ _ _ _ _ _ _ (.next [p',p,(a,Cn.lst ((frontStep acc' ns (1 + i)).map NsD))] [⟨"rows", .own,some (.list (rows.map NsD))⟩,⟨"fronts", .loc,some (.val (.ref a))⟩,⟨"names", .loc,some (NsD ns)⟩,⟨"size", .loc,some (.int (1 + (i:Int)))⟩,⟨"sides", .loc,none⟩])
      have hcut:∀ (sc:Scope) (x1 x2 x3 x4:Pos) (ω:Owns),EV w h₀ 4 sc ω [⟨"rows", .own,some (.list (rows.map NsD))⟩,⟨"fronts", .loc,some (.val (.ref a))⟩,⟨"names", .loc,some (NsD ns)⟩,⟨"size", .loc,some (.int (1 + (i:Int)))⟩,⟨"sides", .loc,none⟩] (.Subscript (.Name "names" x1) (.Slice none (some (.Name "size" x2)) none x3) x4) (NsD (ns.take (1 + i))):=fun sc x1 x2 x3 x4 ω =>
        EV.cast (by
          have e:(1 + (i:Int)) = ((1 + i:Nat):Int):=by push_cast; rfl
          rw [kj1,e,kkn]) (kav (ka0 (.s (.s .z))) .none (.some (ka0 (.s (.s (.s .z))))) .none (kcg (by rw [List.length_map]; lia)))
      refine ka4 (ss_if (kki (hcut _ _ _ _ _ _) (.s .z) (.tail _ (.tail _ (.head _))) (kik (k:=1) (f:=NsD) Inj.text.list (hns.take _).b (fun f hf=>(j3 f hf).1.b) (by decide))) (fun h=>?_) fun h=>?_)
      · have e:frontStep acc' ns (1 + i) = acc' ++ [ns.take (1 + i)]:=by unfold frontStep; rw [if_neg (by rw [Bool.not_eq_true'] at h; rw [h]; exact Bool.false_ne_true)]
        rw [e,List.map_append]
        exact ka4 (kiz (.s .z) (hcut _ _ _ _ _ _) (.s (.s .z)) (by rw [List.length_map]; lia))
      · have e:frontStep acc' ns (1 + i) = acc':=by unfold frontStep; rw [if_pos (by rw [Bool.not_eq_false'] at h; exact h)]
        rw [e]
        exact kbw
  · have e0:∀ (ns:List (List Nat)) (is:List Nat) (acc:List (List (List Nat))) (o:Option D),(is.foldl (fun (q:List (List (List Nat)) × Option D) i=>(frontStep q.1 ns (1 + i),some (D.int (1 + (i:Int))))) (acc,o)).1 = is.foldl (fun acc i=>frontStep acc ns (1 + i)) acc:=by
      intro ns is
      induction is with
      | nil=>intro _ _; rfl
      | cons i is ih=>intro acc o; rw [List.foldl_cons,List.foldl_cons]; exact ih _ _
    have e1:∀ (rs:List (List (List Nat))) (st:List (List (List Nat)) × Option D × Option D),(rs.foldl (fun (st:List (List (List Nat)) × Option D × Option D) ns=>(((List.range ns.length).foldl (fun (q:List (List (List Nat)) × Option D) i=>(frontStep q.1 ns (1 + i),some (D.int (1 + (i:Int))))) (st.1,st.2.2)).1,some (NsD ns),((List.range ns.length).foldl (fun (q:List (List (List Nat)) × Option D) i=>(frontStep q.1 ns (1 + i),some (D.int (1 + (i:Int))))) (st.1,st.2.2)).2)) st).1 = rs.foldl frontRow st.1:=by
      intro rs
      induction rs with
      | nil=>intro _; rfl
      | cons ns rs ih=>intro st; rw [List.foldl_cons,List.foldl_cons,ih]; congr 1; exact e0 _ _ _ _
    have e2:=e1 rows ([],none,none)
    generalize (rows.foldl (fun (st:List (List (List Nat)) × Option D × Option D) ns=>(((List.range ns.length).foldl (fun (q:List (List (List Nat)) × Option D) i=>(frontStep q.1 ns (1 + i),some (D.int (1 + (i:Int))))) (st.1,st.2.2)).1,some (NsD ns),((List.range ns.length).foldl (fun (q:List (List (List Nat)) × Option D) i=>(frontStep q.1 ns (1 + i),some (D.int (1 + (i:Int))))) (st.1,st.2.2)).2)) ([],none,none)) = st at e2 ⊢
    obtain ⟨fr,o1,o2⟩:=st
    have e2':fr = frontsT rows:=e2
    have hfr:fr.length ≤ 50 ∧ ∀ f ∈ fr,okNs f ∧ f.length ≤ 100:=by
      have row:∀ (ns:List (List Nat)) (is:List Nat) (acc:List (List (List Nat))),okNs ns → ns.length ≤ 10 → (∀ f ∈ acc,okNs f ∧ f.length ≤ 100) → (is.foldl (fun acc i=>frontStep acc ns (1 + i)) acc).length ≤ acc.length + is.length ∧ ∀ f ∈ is.foldl (fun acc i=>frontStep acc ns (1 + i)) acc,okNs f ∧ f.length ≤ 100:=by
        intro ns is
        induction is with
        | nil=>intro acc _ _ h; exact ⟨Nat.le_refl _,h⟩
        | cons i is ih =>
          intro acc hn hl h
          rw [List.foldl_cons]
          obtain ⟨a1,a2⟩:=ih (frontStep acc ns (1 + i)) hn hl (kd3 h hn (by lia))
          have:=kbq (acc:=acc) (ns:=ns) (k:=1 + i)
          exact ⟨by simp only [List.length_cons]; lia,a2⟩
      have all:∀ (rs:List (List (List Nat))) (acc:List (List (List Nat))),(∀ ns ∈ rs,okNs ns ∧ ns.length ≤ 10) → (∀ f ∈ acc,okNs f ∧ f.length ≤ 100) → (rs.foldl frontRow acc).length ≤ acc.length + 10 * rs.length ∧ ∀ f ∈ rs.foldl frontRow acc,okNs f ∧ f.length ≤ 100:=by
        intro rs
        induction rs with
        | nil=>intro acc _ h; exact ⟨Nat.le_refl _,h⟩
        | cons ns rs ih =>
          intro acc hr h
          rw [List.foldl_cons]
          obtain ⟨c1,c2⟩:=row ns (List.range ns.length) acc (hr ns (.head _)).1 (hr ns (.head _)).2 h
          obtain ⟨a1,a2⟩:=ih (frontRow acc ns) (fun m hm=>hr m (.tail _ hm)) c2
          rw [List.length_range] at c1
          have:=(hr ns (.head _)).2
          have c1':(frontRow acc ns).length ≤ acc.length + ns.length:=c1
          exact ⟨by simp only [List.length_cons]; lia,a2⟩
      obtain ⟨a1,a2⟩:=all rows [] hok (fun f hf=>by cases hf)
      rw [e2']
      exact ⟨by have a1':(frontsT rows).length ≤ 0 + 10 * rows.length:=a1; lia,a2⟩
    refine kiw (.s .z) (.refl _) (.s .z) ?_
    -- sides
    refine ka5 (kai (acc':=(fr.map (sideOf rows)).map BsD) (.of (ka0 (.s .z)) kae)
      (CompOk.of (σc:=[⟨"rows", .ext,some (.list (rows.map NsD))⟩,⟨"front", .own,none⟩]) [("rows", .own),("fronts", .loc),("names", .loc),("size", .loc),("sides", .loc)] [("rows", .ext),("front", .own)] (by decide +kernel) (.ext (k:=.own) (by decide) (.head _) (.own (by decide) .nil)) rfl rfl) ?_ (by rw [List.length_map,List.length_map]; lia) (.s (.s (.s (.s .z)))) (sw_ok (by decide +kernel))) ?_
    · rw [List.map_map]
      refine CL.mp (σ:=fun (o:Option (List (List Nat)))=>[⟨"rows", .ext,some (.list (rows.map NsD))⟩,⟨"front", .own,o.map NsD⟩]) (it:=NsD) (f:=BsD ∘ sideOf rows) fr (fun o c ω=>kac (.s .z)) rfl fun f hf ω=>?_
      obtain ⟨hf1,hf2⟩:=hfr.2 f hf
      show EV _ _ _ _ _ _ _ (.list ((rows.map fun ns=>ns.take f.length == f).map D.bool))
      rw [List.map_map]
      refine kb5 (.of (ka0 .z) kae) (CompOk.of (σc:=[⟨"front", .ext,some (NsD f)⟩,⟨"names", .loc,none⟩]) [("rows", .ext),("front", .own)] [("front", .ext),("names", .loc)] (by decide +kernel) (.ext (k:=.own) (by decide) (.tail _ (.head _)) (.own (by decide) .nil)) rfl rfl) ?_ (by rw [List.length_map]; lia)
      exact CL.mp (σ:=fun (o:Option (List (List Nat)))=>[⟨"front", .ext,some (NsD f)⟩,⟨"names", .loc,o.map NsD⟩]) (it:=NsD) (f:=D.bool ∘ fun ns=>ns.take f.length == f) rows (fun o c ω=>kac (.s .z)) rfl fun ns hns ω =>
        kb8 (EV.cast (by rw [kj1,List.length_map,kkn]) (kav (ka0 (.s .z)) .none (.some (ka8 (ka3 (ke0 G) (by decide +kernel)) (.inl ⟨_,rfl⟩) (.cons rfl (ka0 .z) .nil) (kar (by rw [List.length_map]; lia)))) .none (kcg (by rw [List.length_map]; have:=(hok ns hns).2; lia)))) (ka0 .z) (kfd ((hok ns hns).1.take _) hf1)
    · refine ka4 (kab ?_)
      have er:sidesT rows = (fr.map (sideOf rows)).filter fun s=>s.contains false:=by rw [e2']; rfl
      rw [er]
      refine kb5 (.of (ka0 (.s (.s (.s (.s .z))))) kae) (CompOk.of (σc:=[⟨"side", .loc,none⟩]) [("rows", .own),("fronts", .loc),("names", .loc),("size", .loc),("sides", .loc)] [("side", .loc)] (by decide +kernel) (.own (by decide) .nil) rfl rfl) ?_ (by rw [List.length_map]; exact Nat.le_trans (List.length_filter_le _ _) (by rw [List.length_map]; lia))
      exact CL.fl (σ:=fun (o:Option (List Bool))=>[⟨"side", .loc,o.map BsD⟩]) (it:=BsD) (p:=fun s=>s.contains false) (f:=BsD) (fr.map (sideOf rows)) (fun o c ω=>kac .z)
        (fun s hs ω=>kcx (kam ev_bool (ka0 .z) (cmp_in_map (k:=0) (f:=D.bool) Inj.bool (okB.bool 0 false) (fun b _=>okB.bool 0 b) (by decide)))) (fun s hs _ ω=>ka0 .z)
theorem cal_sides:Cal h₀ (.ref 217):=.inr (.inr ⟨_,_,_,rfl,G.K 217 _ rfl,rfl⟩)
end
end
section
open PySem.SeqAt
section
variable {w:World}{h₀:Heap}{n:Nat}{sc:Scope}
theorem CL.mpS {β:Type}{elt:Expr}{g:Comprehension}{σ:Option β → List Var}{it:β → D}{f:β → D}(hi:g.ifs = []):∀ (cs:List β) (o:Option β) (acc:List D),(∀ o c ω,AsgR w h₀ n sc ω g.target (it c) (σ o) (σ (some c))) → (∀ c ∈ cs, ∀ ω,EV w h₀ n sc ω (σ (some c)) elt (f c)) →
    ∃ o',CL w h₀ n sc elt [g] (σ o) (cs.map it) acc (acc ++ cs.map f) (σ o')
  | [],o,acc,_,_=>⟨o,by simpa using CL.nil⟩
  | c :: cs,o,acc,ha,he=>by
    obtain ⟨o',C⟩:=CL.mpS (f:=f) hi cs (some c) (acc ++ [f c]) ha (fun c' hc=>he c' (.tail _ hc))
    refine ⟨o', ?_⟩
    have e:acc ++ (c :: cs).map f = acc ++ [f c] ++ cs.map f:=by simp
    rw [e,List.map_cons]
    exact .emit (fun ω=>ha o c ω) (fun ω=>by rw [hi]; exact .nil) (fun ω=>he c (.head _) ω) C
theorem CL.two {β γ:Type}{elt:Expr}{g g':Comprehension}{σ:Option β → Option γ → List Var}{it:β → D}{it':γ → D}{f:β → γ → D}{inner:β → List γ}(hi:g.ifs = []) (hi':g'.ifs = []):∀ (cs:List β) (o:Option β) (o':Option γ) (acc:List D),
    (∀ o o' c ω,AsgR w h₀ n sc ω g.target (it c) (σ o o') (σ (some c) o')) → (∀ c o' r ω,AsgR w h₀ n sc ω g'.target (it' r) (σ (some c) o') (σ (some c) (some r))) →
    (∀ c ∈ cs, ∀ o' ω,IterE w h₀ n sc ω (σ (some c) o') g'.iter ((inner c).map it')) → (∀ c ∈ cs, ∀ r ∈ inner c, ∀ ω,EV w h₀ n sc ω (σ (some c) (some r)) elt (f c r)) →
    ∃ σ',CL w h₀ n sc elt [g,g'] (σ o o') (cs.map it) acc (acc ++ cs.flatMap fun c=>(inner c).map (f c)) σ'
  | [],o,o',acc,_,_,_,_=>⟨_,by simpa using CL.nil⟩
  | c :: cs,o,o',acc,ha,ha',hit,he=>by
    obtain ⟨o₁,C1⟩:=CL.mpS (σ:=fun r=>σ (some c) r) (f:=f c) hi' (inner c) o' acc (fun o r ω=>ha' c o r ω) (he c (.head _))
    obtain ⟨σ',C2⟩:=CL.two (f:=f) hi hi' cs (some c) o₁ (acc ++ (inner c).map (f c)) ha ha' (fun c' hc=>hit c' (.tail _ hc)) (fun c' hc=>he c' (.tail _ hc))
    refine ⟨σ', ?_⟩
    have e:acc ++ (c :: cs).flatMap (fun c=>(inner c).map (f c)) = acc ++ (inner c).map (f c) ++ cs.flatMap fun c=>(inner c).map (f c):=by simp
    rw [e,List.map_cons]
    exact .nest (fun ω=>ha o o' c ω) (fun ω=>by rw [hi]; exact .nil) (fun ω=>hit c (.head _) o' ω) C1 C2
end
section
variable {w:World}{h₀:Heap}{n:Nat}{sc:Scope}{ω:Owns}{σ:List Var}
theorem CL.two0 {β γ:Type}{elt:Expr}{g g':Comprehension}{σ:Option β → Option γ → List Var}{it:β → D}{it':γ → D}{f:β → γ → D}{inner:β → List γ}(cs:List β) (hi:g.ifs = []) (hi':g'.ifs = [])
    (ha:∀ o o' c ω,AsgR w h₀ n sc ω g.target (it c) (σ o o') (σ (some c) o')) (ha':∀ c o' r ω,AsgR w h₀ n sc ω g'.target (it' r) (σ (some c) o') (σ (some c) (some r)))
    (hit:∀ c ∈ cs, ∀ o' ω,IterE w h₀ n sc ω (σ (some c) o') g'.iter ((inner c).map it')) (he:∀ c ∈ cs, ∀ r ∈ inner c, ∀ ω,EV w h₀ n sc ω (σ (some c) (some r)) elt (f c r)) :
    ∃ σ',CL w h₀ n sc elt [g,g'] (σ none none) (cs.map it) [] (cs.flatMap fun c=>(inner c).map (f c)) σ':=by
  have C:=CL.two (f:=f) hi hi' cs none none [] ha ha' hit he
  rwa [List.nil_append] at C
theorem ev_comp2 {scope:Scope}{σc:List Var}{elt:Expr}{g g':Comprehension}{pos:Pos}{ds acc':List D}(hi:IterE w h₀ n sc ω σ g.iter ds) (ok:CompOk scope sc σ σc) (C:∃ σ₁,CL w h₀ n (relab scope sc) elt [g,g'] σc ds [] acc' σ₁) (hz:acc'.length ≤ 1000)
    (ha:g.is_async = 0:=by rfl) (ha':g'.is_async = 0:=by rfl) (hf:∀ env x,foldedSetIterable g.iter env x = pure x:=by intro _ _; rfl) (hf':∀ env x,foldedSetIterable g'.iter env x = pure x:=by intro _ _; rfl):EV w h₀ n sc ω σ (.ListComp elt [g,g'] scope pos) (.list acc') :=
  let ⟨_,C⟩:=C; ev_comp hi ok C hz ok.hloc (fun q h=>by rcases List.mem_cons.mp h with rfl | h; exact ha; rw [List.mem_singleton.mp h]; exact ha') fun q h=>by rcases List.mem_cons.mp h with rfl | h; exact hf; rw [List.mem_singleton.mp h]; exact hf'
end
noncomputable def fac:Nat → Nat
  | 0=>1
  | n + 1=>(n + 1) * fac n
noncomputable abbrev IsD (s:List Int):D:=.list (s.map D.int)
noncomputable def ordersT:Nat → List Int → List (List Int)
  | 0,_=>[[]]
  | f + 1,row=>if row.isEmpty = true then [[]] else (List.range row.length).flatMap fun i=>(ordersT f (row.take i ++ row.drop (i + 1))).map fun rest=>row.getD i 0 :: rest
theorem kbz:∀ (f:Nat) (row:List Int),row.length = f → (∀ r ∈ ordersT f row,r.length = f) ∧ (ordersT f row).length ≤ fac f
  | 0,row,h=>⟨fun r hr=>by rw [List.mem_singleton.mp hr]; rfl,Nat.le_refl _⟩
  | f + 1,row,h=>by
    have hne:¬ row.isEmpty = true:=by cases row <;> simp at h ⊢
    have hl:∀ i,i < row.length → (row.take i ++ row.drop (i + 1)).length = f:=fun i hi=>by rw [List.length_append,List.length_take,List.length_drop]; lia
    rw [ordersT,if_neg hne]
    refine ⟨fun r hr=>?_, ?_⟩
    · obtain ⟨i,hi,hr⟩:=List.mem_flatMap.mp hr
      obtain ⟨rest,h1,rfl⟩:=List.mem_map.mp hr
      rw [List.length_cons,(kbz f _ (hl i (List.mem_range.mp hi))).1 rest h1]
    · rw [List.length_flatMap]
      have:∀ (is:List Nat),(∀ i ∈ is,i < row.length) → (is.map fun i=>((ordersT f (row.take i ++ row.drop (i + 1))).map fun rest=>row.getD i 0 :: rest).length).sum ≤ is.length * fac f:=by
        intro is
        induction is with
        | nil=>intro _; simp
        | cons i is ih =>
          intro hi
          have:=ih fun j hj=>hi j (.tail _ hj)
          have h2:=(kbz f _ (hl i (hi i (.head _)))).2
          simp only [List.map_cons,List.sum_cons,List.length_map,List.length_cons] at this ⊢
          rw [Nat.succ_mul]; lia
      have h2:=this (List.range row.length) fun i hi=>List.mem_range.mp hi
      rw [List.length_range,h] at h2
      rw [fac,h]; exact h2
section
variable {w:World}{h₀:Heap}(G:Gr w h₀)
include G
theorem khm:Cal h₀ (.ref 222):=.inr (.inr ⟨_,_,_,rfl,G.K 222 _ rfl,rfl⟩)
theorem f_orders:∀ (f:Nat) (row:List Int),row.length = f → f ≤ 4 → CallR w h₀ (f + 4) (.ref 222) [IsD row] (.list ((ordersT f row).map IsD))
  | 0,row,h,hf=>by
    have e:row = []:=List.eq_nil_of_length_eq_zero h
    subst e
    refine kaq (vars:=[("row", .own)]) ⟨⟨_,G.K 222 _ rfl,rfl⟩,rfl,rfl,rfl,rfl,⟨_,_,_,_,rfl,G.K _ _ rfl,rfl,rfl⟩,rfl,rfl,G.lim,by decide +kernel,rfl⟩ (kaa (len1 fun _=>?_)) ?_
    · rfl
    exact kdh (ss_if (kam (ka0 .z) (kaj .nil) kbs) (fun _=>ka4 (kab (kaj (.cons rfl (kaj .nil) .nil)))) (fun h=>by cases h)) rfl
  | f + 1,row,h,hf=>by
    refine kaq (vars:=[("row", .own)]) ⟨⟨_,G.K 222 _ rfl,rfl⟩,rfl,rfl,rfl,rfl,⟨_,_,_,_,rfl,G.K _ _ rfl,rfl,rfl⟩,rfl,rfl,G.lim,by decide +kernel,rfl⟩ (kaa (len1 fun _=>?_)) ?_
    · rfl
    have hne:(row.map D.int).isEmpty = false:=by cases row <;> simp at h ⊢
    have hne':¬ row.isEmpty = true:=by cases row <;> simp at h ⊢
    have hl:∀ i,i < row.length → (row.take i ++ row.drop (i + 1)).length = f:=fun i hi=>by rw [List.length_append,List.length_take,List.length_drop]; lia
    refine ka5 (ss_if (kam (ka0 .z) (kaj .nil) kbs) (fun h=>by rw [hne] at h; cases h) (fun _=>kbw)) ?_
    refine ka4 (kab ?_)
    have hlen:=(kbz (f + 1) row h).2
    have hfac:fac (f + 1) ≤ 24:=by
      exact (by decide:∀ k,k < 4 → fac (k + 1) ≤ 24) f (by lia)
    have he:(ordersT (f + 1) row).map IsD = (List.range row.length).flatMap fun i=>(ordersT f (row.take i ++ row.drop (i + 1))).map fun rest=>IsD (row.getD i 0 :: rest):=by
      rw [ordersT,if_neg hne',List.map_flatMap]
      congr 1
      funext i
      rw [List.map_map]; rfl
    rw [he]
    have hz:((List.range row.length).flatMap fun i=>(ordersT f (row.take i ++ row.drop (i + 1))).map fun rest=>IsD (row.getD i 0 :: rest)).length ≤ 1000:=by rw [← he,List.length_map]; lia
    refine ev_comp2 (kb1 (m:=row.length) (kbo G) (by decide +kernel) (EV.cast (by rw [List.length_map]) (ka8 (ka3 (ke0 G) (by decide +kernel)) (.inl ⟨_,rfl⟩) (.cons rfl (ka0 .z) .nil) (kar (by rw [List.length_map]; lia)))) (by lia)) (CompOk.of (σc:=[⟨"row", .ext,some (IsD row)⟩,⟨"i", .loc,none⟩,⟨"rest", .loc,none⟩]) [("row", .own)] [("row", .ext),("i", .loc),("rest", .loc)] (by decide +kernel) (.ext (k:=.own) (by decide) (.head _) (.own (by decide) (.own (by decide) .nil))) rfl rfl) ?_ hz
    have hcut:∀ (i:Nat),i < row.length → sl none (some (0 + (i:Int))) (row.map D.int) ++ sl (some (0 + (i:Int) + 1)) none (row.map D.int) = (row.take i ++ row.drop (i + 1)).map D.int:=fun i hi=>by
      have e:(0 + (i:Int)) = (i:Int):=by lia
      have e2:sl (some (0 + (i:Int) + 1)) none (row.map D.int) = (row.map D.int).drop (i + 1):=by
        unfold sl
        have h1:clipAt (row.map D.int).length (0 + (i:Int) + 1) = i + 1:=by rw [List.length_map]; unfold clipAt; rw [if_neg (by lia)]; lia
        simp only [Option.elim_none,Option.elim_some,h1]
        rw [List.take_of_length_le]; rw [List.length_drop]; lia
      rw [e2,e,kkn,List.map_append,List.map_take,List.map_drop]
    refine CL.two0 (σ:=fun (o:Option Nat) (o':Option (List Int))=>[⟨"row", .ext,some (IsD row)⟩,⟨"i", .loc,o.map fun i=>.int (0 + (i:Int))⟩,⟨"rest", .loc,o'.map IsD⟩]) (it:=fun (i:Nat)=>.int (0 + (i:Int))) (it':=IsD) (f:=fun i rest=>IsD (row.getD i 0 :: rest)) (inner:=fun i=>ordersT f (row.take i ++ row.drop (i + 1))) (List.range row.length) rfl rfl
      (fun o o' c ω=>kac (.s .z)) (fun c o' r ω=>kac (.s (.s .z))) (fun i hi o' ω=>?_) (fun i hi rest hr ω=>?_)
    · have hi':=List.mem_range.mp hi
      refine .of (ka8 (ka3 (ke1 G) (by decide +kernel)) (khm G) (.cons rfl (EV.cast (congrArg D.list (hcut i hi')) (kad (kav (ka0 .z) .none (.some (ka0 (.s .z))) .none (kcg ?_)) (kav (ka0 .z) (.some (kad (ka0 (.s .z)) ka7 kal)) .none .none (kcg ?_)) (kb3 ?_))) .nil) (f_orders f _ (hl i hi') (by lia))) kae
      · rw [List.length_map]; lia
      · rw [List.length_map]; lia
      · rw [← List.length_append,hcut i hi',List.length_map,hl i hi']; lia
    · have hi':=List.mem_range.mp hi
      have hr':=(kbz f _ (hl i hi')).1 rest hr
      refine kad (kaj (.cons rfl (kao (ka0 .z) (ka0 (.s .z)) (kah (d:=.int (row.getD i 0)) ?_ ?_ ?_)) .nil)) (ka0 (.s (.s .z))) (kb3 ?_)
      · lia
      · lia
      · have e:(0 + (i:Int)).toNat = i:=by lia
        rw [e,List.getElem?_map,List.getD_eq_getElem?_getD,List.getElem?_eq_getElem hi']; rfl
      · rw [List.length_map]; simp only [List.length_cons,List.length_nil]; lia
end
end
section
open PySem.SeqAt
noncomputable def oT (order:List Int) (i:Nat):Int:=order.getD i 0
noncomputable def pI (i:Nat):Nat:=if i = 0 then 4 else i - 1
noncomputable def sB (side:List Bool) (k:Int):Bool:=side.getD k.toNat false
noncomputable def crossT (order:List Int) (side:List Bool):Nat:=((List.range 5).filter fun i=>sB side (oT order i) != sB side (oT order (pI i))).length
noncomputable def togetherT (order:List Int) (sides:List (List Bool)):Bool:=(sides.filter fun s=>decide (2 < crossT order s)).isEmpty
noncomputable def okOrder (order:List Int):Prop:=order.length = 5 ∧ ∀ i ∈ order,0 ≤ i ∧ i < 5
theorem okOrder.at {order:List Int}(h:okOrder order) {i:Nat}(hi:i < 5):order[i]? = some (oT order i) ∧ 0 ≤ oT order i ∧ oT order i < 5:=by
  have hl:i < order.length:=by rw [h.1]; exact hi
  have e:oT order i = order[i]:=by unfold oT; rw [List.getD_eq_getElem?_getD,List.getElem?_eq_getElem hl]; rfl
  rw [List.getElem?_eq_getElem hl,e]
  exact ⟨rfl,h.2 _ (List.getElem_mem hl)⟩
theorem sB_at {side:List Bool}(h:side.length = 5) {k:Int}(h0:0 ≤ k) (h5:k < 5):side[k.toNat]? = some (sB side k):=by
  have hl:k.toNat < side.length:=by lia
  unfold sB; rw [List.getD_eq_getElem?_getD,List.getElem?_eq_getElem hl]; rfl
section
variable {w:World}{h₀:Heap}{n:Nat}{sc:Scope}{ω:Owns}{σ:List Var}
theorem khd {e:Expr}{x:Str}{k:VK}{xp pos:Pos}{side:List Bool}{i:Int}(hx:Has σ x k (BsD side)) (hl:side.length = 5) (he:EV w h₀ n sc ω σ e (.int i)) (h0:0 ≤ i) (h5:i < 5) (hsub:∀ o i,subscripted e false o i = operate [o,i] (getItem o i):=by intro _ _; rfl):EV w h₀ n sc ω σ (.Subscript (.Name x xp) e pos) (.bool (sB side i)) :=
  kao (ka0 hx) he (kah h0 (by lia) (by rw [List.getElem?_map,sB_at hl h0 h5]; rfl) hsub)
theorem kcj {e:Expr}{x:Str}{k:VK}{xp pos:Pos}{order:List Int}{i:Int}{j:Nat}(hx:Has σ x k (IsD order)) (ho:okOrder order) (hj:j < 5) (he:EV w h₀ n sc ω σ e (.int i)) (hi:i = j ∨ (i = -1 ∧ j = 4)) (hsub:∀ o i,subscripted e false o i = operate [o,i] (getItem o i):=by intro _ _; rfl):EV w h₀ n sc ω σ (.Subscript (.Name x xp) e pos) (.int (oT order j)):=by
  rcases hi with rfl | ⟨rfl,rfl⟩
  · exact kao (ka0 hx) he (kah (by lia) (by lia) (by rw [Int.toNat_natCast,List.getElem?_map,(ho.at hj).1]; rfl) hsub)
  · have hl:(order.map D.int).length = 5:=by rw [List.length_map]; exact ho.1
    exact kao (ka0 hx) he (kiy (by decide) (by rw [hl]; decide) (by decide) (by rw [hl]; show (order.map D.int)[4]? = _; rw [List.getElem?_map,(ho.at hj).1]; rfl) hsub)
end
section
variable {w:World}{h₀:Heap}(G:Gr w h₀)
include G
theorem f_together {order:List Int}{sides:List (List Bool)}(ho:okOrder order) (hs:∀ s ∈ sides,s.length = 5) (hz:sides.length ≤ 500):CallR w h₀ 5 (.ref 234) [IsD order, .list (sides.map BsD)] (.bool (togetherT order sides)):=by
  refine kaq (vars:=[("order", .own),("sides", .loc)]) ⟨⟨_,G.K 234 _ rfl,rfl⟩,rfl,rfl,rfl,rfl,⟨_,_,_,_,rfl,G.K _ _ rfl,rfl,rfl⟩,rfl,rfl,G.lim,by decide +kernel,rfl⟩ (kaa (len2 fun _ _=>?_)) ?_
  · rfl
  have er:togetherT order sides = ((sides.filter fun s=>decide ((2:Int) < (crossT order s:Int))).map BsD).isEmpty:=by
    rw [List.isEmpty_map]
    unfold togetherT
    congr 2
    funext s
    rw [Bool.eq_iff_iff,decide_eq_true_iff,decide_eq_true_iff]; lia
  rw [er]
  refine ka4 (kab (kb8 (kb5 (.of (ka0 (.s .z)) kae) (CompOk.of (σc:=[⟨"order", .ext,some (IsD order)⟩,⟨"side", .own,none⟩]) [("order", .own),("sides", .loc)] [("order", .ext),("side", .own)] (by decide +kernel) (.ext (k:=.own) (by decide) (.head _) (.own (by decide) .nil)) rfl rfl) ?_ (by rw [List.length_map]; exact Nat.le_trans (List.length_filter_le _ _) (by lia))) (kaj .nil) kbs))
  refine CL.fl (σ:=fun (o:Option (List Bool))=>[⟨"order", .ext,some (IsD order)⟩,⟨"side", .own,o.map BsD⟩]) (it:=BsD) (p:=fun s=>decide ((2:Int) < (crossT order s:Int))) (f:=BsD) sides (fun o c ω=>kac (.s .z)) (fun s hsm ω=>?_) (fun s hsm _ ω=>ka0 (.s .z))
  have hl:=hs s hsm
  refine kcx (kam (EV.cast ?_ (ka8 (ka3 (ke0 G) (by decide +kernel)) (.inl ⟨_,rfl⟩) (.cons rfl (kb5 (acc':=((List.range 5).filter fun i=>sB s (oT order i) != sB s (oT order (pI i))).map fun (i:Nat)=>D.int (0 + (i:Int))) (kb1 (m:=5) (kbo G) (by decide +kernel) ka7 (by decide)) (CompOk.of (σc:=[⟨"order", .ext,some (IsD order)⟩,⟨"side", .ext,some (BsD s)⟩,⟨"i", .loc,none⟩]) [("order", .ext),("side", .own)] [("order", .ext),("side", .ext),("i", .loc)] (by decide +kernel) (.ext (k:=.ext) (by decide) (.head _) (.ext (k:=.own) (by decide) (.tail _ (.head _)) (.own (by decide) .nil))) rfl rfl) ?_ ?_) .nil) (kar ?_))) ka7 khe)
  · rw [List.length_map]; rfl
  · refine CL.fl (σ:=fun (o:Option Nat)=>[⟨"order", .ext,some (IsD order)⟩,⟨"side", .ext,some (BsD s)⟩,⟨"i", .loc,o.map fun (i:Nat)=>D.int (0 + (i:Int))⟩]) (it:=fun (i:Nat)=>D.int (0 + (i:Int))) (p:=fun i=>sB s (oT order i) != sB s (oT order (pI i))) (f:=fun (i:Nat)=>D.int (0 + (i:Int))) (List.range 5) (fun o c ω=>kac (.s (.s .z))) (fun i hi ω=>?_) (fun i hi _ ω=>ka0 (.s (.s .z)))
    have hi5:=List.mem_range.mp hi
    have h1:=ho.at hi5
    have hp5:pI i < 5:=by unfold pI; split <;> lia
    have h2:=ho.at hp5
    exact kcx (kam (khd (.s .z) hl (kcj .z ho hi5 (ka0 (.s (.s .z))) (.inl (by lia))) h1.2.1 h1.2.2)
      (khd (.s .z) hl (kcj .z ho hp5 (kad (ka0 (.s (.s .z))) ka7 kcq) (by unfold pI; split <;> lia)) h2.2.1 h2.2.2) kcl)
  · rw [List.length_map]; exact Nat.le_trans (List.length_filter_le _ _) (by decide)
  · rw [List.length_map]; exact Nat.le_trans (List.length_filter_le _ _) (by decide)
theorem kk8:Cal h₀ (.ref 234):=.inr (.inr ⟨_,_,_,rfl,G.K 234 _ rfl,rfl⟩)
theorem cal_tour:Cal h₀ (.ref 229):=.inr (.inr ⟨_,_,_,rfl,G.K 229 _ rfl,rfl⟩)
end
noncomputable abbrev TbD (t:List (List Int)):D:=.list (t.map IsD)
noncomputable def tabT (t:List (List Int)) (i j:Int):Int:=(t.getD i.toNat []).getD j.toNat 0
noncomputable def tourT (order:List Int) (t:List (List Int)):Int:=(order.foldl (fun (st:Int × Int) k=>(k,st.2 + tabT t st.1 k)) (oT order 4,0)).2
noncomputable def sharedT (sides:List (List Bool)):List (List Bool):=sides.filter fun s=>decide ((s.filter id).length = 2 ∨ (s.filter id).length = 3)
noncomputable def toursOk (t:List (List Int)) (sides:List (List Bool)):Prop:=∀ rest ∈ ordersT 4 [1,2,3,4],rest.getD 0 0 < rest.getD 3 0 →
  2 * (sides.length:Int) ≤ tourT (0 :: rest) t ∧ (tourT (0 :: rest) t = 2 * (sides.length:Int) ↔ togetherT (0 :: rest) (sharedT sides) = true)
theorem orders4:∀ rest ∈ ordersT 4 [1,2,3,4],rest.length = 4 ∧ okOrder (0 :: rest):=by
  have:∀ rest ∈ ordersT 4 [1,2,3,4],rest.length = 4 ∧ ∀ i ∈ (0 :: rest:List Int),0 ≤ i ∧ i < 5:=by decide +kernel
  exact fun rest h=>⟨(this rest h).1,by rw [List.length_cons,(this rest h).1],(this rest h).2⟩
section
variable {w:World}{h₀:Heap}(G:Gr w h₀)
include G
theorem f_tours {m:Nat}{t:List (List Int)}{sides:List (List Bool)}(hn:8 ≤ m + 1) (hs:∀ s ∈ sides,s.length = 5) (hz:sides.length ≤ 500) (htr:∀ rest ∈ ordersT 4 [1,2,3,4],CallR w h₀ (m + 1) (.ref 229) [IsD (0 :: rest),TbD t] (.int (tourT (0 :: rest) t))) (hok:toursOk t sides):CallR w h₀ (m + 2) (.ref 239) [TbD t, .list (sides.map BsD)] (.bool true):=by
  refine kaq (vars:=[("table", .loc),("sides", .loc),("least", .loc),("shared", .loc),("rest", .loc),("length", .loc)]) ⟨⟨_,G.K 239 _ rfl,rfl⟩,rfl,rfl,rfl,rfl,⟨_,_,_,_,rfl,G.K _ _ rfl,rfl,rfl⟩,rfl,rfl,G.lim,by decide +kernel,rfl⟩ (kaa (len2 fun _ _=>?_)) ?_
  · rfl
  have hshs:∀ s ∈ sharedT sides,s.length = 5:=fun s h=>hs s (List.mem_filter.mp h).1
  have hshz:(sharedT sides).length ≤ 500:=Nat.le_trans (List.length_filter_le _ _) hz
  refine ka5 (ka1 (d:=.int (2 * (sides.length:Int))) (EV.cast (by rw [List.length_map]) (kad ka7 (ka8 (ka3 (ke0 G) (by decide +kernel)) (.inl ⟨_,rfl⟩) (.cons rfl (ka0 (.s .z)) .nil) (kar (by rw [List.length_map]; lia))) (kgl (IntMulOk.of_left (by decide +kernel))))) (.s (.s .z))) ?_
  refine ka5 (kai (acc':=(sharedT sides).map BsD) (.of (ka0 (.s .z)) kae) (CompOk.of (σc:=[⟨"side", .loc,none⟩]) [("table", .loc),("sides", .loc),("least", .loc),("shared", .loc),("rest", .loc),("length", .loc)] [("side", .loc)] (by decide +kernel) (.own (by decide) .nil) rfl rfl) ?_ (by rw [List.length_map]; lia) (.s (.s (.s .z))) (sw_ok (by decide +kernel))) ?_
  · refine CL.fl (σ:=fun (o:Option (List Bool))=>[⟨"side", .loc,o.map BsD⟩]) (it:=BsD) (p:=fun s=>decide ((s.filter id).length = 2 ∨ (s.filter id).length = 3)) (f:=BsD) sides (fun o c ω=>kac .z) (fun s hsm ω=>?_) (fun s hsm _ ω=>ka0 .z)
    have hl:=hs s hsm
    have hfl:(s.filter id).length ≤ 5:=by rw [← hl]; exact List.length_filter_le _ _
    refine kcx (TV.cast ?_ (kam (EV.cast (show D.int _ = .int ((s.filter id).length:Int) by rw [List.length_map]) (ka8 (ka3 (ke0 G) (by decide +kernel)) (.inl ⟨_,rfl⟩) (.cons rfl (kb5 (acc':=(s.filter id).map D.bool) (.of (ka0 .z) kae) (CompOk.of (σc:=[⟨"held", .loc,none⟩]) [("side", .loc)] [("held", .loc)] (by decide +kernel) (.own (by decide) .nil) rfl rfl) ?_ (by rw [List.length_map]; lia)) .nil) (kar (by rw [List.length_map]; lia)))) (kb4 (.cons rfl ka7 (.cons rfl ka7 .nil))) (kk5 (ds:=[.int 2, .int 3]) ((okB.int 0 _).eq (by decide)) (by decide +kernel))))
    rotate_left
    · exact CL.fl (σ:=fun (o:Option Bool)=>[⟨"held", .loc,o.map D.bool⟩]) (it:=D.bool) (p:=id) (f:=D.bool) s (fun o c ω=>kac .z) (fun b hb ω=>kcx (kh1 (ka0 .z))) (fun b hb _ ω=>ka0 .z)
    · show ((2:Int) == ((s.filter id).length:Int) || (((3:Int) == ((s.filter id).length:Int)) || false)) = _
      rw [Bool.eq_iff_iff,Bool.or_false,Bool.or_eq_true,beq_iff_eq,beq_iff_eq,decide_eq_true_iff]; lia
  -- the loop
  have hor:=kbz 4 [1,2,3,4] rfl
  refine ka5 (kdt (.of (ka8 (ka3 (ke1 G) (by decide +kernel)) (khm G) (.cons rfl (kaj (ds:=[1,2,3,4].map D.int) (.cons rfl ka7 (.cons rfl ka7 (.cons rfl ka7 (.cons rfl ka7 .nil))))) .nil) ((f_orders G 4 [1,2,3,4] rfl (by decide)).mono hn)) kae)
    (FL.fold (fun _=>[]) (fun (st:Option D × Option D)=>[⟨"table", .loc,some (TbD t)⟩,⟨"sides", .loc,some (.list (sides.map BsD))⟩,⟨"least", .loc,some (.int (2 * (sides.length:Int)))⟩,⟨"shared", .loc,some (.list ((sharedT sides).map BsD))⟩,⟨"rest", .loc,st.1⟩,⟨"length", .loc,st.2⟩])
      (fun st rest=>(some (IsD rest),if rest.getD 0 0 < rest.getD 3 0 then some (.int (tourT (0 :: rest) t)) else st.2)) IsD (fun _ _=>True) (ordersT 4 [1,2,3,4]) 0 (none,none) trivial ?_)) (ka4 (kab ev_bool))
  intro k st rest hc _
  have hm:=List.mem_of_getElem? hc
  obtain ⟨hl4,ho⟩:=orders4 rest hm
  refine ⟨trivial,[⟨"table", .loc,some (TbD t)⟩,⟨"sides", .loc,some (.list (sides.map BsD))⟩,⟨"least", .loc,some (.int (2 * (sides.length:Int)))⟩,⟨"shared", .loc,some (.list ((sharedT sides).map BsD))⟩,⟨"rest", .loc,some (IsD rest)⟩,⟨"length", .loc,st.2⟩],fun p=>kac (.s (.s (.s (.s .z)))), .inl fun p=>?_⟩
  have at':∀ j,j < 4 → (rest.map D.int)[j]? = some (.int (rest.getD j 0)):=fun j hj=>by
    have hl:j < rest.length:=by lia
    rw [List.getElem?_map,List.getD_eq_getElem?_getD,List.getElem?_eq_getElem hl]; rfl
  refine ka4 (ss_if (kam (kao (ka0 (.s (.s (.s (.s .z))))) ka7 (kah (by decide) (by decide) (at' 0 (by decide)))) (kao (ka0 (.s (.s (.s (.s .z))))) ka7 (kah (by decide) (by decide) (at' 3 (by decide)))) cmp_lt_int) (fun h=>?_) fun h=>?_)
  · have h':rest.getD 0 0 < rest.getD 3 0:=of_decide_eq_true h
    rw [if_pos h']
    obtain ⟨k1,k2⟩:=hok rest hm h'
    have hcons:∀ {m:Nat}{sc:Scope}{ω:Owns}{σ:List Var}{a:Nat}{p1 p2 p3 p4:Pos},Has σ "rest" .loc (IsD rest) → EV w h₀ m sc ω σ (.BinOp (.List [.Constant (.int 0) a p1] p2) .Add (.Name "rest" p3) p4) (IsD (0 :: rest)):=fun hx =>
      kad (kaj (.cons rfl ka7 .nil)) (ka0 hx) (kb3 (by rw [List.length_map]; simp only [List.length_cons,List.length_nil]; lia))
    refine ka5 (ka1 (ka8 (ka3 (kkz G) (by decide +kernel)) (cal_tour G) (.cons rfl (hcons (.s (.s (.s (.s .z))))) (.cons rfl (ka0 .z) .nil)) (htr rest hm)) (.s (.s (.s (.s (.s .z)))))) ?_
    refine ka4 (ss_if (c:=false) (TV.cast ?_ (kbv (kfv (kam (ka0 (.s (.s (.s (.s (.s .z)))))) (ka0 (.s (.s .z))) cmp_lt_int) fun _=>kam (kb8 (ka0 (.s (.s (.s (.s (.s .z)))))) (ka0 (.s (.s .z))) kb9) (ka8 (ka3 (kg8 G) (by decide +kernel)) (kk8 G) (.cons rfl (hcons (.s (.s (.s (.s .z))))) (.cons rfl (ka0 (.s (.s (.s .z)))) .nil)) ((f_together G ho hshs hshz).mono (by lia))) kcl))) (fun q=>by cases q) (fun _=>kbw))
    have e1:decide (tourT (0 :: rest) t < 2 * (sides.length:Int)) = false:=decide_eq_false (by lia)
    have e2:(tourT (0 :: rest) t == 2 * (sides.length:Int)) = togetherT (0 :: rest) (sharedT sides):=by
      rw [Bool.eq_iff_iff,beq_iff_eq]; exact k2
    rw [e1,e2]; simp
  · have h':¬ rest.getD 0 0 < rest.getD 3 0:=of_decide_eq_false h
    rw [if_neg h']
    exact kbw
theorem cal_tours:Cal h₀ (.ref 239):=.inr (.inr ⟨_,_,_,rfl,G.K 239 _ rfl,rfl⟩)
end
end
section
noncomputable def EVP (w:World) (h₀:Heap) (n:Nat) (sc:Scope) (σ:List Var) (e:Expr) (row:List Int):Prop :=
  ∀ A env X s0 s ω (Q:Value → Shared → Prop) E,Room A n → St h₀ sc env X s0 ω σ s → (∀ a vs s',Nx h₀ s s' → s.heap.get? a = none → s'.heap.PlainList a vs.toArray → RAll [] s'.heap vs (row.map D.int) → Q (.ref a) s') → wpAny (model prog w) A (eval e env) Q E s
theorem RAll.intsAny {X Y:List Addr}{h h':Heap} : ∀ {vs:List Value}{is:List Int},RAll X h vs (is.map D.int) → RAll Y h' vs (is.map D.int)
  | _,[],r=>by cases r; exact .nil
  | _,k :: ns,r=>by
    cases r with
    | cons r1 r2=>obtain ⟨t,rfl⟩:=r1.int_eq; exact .cons (.int _ _) (RAll.intsAny r2)
section
variable {w:World}{h₀:Heap}{n:Nat}{sc:Scope}{ω:Owns}{σ:List Var}
noncomputable abbrev rowOwn (row:List Int) (a:Addr):Addr × Cn:=(a, .lst (row.map D.int))
theorem wp_compN {A:Around}{env:Env}{s0:Shared}{elt:Expr}{g:Comprehension}{scope0:Scope}{pos:Pos}{D':Addr}(rm:Room A n) (ha0:g.is_async = 0) (hifs:g.ifs = []) {σf:Option D → List Var}(asg:∀ d o ω,AsgR w h₀ n sc ω g.target d (σf o) (σf (some d))) {row:List Int}(he:∀ d,EVP w h₀ n sc (σf (some d)) elt row) :
    ∀ {ds:List D}{I:Addr}{fp XB:List Addr}{P:Nat → Value → Prop}{Si:Nat → Heap → Prop}{all:List D}{i:Nat}{o:Obj}{X:List Addr}{s sB:Shared}{ω:Owns}{acc:List D}{oo:Option D}{RR:Result → Shared → Prop},Walks prog w A I fp [I] all.length P Si → AlI I Si →
    St h₀ sc env X s0 ((I, .obj o) :: (D', .lst acc) :: ω) (σf oo) s → Grow XB sB X s → I ∉ XB → Si i s.heap → i ≤ all.length → all.drop i = ds → (∀ b ∈ fp,b = I ∨ (b ∉ X ∧ ∃ o,s.heap.get? b = some o)) → (∀ i v d,P i v → all[i]? = some d → R X s.heap v d) → acc.length + ds.length ≤ 1000 →
    (∀ (as:List Addr) s' X' oo',as.length = ds.length → Grow XB sB X' s' → St h₀ sc env X' s0 ((D', .lst (acc ++ as.map fun a=>.val (.ref a))) :: (as.map (rowOwn row) ++ ω)) (σf oo') s' → RR (.ok .next) s') → codeAny (model prog w) A (.compLoop (cexp false elt [g] scope0 pos) 0 (.ref I) (.ref D') env) RR s:=by
  have has:∀ g' ∈ [g],g'.is_async = 0:=fun g' h=>by rw [List.mem_singleton.mp h]; exact ha0
  intro ds
  induction ds with
  | nil =>
    intro I fp XB P Si all i o X s sB ω acc oo RR W al S gB hIX st hi hd hfp hit hz h
    have hn:i = all.length:=by
      have:=List.drop_eq_nil_iff.mp hd
      lia
    subst hn
    refine kjz (depth:=0) (gs:=[]) rm has rfl W al S gB hIX st fun s' X' g' S'=>h [] s' X' oo rfl g' ?_
    simpa using S'
  | cons d ds ih =>
    intro I fp XB P Si all i o X s sB ω acc oo RR W al S gB hIX st hi hd hfp hit hz h
    obtain ⟨h1,h2,h3⟩:=kbb hd
    refine ke7 (depth:=0) (gs:=[]) (σ₁:=σf (some d)) (c:=true) rm has rfl W al S st h1 hfp hit (fun ω=>asg d oo ω) (fun ω=>by rw [hifs]; exact .nil) fun o' s' S' g' st'=>?_
    rw [if_pos rfl]
    show wpAny _ A (emitT false elt (.ref D') env >>= fun _=>again (.compLoop (cexp false elt [g] scope0 pos) 0 (.ref I) (.ref D') env)) _ _ s'
    refine wpAny_bind (wpAny_bind (he d A env X s0 s' _ _ _ rm S' fun a vs s₂ n₂ ha hl hr=>?_))
    have hal:∃ o,s₂.heap.get? a = some o:=let ⟨k,e⟩:=hl; ⟨_,e⟩
    have S₂:St h₀ sc env (a :: X) s0 (rowOwn row a :: (I, .obj o') :: (D', .lst acc) :: ω) (σf (some d)) s₂:=S'.adopt n₂ ha hal ⟨vs,hl,hr.intsAny⟩
    have gA:Grow X s' (a :: X) s₂:=.adopt n₂ S.tabX ha
    obtain ⟨q1,q2,us,q3,q4⟩:=S₂.owns.is (D', .lst acc) (.tail _ (.tail _ (.head _)))
    simp only [List.length_cons] at hz
    refine wpAny_bind (wpAny_list_append_plain q3 (fun h' hl' hs=>?_) (by rw [List.size_toArray,q4.length,sizeLine_eq]; lia))
    have e':us.toArray.push (Value.ref a) = (us ++ [Value.ref a]).toArray:=by simp
    rw [e'] at hl'
    obtain ⟨S₃,g₃⟩:=S₂.turnList (tk:=s₂.toks) (.s (.s .z)) hs hl' (q4.append (.cons (.val (.ref a)) .nil))
    have S₄:=S₃.perm (ω':=(I, .obj o') :: (D', .lst (acc ++ [.val (.ref a)])) :: rowOwn row a :: ω) ((List.Perm.swap _ _ _).trans (.cons _ (.swap _ _ _)))
    have gT:=gA.trans g₃
    obtain ⟨a1,a2⟩:=ket W S' st' gT S₄ (ke8 g' hfp)
    refine wpAny_pure (wpAny_pure ⟨rfl,ih W al S₄ (gB.trans (g'.trans gT)) hIX a1 h3 h2 a2 (ke9 (g'.trans gT) hit) (by rw [List.length_append,List.length_singleton]; lia) fun as s₅ X₅ oo' hlen g₅ S₅=>?_⟩)
    refine h (a :: as) s₅ X₅ oo' (by simp [hlen]) g₅ ?_
    have S₆:=S₅.perm (ω':=(D', .lst (acc ++ [.val (.ref a)] ++ as.map fun a=>.val (.ref a))) :: (rowOwn row a :: (as.map (rowOwn row) ++ ω))) (.cons _ List.perm_middle)
    have e2:acc ++ [D.val (.ref a)] ++ as.map (fun a=>D.val (.ref a)) = acc ++ (a :: as).map fun a=>D.val (.ref a):=by simp
    rw [e2] at S₆
    exact S₆
theorem St.adoptL {env:Env}{X:List Addr}{s0 s s':Shared}{ps:Owns}(S:St h₀ sc env X s0 ω σ s) (n:Nx h₀ s s') (nd:(ps.map (·.1)).Nodup) (ha:∀ p ∈ ps,s.heap.get? p.1 = none) (hal:∀ p ∈ ps, ∃ o,s'.heap.get? p.1 = some o) (hc:∀ p ∈ ps,CnIs (ps.map (·.1) ++ X) s' p.1 p.2):St h₀ sc env (ps.map (·.1) ++ X) s0 (ps ++ ω) σ s':=by
  have T:=S.nx n
  have sub:∀ b ∈ X,b ∈ ps.map (·.1) ++ X:=fun b hb=>List.mem_append_right _ hb
  have isn:∀ b ∈ ps.map (·.1),s.heap.get? b = none:=fun b hb=>by obtain ⟨p,hp,e⟩:=List.mem_map.mp hb; exact e ▸ ha p hp
  have up:∀ v d,R X s.heap v d → R (ps.map (·.1) ++ X) s'.heap v d:=fun v d r=>(r.weak (X:=X) (Y:=ps.map (·.1) ++ X) fun b hb ⟨o,e⟩=>(List.mem_append.mp hb).elim (fun q=>by rw [isn b q] at e; cases e) id).nx n (sub _ S.tabX)
  have upA:∀ v d,RAll X s.heap v d → RAll (ps.map (·.1) ++ X) s'.heap v d:=fun v d r=>(r.weak (X:=X) (Y:=ps.map (·.1) ++ X) fun b hb ⟨o,e⟩=>(List.mem_append.mp hb).elim (fun q=>by rw [isn b q] at e; cases e) id).nx n (sub _ S.tabX)
  refine ⟨T.ok,T.scope,T.glob,T.blt,T.base,T.gi,T.gi0, ?_, ?_,T.inj,sub _ T.locX,T.new,T.newc, ?_,sub _ T.tabX, ?_⟩
  · obtain ⟨m,hm,hv⟩:=S.ns
    refine ⟨m,ns_at hm fun o e=>n.1.get S.locne e,fun e he hk d hd=>?_⟩
    obtain ⟨v,h1,h2⟩:=hv e he hk d hd
    exact ⟨v,h1,up _ _ h2⟩
  · intro e he hk
    obtain ⟨c',ov,h1,h2,h3,h4⟩:=S.cell e he hk
    obtain ⟨ps',ht,_⟩:=S.gi.tab
    refine ⟨c',ov,h1,kaf h2 fun o e=>n.1.get (kaz h2 ht) e,sub _ h3,fun d hd=>?_⟩
    obtain ⟨v,e1,e2⟩:=h4 d hd
    exact ⟨v,e1,up _ _ e2⟩
  · intro b hb
    rcases List.mem_append.mp hb with hb | hb
    · obtain ⟨p,hp,e⟩:=List.mem_map.mp hb
      exact e ▸ hal p hp
    · exact T.alive b hb
  · have hnone:∀ b,s.heap.get? b = none → s0.heap.get? b = none:=fun b hb=>by
      cases q:s0.heap.get? b with
      | none=>rfl
      | some o =>
        by_cases ht:b = Tb
        · obtain ⟨ps,e,_⟩:=S.gi.tab
          rw [← ht,hb] at e; cases e
        · have:=S.base.get ht q
          rw [hb] at this; cases this
    refine ⟨?_,fun p hp=>?_⟩
    · rw [List.map_append,List.nodup_append]
      refine ⟨nd,S.owns.nd,fun a h1 b h2 e=>?_⟩
      subst e
      obtain ⟨p,hp,e⟩:=List.mem_map.mp h2
      obtain ⟨o,q⟩:=S.alive p.1 (S.owns.is p hp).1
      have e':p.1 = a:=e
      rw [e',isn a h1] at q; cases q
    · rcases List.mem_append.mp hp with hp | hp
      · exact ⟨List.mem_append_left _ (List.mem_map_of_mem hp),hnone _ (ha p hp),hc p hp⟩
      · obtain ⟨h1,h2,h3⟩:=S.owns.is p hp
        have hne:p.1 ≠ Tb:=fun q=>by
          obtain ⟨ps,e,_⟩:=S.gi0.tab
          rw [← q,h2] at e; cases e
        refine ⟨sub _ h1,h2, ?_⟩
        obtain ⟨b,c'⟩:=p
        cases c' with
        | lst ds=>obtain ⟨vs,q1,q2⟩:=h3; exact ⟨vs,q1.at fun o e=>n.1.get hne e,upA _ _ q2⟩
        | obj o=>exact ⟨n.1.get hne h3.1,h3.2⟩
theorem sx_rows {x:Str}{p spos pos:Pos}{scope:Scope}{elt:Expr}{g:Comprehension}{ds:List D}{row:List Int}{rest:List Stmt}{out:Out}{τ:List Addr → List Var}{σf:Option D → List Var}(hi:IterE w h₀ n sc ω σ g.iter ds) (ok:CompOk scope sc σ (σf none)) (asg:∀ d o ω,AsgR w h₀ n (relab scope sc) ω g.target d (σf o) (σf (some d))) (he:∀ d,EVP w h₀ n (relab scope sc) (σf (some d)) elt row) (hz:ds.length ≤ 1000)
    (U:∀ as,Upd σ x .loc (.list (as.map fun a=>.val (.ref a))) (τ as)) (hsw:∀ env:Env,env.scope = sc → swapsWith (.ListComp elt [g] scope pos) (some (.Name x p)) spos.line env = pure true)
    (h:∀ as:List Addr,as.length = ds.length → SX w h₀ n sc (as.map (rowOwn row) ++ ω) (τ as) rest out) (ha0:g.is_async = 0:=by rfl) (hifs:g.ifs = []:=by rfl) (hfs:∀ env x,foldedSetIterable g.iter env x = pure x:=by intro _ _; rfl):SX w h₀ n sc ω σ (.Assign [.Name x p] (.ListComp elt [g] scope pos) spos :: rest) out:=fun A env X s0 s Q E rm S hq=>by
  refine wpAny_execs_cons ?_
  rw [exec_Assign_Name_used _ _ _ _ (hsw env S.scope)]
  refine wpAny_bind (wpAny_standAt (wpAny_bind ?_))
  obtain ⟨gt,gi',gf,ga⟩:=g
  have ha:firstAsync [⟨gt,gi',gf,ga⟩] = false:=by
    show (ga != 0) = false
    simp only at ha0
    rw [ha0]; rfl
  show wpAny _ A (do let _ ← comprehension (cexp false elt [⟨gt,gi',gf,ga⟩] scope pos) scope env (firstIterPos [⟨gt,gi',gf,ga⟩] pos) (newAcc false) (firstAsync [⟨gt,gi',gf,ga⟩]) (eval gi' env) (some (assign (.Name x p) env))) _ _ s
  rw [ha]
  refine wpAny_bind (wpAny_mono (kf1 (Q:=fun _ s'=>wpAny (model prog w) A (execs rest env) Q E s') (use:=some (assign (.Name x p) env)) rm S hi ok (fun g' h=>by rw [List.mem_singleton.mp h]; exact ha0) (fun g' h=>by rw [List.mem_singleton.mp h]; exact hfs) ok.hloc fun I fp P Si o X' s₄ a C' cells hC ha' hne W al Sc gX hIX st hfp hit=>?_) (fun _ s' hq=>wpAny_pure (wpAny_pure hq)) fun _ _ e=>e)
  refine wp_compN (s0:=s) (all:=ds) (i:=0) (o:=o) (X:=X') (ω:=[]) (acc:=[]) (oo:=none) rm ha0 hifs asg he W al Sc gX hIX st (Nat.zero_le _) rfl hfp hit (by simpa using hz) fun as s' X₅ oo' hlen g₅ S₅=>?_
  obtain ⟨m,hn,_⟩:=S₅.ns
  have nx:Nx h₀ s s':=⟨S₅.base,S₅.gi⟩
  have haX:a ∉ X:=fun q=>by
    obtain ⟨oa,ea⟩:=S.alive _ q
    rw [ha'] at ea; cases ea
  have hCX:C' ∉ X:=fun q=>by
    obtain ⟨oc,ec⟩:=S.alive _ q
    rw [hC] at ec; cases ec
  have hnd:=S₅.owns.nd
  simp only [List.map_cons,List.append_nil,List.map_map,List.nodup_cons] at hnd
  have hids:(as.map (rowOwn row)).map (·.1) = as:=by rw [List.map_map]; exact List.map_id' as
  have hown:∀ b ∈ as,b ∈ X₅ ∧ s.heap.get? b = none ∧ CnIs X₅ s' b (.lst (row.map D.int)):=fun b hb=>S₅.owns.is (rowOwn row b) (.tail _ (List.mem_append_left _ (List.mem_map_of_mem hb)))
  have hasC:C' ∉ as:=fun q=>by
    obtain ⟨_,_,vs,hl,_⟩:=hown _ q
    exact kg2 hn _ hl.isList
  have haas:a ∉ as:=fun q=>hnd.1 (List.mem_map.mpr ⟨a,q,rfl⟩)
  have S₁:St h₀ sc env (as ++ X) s0 (as.map (rowOwn row) ++ ω) σ s':=by
    have:=S.adoptL (ps:=as.map (rowOwn row)) nx (by rw [hids]; have:=hnd.2; rw [show (Prod.fst ∘ rowOwn row) = id from rfl,List.map_id] at this; exact this) (fun p hp=>by
      obtain ⟨b,hb,rfl⟩:=List.mem_map.mp hp; exact (hown b hb).2.1) (fun p hp=>by
      obtain ⟨b,hb,rfl⟩:=List.mem_map.mp hp
      obtain ⟨_,_,vs,⟨k,hl⟩,_⟩:=hown b hb
      exact ⟨_,hl⟩) (fun p hp=>by
      obtain ⟨b,hb,rfl⟩:=List.mem_map.mp hp
      obtain ⟨_,_,vs,hl,r⟩:=hown b hb
      exact ⟨vs,hl,r.intsAny⟩)
    rwa [hids] at this
  obtain ⟨_,_,vs,hl,rs⟩:=S₅.owns.is _ (.head _)
  have haX1:a ∉ as ++ X:=fun q=>(List.mem_append.mp q).elim haas haX
  have r₁:R (as ++ X) s'.heap (.ref a) (.list (as.map fun a=>.val (.ref a))):=by
    refine .list hl haX1 ?_
    have:∀ (as:List Addr) (vs:List Value),RAll X₅ s'.heap vs (as.map fun a=>.val (.ref a)) → ∀ Y,RAll Y s'.heap vs (as.map fun a=>.val (.ref a)):=by
      intro as
      induction as with
      | nil=>intro vs r Y; cases r; exact .nil
      | cons b as ih =>
        intro vs r Y
        cases r with
        | cons r1 r2=>have:=r1.val_eq; subst this; exact .cons (.val _) (ih _ r2 Y)
    exact this as vs (by simpa using rs) _
  show wpAny _ A (assign (.Name x p) env (.ref a)) _ _ s'
  refine wpAny_assign_Name (S₁.store (U as) (by decide) r₁ fun s₂ g₂ S₂=>?_)
  have hCX1:C' ∉ as ++ X:=fun q=>(List.mem_append.mp q).elim hasC hCX
  have hLC:env.locals ≠ C':=fun q=>hCX (q ▸ S.locX)
  have hn₂:s₂.heap.Ns C' m:=ns_at hn fun o e=>g₂.keep _ _ hCX1 e
  have hC0:s0.heap.get? C' = none:=by
    cases q:s0.heap.get? C' with
    | none=>rfl
    | some o =>
      by_cases ht:C' = Tb
      · exact absurd (ht ▸ S.tabX) hCX
      · have:=S.base.get ht q
        rw [hC] at this; cases this
  refine ⟨m,hn₂,fun h' hs=>?_⟩
  have SF:St h₀ sc env ((C' :: (as ++ X)).filter (· != C')) s0 (as.map (rowOwn row) ++ ω) (τ as) { s₂ with heap:=h' } :=
    (S₂.hideNs hn₂).forget (tk:=s₂.toks) (.head _) hC0 hLC (fun e he hk c hc q=>by
      obtain ⟨c',_,q1,_,q3,_⟩:=S₂.cell e he hk
      rw [q1] at hc; cases hc
      exact hCX1 (q ▸ q3)) (fun q=>by
      obtain ⟨p,hp,e⟩:=List.mem_map.mp q
      exact hCX1 (e ▸ (S₂.owns.is p hp).1)) (fun b o hb e=>(hs.2 b hb).trans e) (kb7 hn₂)
  have gA:Grow X s (as ++ X) s':=by
    obtain ⟨h1,t1,e1,k1⟩:=nx.1
    exact ⟨⟨h1,t1,e1⟩,fun b o hb e=>nx.1.get (fun q=>hb (q ▸ S.tabX)) e,fun b hb=>List.mem_append_right _ hb,fun b hb=>(List.mem_append.mp hb).elim (fun q=>.inr (hown b q).2.1) .inl⟩
  have gF:Grow X s ((C' :: (as ++ X)).filter (· != C')) { s₂ with heap:=h' }:=by
    have gA:=gA.trans g₂
    obtain ⟨h1,t1,e1⟩:=gA.same
    refine ⟨⟨h',s₂.toks,by rw [e1]⟩,fun b o hb e=>(hs.2 b fun q=>by rw [q,hC] at e; cases e).trans (gA.keep b o hb e),fun b hb=>List.mem_filter.mpr ⟨.tail _ (List.mem_append_right _ hb),by simpa using fun q:b = C'=>hCX (q ▸ hb)⟩,fun b hb=>?_⟩
    obtain ⟨h2,h3⟩:=List.mem_filter.mp hb
    rcases List.mem_cons.mp h2 with q | q
    · exact absurd q (by simpa using h3)
    · exact gA.new b q
  exact h as hlen A env _ s0 _ Q E rm SF fun fl s₆ oo=>hq fl s₆ (oo.back gF)
end
end
section
section
variable {prog:Program}{w:World}{A:Around}{E:Value → Shared → Prop}{s:Shared}
theorem kfh {l:Addr}{items:Array Value}{k:Int}{t:Tok}{v:Value}{Q:Unit → Shared → Prop}(hl:s.heap.PlainList l items)
    (h0:0 ≤ k) (hfit:k < 2 ^ 63) (hn:k < items.size)
    (hQ:∀ h',h'.PlainList l (items.setIfInBounds k.toNat v) → Heap.SameBut l s.heap h' → Q () { s with heap:=h' }) :
    wpAny (model prog w) A (setItem (.ref l) (.int k t) v) Q E s:=by
  obtain ⟨ne,ho⟩:=id hl
  have hT:s.TypeIs (.ref l) "list" := ⟨_,ho,rfl⟩
  unfold setItem
  try with_reducible refine wpAny_holding ?_
  first | refine wpAny_bind (wpAny_pure ?_) | skip
  refine wpAny_bind (wpAny_sequenceKey hT (by decide) ?_)
  refine wpAny_bind (wpAny_callSpecial?_slot (name:=Str.ofString "__setitem__") hT slot_list_setitem
    (wpAny_call_entry slot_list_setitem hT entry_list_setitem ?_ (args_list_setitem _ _ _)))
  show wpAny _ _ (Builtin.List.listSubscript? (.int k t) >>= _) _ _ s
  refine wpAny_bind (wpAny_listSubscript_int (fitsIndex_of h0 hfit) ?_)
  clear hfit
  obtain ⟨j,rfl⟩:=Int.eq_ofNat_of_zero_le h0
  have hj:j < items.size:=by lia
  have hx':items[j]? = some items[j]:=Array.getElem?_eq_getElem hj
  show wpAny _ _ ((seqItemAt l j >>= fun r=>pure (r.map (j, ·))) >>= _) _ _ s
  refine wpAny_bind (wpAny_bind (wpAny_seqItemAt ho rfl (wpAny_pure ?_)))
  rw [hx']
  show wpAny _ _ (setSeqItemAt l j v >>= _) _ _ s
  have hfin:(s.heap.update l (Obj.mapSeq (·.setIfInBounds j v))).PlainList l (items.setIfInBounds j v):=⟨_,Heap.get?_update_self _ ho rfl⟩
  refine wpAny_bind (wpAny_setSeqItemAt ho rfl ?_)
  first
    | exact wpAny_bind (wpAny_pure (wpAny_pure ⟨.none,rfl,wpAny_pure (hQ _ hfin (Heap.SameBut.update ..))⟩))
    | exact wpAny_pure ⟨.none,rfl,wpAny_pure (hQ _ hfin (Heap.SameBut.update ..))⟩
end
section
variable {w:World}{h₀:Heap}{n:Nat}{sc:Scope}{ω ω':Owns}{σ σ':List Var}
theorem RAll.set {X:List Addr}{h:Heap}{vs:List Value}{ds:List D}{j:Nat}{v:Value}{d:D}(r:RAll X h vs ds) (hr:R X h v d):RAll X h (vs.set j v) (ds.set j d) :=
  r.ind (P:=fun vs ds=>∀ j,RAll X h (vs.set j v) (ds.set j d)) (fun _=>.nil) (fun h1 r ih j=>by cases j with | zero=>exact .cons hr r | succ j=>exact .cons h1 (ih j)) j
theorem kh4 {o i value:Expr}{p' pos:Pos}{a:Addr}{ds:List D}{j:Nat}{d:D}(hv:EV w h₀ n sc ω σ value d) (ho:EV w h₀ n sc ω σ o (.val (.ref a))) (hi:EV w h₀ n sc ω σ i (.int j)) (u:OUpd ω a (.lst ds) (.lst (ds.set j d)) ω') (hj:j < ds.length) (hz:ds.length ≤ 1000)
    (hs:∀ env,swapsWith value (some (.Subscript o i p')) pos.line env = pure false:=by intro _; rfl):SS w h₀ n sc ω σ (.Assign [.Subscript o i p'] value pos) (.next ω' σ):=fun A env X s0 s Q E rm S hq=>by
  refine wpAny_Assign_Subscript (hv A env X s0 s rm S _ _ fun v s₁ n₁ rv=>ho A env X s0 s₁ rm (S.nx n₁) _ _ fun vo s₂ n₂ ro=>hi A env X s0 s₂ rm (S.nx (n₁.trans n₂)) _ _ fun vi s₃ n₃ ri=>?_) (hs env)
  have:=ro.val_eq; subst this
  obtain ⟨t,rfl⟩:=ri.int_eq
  have S₃:=S.nx (n₁.trans (n₂.trans n₃))
  obtain ⟨vs,h1,h2⟩:=kc3 S₃ u.mem
  have hlen:=h2.length
  refine kfh h1 (by lia) (by lia) (by rw [List.size_toArray,hlen]; lia) fun h' hl hs=>?_
  have e:vs.toArray.setIfInBounds ((j:Int)).toNat v = (vs.set j v).toArray:=by rw [Int.toNat_natCast]; simp
  rw [e] at hl
  obtain ⟨S₄,g₄⟩:=S₃.turnList (tk:=s₃.toks) u hs hl (h2.set (rv.nx (n₂.trans n₃) S.tabX))
  exact hq _ _ ⟨X,(Grow.of_nx (n₁.trans (n₂.trans n₃)) S.tabX).trans g₄,S₄⟩
theorem ev_own_item {o slice:Expr}{a:Addr}{ds:List D}{d:D}{j:Int}{pos:Pos}(ho:EV w h₀ n sc ω σ o (.val (.ref a))) (hm:(a, .lst ds) ∈ ω) (hi:EV w h₀ n sc ω σ slice (.int j)) (h0:0 ≤ j) (hf:j < 2 ^ 63) (hd:ds[j.toNat]? = some d)
    (hsub:∀ o i,subscripted slice false o i = operate [o,i] (getItem o i):=by intro _ _; rfl):EV w h₀ n sc ω σ (.Subscript o slice pos) d:=fun A env X s0 s rm S Q E hq =>
  Subscript_ (ho A env X s0 s rm S _ _ fun va s₁ n₁ ra=>hi A env X s0 s₁ rm (S.nx n₁) _ _ fun vi s₂ n₂ ri=>by
    have:=ra.val_eq; subst this
    obtain ⟨t,rfl⟩:=ri.int_eq
    obtain ⟨vs,h1,h2⟩:=kc3 (S.nx (n₁.trans n₂)) hm
    obtain ⟨v,h3,h4⟩:=h2.get hd
    exact tail_any h1.isList.typeIs slot_list_getitem.lookup (wpAny_getItem_list h1.isList h0 hf (x:=v) (by rw [List.getElem?_toArray]; exact h3) (hq v s₂ (n₁.trans n₂) h4)) (hsub _ _))
theorem evp_mul {p1 p2 p3 p4:Pos}{k1 k2:Nat}{c m:Int}(h0:0 ≤ m) (hm:m ≤ 100):EVP w h₀ n sc σ (.BinOp (.List [.Constant (.int c) k1 p1] p2) .Mult (.Constant (.int m) k2 p3) p4) (List.replicate m.toNat c):=fun A env X s0 s ω Q E rm S h=>by
  refine wpAny_BinOp (kaj (w:=w) (n:=n) (.cons rfl ka7 .nil) (Nat.le_of_ble_eq_true rfl) A env X s0 s rm S _ _ fun v s₁ n₁ r=>ka7 A env X s0 s₁ rm (S.nx n₁) _ _ fun u s₂ n₂ ru=>?_)
  obtain ⟨t,rfl⟩:=ru.int_eq
  obtain ⟨l,vs,rfl,hl,hlX,rv⟩:=r.list_plain
  obtain ⟨v,rfl,r1⟩:=rv.one
  obtain ⟨t1,rfl⟩:=r1.int_eq
  have n12:=n₁.trans n₂
  have hlX':l ≠ Tb:=fun q=>hlX (q ▸ S.tabX)
  obtain ⟨k,hl⟩:=hl.at fun o e=>n₂.1.get hlX' e
  have e:List.foldl (fun (x1 x2:Array Value)=>x1 ++ x2) #[] (List.replicate (if ([Value.int c t1].toArray).isEmpty = true then 0 else m.toNat) [Value.int c t1].toArray) = (List.replicate m.toNat (Value.int c t1)).toArray:=by
    show List.foldl (fun (x1 x2:Array Value)=>x1 ++ x2) #[] (List.replicate m.toNat #[Value.int c t1]) = _
    have:∀ (k:Nat) (acc:List Value),List.foldl (fun (x1 x2:Array Value)=>x1 ++ x2) acc.toArray (List.replicate k #[Value.int c t1]) = (acc ++ List.replicate k (Value.int c t1)).toArray:=by
      intro k
      induction k with
      | zero=>intro acc; simp
      | succ k ih =>
        intro acc
        rw [List.replicate_succ,List.foldl_cons]
        have:acc.toArray ++ #[Value.int c t1] = (acc ++ [Value.int c t1]).toArray:=by simp
        rw [this,ih,List.replicate_succ]; simp
    simpa using this m.toNat []
  refine wpAny_binaryOp_repeat_ref (T := "list") (U := "int") (by decide) ⟨_,hl,rfl⟩ (fun s'=>typeIs_int s' m t) noFill_list_mul F.fills_int_mul F.slot_int_rmul repeat_list F.slot_int_index.lookup
    (call_meets F.slot_int_rmul (typeIs_int s₂ m t) F.entry_int_rmul (F.args_int_rmul_2 _ _) (int___rmul___int_list m t l [Value.int c t1].toArray k)
      ⟨hl,rfl,⟨_,hl,rfl⟩,call_meets F.slot_list_mul ⟨_,hl,rfl⟩ F.entry_list_mul (F.args_list_mul_2 _ _)
        (AutoListH.list___mul___list_int_3 l [Value.int c t1].toArray k m t (by simp [Builtin.List.listFitsIndex]; lia) (by simp; lia) (by simp [Builtin.List.listTooLong,sizeLine]; lia))
        ⟨hl, ?_⟩⟩)
  have n₃:Nx h₀ s₂ { s₂ with heap:=s₂.heap.push { cls:=.type "list",data:=.seq (List.replicate m.toNat (Value.int c t1)).toArray } }:=.push n12.2 _ _
  have hn:s.heap.get? s₂.heap.objs.size = none:=n12.back (Heap.get?_none_of_le (Nat.le_refl _))
  have key:=h s₂.heap.objs.size (List.replicate m.toNat (Value.int c t1)) _ (n12.trans n₃) hn ⟨0,Heap.get?_push_size _ rfl⟩ (by
    have:∀ k:Nat,RAll [] (s₂.heap.push { cls:=.type "list",data:=.seq (List.replicate m.toNat (Value.int c t1)).toArray }) (List.replicate k (Value.int c t1)) ((List.replicate k c).map D.int):=by
      intro k
      induction k with
      | zero=>exact .nil
      | succ k ih=>rw [List.replicate_succ,List.replicate_succ,List.map_cons]; exact .cons (.int _ _) ih
    exact this _)
  rw [← e] at key
  exact key
noncomputable abbrev tabOwn (as:List Addr) (rows:List (List Int)):Owns:=(as.zip rows).map fun p=>rowOwn p.2 p.1
theorem tab_mem:∀ {as:List Addr}{rows:List (List Int)}{k:Nat}{a:Addr}{row:List Int},as[k]? = some a → rows[k]? = some row → rowOwn row a ∈ tabOwn as rows
  | [],_,_,_,_,h,_=>by simp at h
  | _ :: _,[],_,_,_,_,h=>by simp at h
  | x :: as,r :: rows,0,a,row,h1,h2=>by simp at h1 h2; subst h1; subst h2; exact .head _
  | x :: as,r :: rows,k + 1,a,row,h1,h2=>.tail _ (tab_mem (by simpa using h1) (by simpa using h2))
theorem kkk:∀ {as:List Addr}{rows:List (List Int)}{k:Nat}{a:Addr}{row row':List Int},as[k]? = some a → rows[k]? = some row → OUpd (tabOwn as rows) a (.lst (row.map D.int)) (.lst (row'.map D.int)) (tabOwn as (rows.set k row'))
  | [],_,_,_,_,_,h,_=>by simp at h
  | _ :: _,[],_,_,_,_,_,h=>by simp at h
  | x :: as,r :: rows,0,a,row,row',h1,h2=>by simp at h1 h2; subst h1; subst h2; exact .z
  | x :: as,r :: rows,k + 1,a,row,row',h1,h2=>.s (kkk (by simpa using h1) (by simpa using h2))
theorem St.retype2 {env:Env}{X:List Addr}{s0 s:Shared}{x:Str}{k:VK}{d₀ d:D}(S:St h₀ sc env X s0 ω σ s) (hx:Has σ x k d₀) (U:Upd σ x k d σ') (r:∀ v,R X s.heap v d₀ → R X s.heap v d):St h₀ sc env X s0 ω σ' s:=by
  have hm:=hx.mem
  refine { S with ok:=by rw [U.names]; exact S.ok,ns:=?_,cell:=?_,newc:=?_ }
  · obtain ⟨m,hm',hv⟩:=S.ns
    refine ⟨m,hm',fun e he hk d' hd'=>?_⟩
    rcases U.mem S.nd he with rfl | ⟨h1,_⟩
    · cases hd'
      obtain ⟨u,h1,h2⟩:=hv _ hm hk _ rfl
      exact ⟨_,h1,r _ h2⟩
    · exact hv e h1 hk d' hd'
  · intro e he hk
    rcases U.mem S.nd he with rfl | ⟨h1,_⟩
    · obtain ⟨c,ov,q1,q2,q3,q4⟩:=S.cell _ hm hk
      refine ⟨c,ov,q1,q2,q3,fun d' hd'=>?_⟩
      cases hd'
      obtain ⟨u,h1,h2⟩:=q4 _ rfl
      exact ⟨_,h1,r _ h2⟩
    · exact S.cell e h1 hk
  · intro e he hk
    rcases U.mem S.nd he with rfl | ⟨h1,_⟩
    · exact fun c hc=>S.newc ⟨x,k,some d₀⟩ hm hk c hc
    · exact S.newc e h1 hk
theorem St.eraseL {env:Env}{s0 s:Shared} : ∀ {ps:Owns}{X:List Addr},(∀ p ∈ ps, ∃ ds,p.2 = .lst ds) → St h₀ sc env X s0 (ps ++ ω) σ s → ∃ X',St h₀ sc env X' s0 ω σ s ∧ (∀ b ∈ X',b ∈ X) ∧ (∀ p ∈ ps,p.1 ∉ X') ∧ ∀ b ∈ X,b ∉ ps.map (·.1) → b ∈ X'
  | [],X,_,S=>⟨X,S,fun _ h=>h,(fun p hp=>by cases hp),fun b hb _=>hb⟩
  | p :: ps,X,hl,S=>by
    obtain ⟨a,c⟩:=p
    obtain ⟨ds,hc⟩:=hl _ (.head _)
    simp only at hc; subst hc
    obtain ⟨_,_,vs,h1,h2⟩:=S.owns.is (a, .lst ds) (.head _)
    have S₁:St h₀ sc env (X.filter (· != a)) s0 (ps ++ ω) σ s:=S.erase (h':=s.heap) (tk:=s.toks) (fun b o _ e=>e) (kbc h1)
    obtain ⟨X',S',k1,k2,k3⟩:=S₁.eraseL (fun p hp=>hl p (.tail _ hp))
    refine ⟨X',S',fun b hb=>(List.mem_filter.mp (k1 b hb)).1,fun p hp=>?_,fun b hb hn=>k3 b (List.mem_filter.mpr ⟨hb, ?_⟩) ?_⟩
    · rcases List.mem_cons.mp hp with rfl | hp
      · exact fun q=>by simpa using (List.mem_filter.mp (k1 _ q)).2
      · exact k2 p hp
    · simp only [List.map_cons,List.mem_cons,not_or] at hn; simpa using hn.1
    · simp only [List.map_cons,List.mem_cons,not_or] at hn; exact hn.2
theorem sx_freezeT {x:Str}{k:VK}{as:List Addr}{rows:List (List Int)}{rest:List Stmt}{r:D}(hx:Has σ x k (.list (as.map fun a=>.val (.ref a)))) (hlen:as.length = rows.length) (U:Upd σ x k (TbD rows) σ') (h:SX w h₀ n sc ω σ' rest (.ret r)):SX w h₀ n sc (tabOwn as rows ++ ω) σ rest (.ret r):=fun A env X s0 s Q E rm S hq=>by
  obtain ⟨X',S₁,k1,k2,k3⟩:=S.eraseL (fun p hp=>by obtain ⟨q,_,rfl⟩:=List.mem_map.mp hp; exact ⟨_,rfl⟩)
  have conv:∀ (as:List Addr) (rows:List (List Int)) (vs:List Value),as.length = rows.length → (∀ p ∈ tabOwn as rows,p.1 ∉ X' ∧ CnIs X s p.1 p.2) → RAll X' s.heap vs (as.map fun a=>.val (.ref a)) → RAll X' s.heap vs (rows.map IsD):=by
    intro as
    induction as with
    | nil=>intro rows vs hl _ r; cases rows with | nil=>cases r; exact .nil | cons _ _=>simp at hl
    | cons a as ih =>
      intro rows vs hl hp r
      cases rows with
      | nil=>simp at hl
      | cons row rows =>
        cases r with
        | cons r1 r2 =>
          have:=r1.val_eq; subst this
          obtain ⟨q1,us,q2,q3⟩:=hp (rowOwn row a) (.head _)
          exact .cons (.list q2 q1 q3.intsAny) (ih rows _ (by simpa using hl) (fun p hp'=>hp p (.tail _ hp')) r2)
  have S₂:=S₁.retype2 hx U fun v rv=>by
    obtain ⟨t,vs,rfl,hl,htX,rs⟩:=rv.list_plain
    exact .list hl htX (conv as rows vs hlen (fun p hp=>⟨k2 p hp,(S.owns.is p (List.mem_append_left _ hp)).2.2⟩) rs)
  refine h A env X' s0 s Q E rm S₂ fun fl s' oo=>hq fl s' ?_
  cases fl with
  | ret v =>
    obtain ⟨q1,q2,Y,q3,q4⟩:=oo
    refine ⟨q1,q2,Y,fun b hb ⟨o,ho⟩=>q3 b (k3 b hb fun q=>?_) ⟨o,ho⟩,q4⟩
    obtain ⟨p,hp,e⟩:=List.mem_map.mp q
    have hn:s0.heap.get? p.1 = none:=(S.owns.is p (List.mem_append_left _ hp)).2.1
    have e':p.1 = b:=e
    rw [e',ho] at hn; cases hn
  | _=>exact oo.elim
end
end
section
noncomputable def pT (places:List (List Nat)) (k:Nat):List Nat:=places.getD k []
noncomputable def distT (b:Bool) (kk:Nat) (places:List (List Nat)) (k j:Nat):Int :=
  (depthT b kk (pT places k):Int) + (depthT b kk (pT places j):Int) - 2 * (depthT b kk (commonT b (pT places k) (pT places j)):Int)
noncomputable def okTable (b:Bool) (kk:Nat) (places:List (List Nat)):Prop :=
  places.length = 5 ∧ (∀ p ∈ places,okTxB b p = true ∧ okClimb b kk p = true) ∧ ∀ p ∈ places, ∀ q ∈ places,okCommon b p q = true ∧ okTxB b (commonT b p q) = true ∧ okClimb b kk (commonT b p q) = true
noncomputable def storeT (D:Nat → Nat → Int) (rows:List (List Int)) (k j:Nat):List (List Int) :=
  (rows.set k ((rows.getD k []).set j (D k j))).set j (((rows.set k ((rows.getD k []).set j (D k j))).getD j []).set k (D k j))
noncomputable def tableT (D:Nat → Nat → Int):List (List Int):=(List.range 5).foldl (fun rows k=>(List.range k).foldl (fun rows j=>storeT D rows k j) rows) (List.replicate 5 (List.replicate 5 0))
noncomputable def sq5 (rows:List (List Int)):Prop:=rows.length = 5 ∧ ∀ r ∈ rows,r.length = 5
theorem sq5.at {rows:List (List Int)}(h:sq5 rows) {k:Nat}(hk:k < 5):rows[k]? = some (rows.getD k []) ∧ (rows.getD k []).length = 5:=by
  have hl:k < rows.length:=by rw [h.1]; exact hk
  have e:rows.getD k [] = rows[k]:=by rw [List.getD_eq_getElem?_getD,List.getElem?_eq_getElem hl]; rfl
  rw [List.getElem?_eq_getElem hl,e]
  exact ⟨rfl,h.2 _ (List.getElem_mem hl)⟩
theorem sq5.set {rows:List (List Int)}(h:sq5 rows) {k:Nat}{row:List Int}(hr:row.length = 5):sq5 (rows.set k row) :=
  ⟨by rw [List.length_set]; exact h.1,fun r hm=>(List.mem_or_eq_of_mem_set hm).elim (h.2 r) fun e=>e ▸ hr⟩
theorem sq5.store {D:Nat → Nat → Int}{rows:List (List Int)}(h:sq5 rows) {k j:Nat}(hk:k < 5) (hj:j < 5):sq5 (storeT D rows k j):=by
  have h1:=h.set (k:=k) (row:=(rows.getD k []).set j (D k j)) (by rw [List.length_set]; exact (h.at hk).2)
  exact h1.set (by rw [List.length_set]; exact (h1.at hj).2)
theorem as_at {as:List Addr}(h:as.length = 5) {k:Nat}(hk:k < 5):as[k]? = some (as.getD k 0):=by
  have hl:k < as.length:=by rw [h]; exact hk
  rw [List.getD_eq_getElem?_getD,List.getElem?_eq_getElem hl]; rfl
section
variable {w:World}{h₀:Heap}(G:Gr w h₀)
include G
theorem f_table {b:Bool}{kk:Nat}{places:List (List Nat)}(hok:okTable b kk places):CallR w h₀ 9 (.ref 207) [.list (places.map (tx b))] (TbD (tableT (distT b kk places))):=by
  obtain ⟨hlen,hp,hc⟩:=hok
  have pat:∀ k,k < 5 → (places.map (tx b))[k]? = some (tx b (pT places k)) ∧ pT places k ∈ places:=fun k hk=>by
    have hl:k < places.length:=by rw [hlen]; exact hk
    have e:pT places k = places[k]:=by unfold pT; rw [List.getD_eq_getElem?_getD,List.getElem?_eq_getElem hl]; rfl
    rw [List.getElem?_map,List.getElem?_eq_getElem hl,e]; exact ⟨rfl,List.getElem_mem hl⟩
  refine kaq (vars:=[("places", .loc),("depths", .loc),("table", .loc),("k", .loc),("j", .loc)]) ⟨⟨_,G.K 207 _ rfl,rfl⟩,rfl,rfl,rfl,rfl,⟨_,_,_,_,rfl,G.K _ _ rfl,rfl,rfl⟩,rfl,rfl,G.lim,by decide +kernel,rfl⟩ (kaa (len1 fun _=>?_)) ?_
  · rfl
  refine ka5 (kai (acc':=places.map fun p=>D.int (depthT b kk p)) (.of (ka0 .z) kae) (CompOk.of (σc:=[⟨"place", .loc,none⟩]) [("places", .loc),("depths", .loc),("table", .loc),("k", .loc),("j", .loc)] [("place", .loc)] (by decide +kernel) (.own (by decide) .nil) rfl rfl) ?_ (by rw [List.length_map]; lia) (.s .z) (sw_ok (by decide +kernel))) ?_
  · exact CL.mp (σ:=fun (o:Option (List Nat))=>[⟨"place", .loc,o.map (tx b)⟩]) (it:=tx b) (f:=fun p=>D.int (depthT b kk p)) places (fun o c ω=>kac .z) rfl fun p hm ω=>ka8 (ka3 (kd2 G) (by decide +kernel)) (kgi G) (.cons rfl (ka0 .z) .nil) ((f_depth (k:=kk) G (hp p hm).2).mono (by decide))
  refine sx_rows (row:=List.replicate 5 0) (σf:=fun o=>[⟨"place", .loc,o⟩]) (.of (ka0 .z) kae) (CompOk.of (σc:=[⟨"place", .loc,none⟩]) [("places", .loc),("depths", .loc),("table", .loc),("k", .loc),("j", .loc)] [("place", .loc)] (by decide +kernel) (.own (by decide) .nil) rfl rfl) (fun d o ω=>kac .z) (fun d=>evp_mul (by decide) (by decide)) (by rw [List.length_map]; lia) (fun as=>.s (.s .z)) (sw_ok (by decide +kernel)) fun as has=>?_
  rw [List.length_map,hlen] at has
  have hstart:as.map (rowOwn (List.replicate 5 0)) ++ [] = tabOwn as (List.replicate 5 (List.replicate 5 0)) ++ [] :=
    len5 (P:=fun as=>as.map (rowOwn (List.replicate 5 0)) ++ [] = tabOwn as (List.replicate 5 (List.replicate 5 0)) ++ []) (fun _ _ _ _ _=>rfl) as has
  rw [hstart]
  have dat:∀ k,k < 5 → (places.map fun p=>D.int (depthT b kk p))[k]? = some (.int (depthT b kk (pT places k))):=fun k hk=>by
    have hl:k < places.length:=by rw [hlen]; exact hk
    have e:pT places k = places[k]:=by unfold pT; rw [List.getD_eq_getElem?_getD,List.getElem?_eq_getElem hl]; rfl
    rw [List.getElem?_map,List.getElem?_eq_getElem hl,e]; rfl
  have tat:∀ k,k < 5 → (as.map fun a=>D.val (.ref a))[k]? = some (.val (.ref (as.getD k 0))):=fun k hk=>by
    rw [List.getElem?_map,as_at has hk]; rfl
  have res:tableT (distT b kk places) = (List.foldl (fun (st:List (List Int) × Option D × Option D) (k:Nat)=>((List.foldl (fun (q:List (List Int) × Option D) (j:Nat)=>(storeT (distT b kk places) q.1 k j,some (D.int (0 + (j:Int))))) (st.1,st.2.2) (List.range k)).1,some (D.int (0 + (k:Int))),(List.foldl (fun (q:List (List Int) × Option D) (j:Nat)=>(storeT (distT b kk places) q.1 k j,some (D.int (0 + (j:Int))))) (st.1,st.2.2) (List.range k)).2)) (List.replicate 5 (List.replicate 5 0),none,none) (List.range 5)).1:=by
    have e0:∀ (k:Nat) (js:List Nat) (rows:List (List Int)) (o:Option D),(js.foldl (fun (q:List (List Int) × Option D) (j:Nat)=>(storeT (distT b kk places) q.1 k j,some (D.int (0 + (j:Int))))) (rows,o)).1 = js.foldl (fun rows j=>storeT (distT b kk places) rows k j) rows:=by
      intro k js
      induction js with
      | nil=>intro _ _; rfl
      | cons j js ih=>intro rows o; rw [List.foldl_cons,List.foldl_cons]; exact ih _ _
    have e1:∀ (ks:List Nat) (st:List (List Int) × Option D × Option D),(ks.foldl (fun (st:List (List Int) × Option D × Option D) (k:Nat)=>((List.foldl (fun (q:List (List Int) × Option D) (j:Nat)=>(storeT (distT b kk places) q.1 k j,some (D.int (0 + (j:Int))))) (st.1,st.2.2) (List.range k)).1,some (D.int (0 + (k:Int))),(List.foldl (fun (q:List (List Int) × Option D) (j:Nat)=>(storeT (distT b kk places) q.1 k j,some (D.int (0 + (j:Int))))) (st.1,st.2.2) (List.range k)).2)) st).1 = ks.foldl (fun rows k=>(List.range k).foldl (fun rows j=>storeT (distT b kk places) rows k j) rows) st.1:=by
      intro ks
      induction ks with
      | nil=>intro _; rfl
      | cons k ks ih=>intro st; rw [List.foldl_cons,List.foldl_cons,ih]; congr 1; exact e0 _ _ _ _
    rw [e1,tableT]
  rw [res]
  have sq0:sq5 (List.replicate 5 (List.replicate 5 (0:Int))):=by
    refine ⟨rfl,fun r hr=>?_⟩
    rw [List.eq_of_mem_replicate hr]; rfl
  have inv:sq5 (List.foldl (fun (st:List (List Int) × Option D × Option D) (k:Nat)=>((List.foldl (fun (q:List (List Int) × Option D) (j:Nat)=>(storeT (distT b kk places) q.1 k j,some (D.int (0 + (j:Int))))) (st.1,st.2.2) (List.range k)).1,some (D.int (0 + (k:Int))),(List.foldl (fun (q:List (List Int) × Option D) (j:Nat)=>(storeT (distT b kk places) q.1 k j,some (D.int (0 + (j:Int))))) (st.1,st.2.2) (List.range k)).2)) (List.replicate 5 (List.replicate 5 0),none,none) (List.range 5)).1:=by
    rw [← res]
    have a0:∀ (k:Nat),k < 5 → ∀ (js:List Nat),(∀ j ∈ js,j < 5) → ∀ rows,sq5 rows → sq5 (js.foldl (fun rows j=>storeT (distT b kk places) rows k j) rows):=by
      intro k hk js
      induction js with
      | nil=>intro _ rows h; exact h
      | cons j js ih=>intro hj rows h; rw [List.foldl_cons]; exact ih (fun i hi=>hj i (.tail _ hi)) _ (h.store hk (hj j (.head _)))
    have a1:∀ (ks:List Nat),(∀ k ∈ ks,k < 5) → ∀ rows,sq5 rows → sq5 (ks.foldl (fun rows k=>(List.range k).foldl (fun rows j=>storeT (distT b kk places) rows k j) rows) rows):=by
      intro ks
      induction ks with
      | nil=>intro _ rows h; exact h
      | cons k ks ih=>intro hk rows h; rw [List.foldl_cons]; exact ih (fun i hi=>hk i (.tail _ hi)) _ (a0 k (hk k (.head _)) _ (fun j hj=>Nat.lt_trans (List.mem_range.mp hj) (hk k (.head _))) _ h)
    exact a1 _ (fun k hk=>List.mem_range.mp hk) _ sq0
  refine ka5 (kdt (kb1 (m:=5) (kbo G) (by decide +kernel) ka7 (by decide)) (FL.fold (fun (st:List (List Int) × Option D × Option D)=>tabOwn as st.1 ++ []) (fun st=>[⟨"places", .loc,some (.list (places.map (tx b)))⟩,⟨"depths", .loc,some (.list (places.map fun p=>D.int (depthT b kk p)))⟩,⟨"table", .loc,some (.list (as.map fun a=>.val (.ref a)))⟩,⟨"k", .loc,st.2.1⟩,⟨"j", .loc,st.2.2⟩])
    (fun (st:List (List Int) × Option D × Option D) (k:Nat)=>((List.foldl (fun (q:List (List Int) × Option D) (j:Nat)=>(storeT (distT b kk places) q.1 k j,some (D.int (0 + (j:Int))))) (st.1,st.2.2) (List.range k)).1,some (D.int (0 + (k:Int))),(List.foldl (fun (q:List (List Int) × Option D) (j:Nat)=>(storeT (distT b kk places) q.1 k j,some (D.int (0 + (j:Int))))) (st.1,st.2.2) (List.range k)).2)) (fun (k:Nat)=>D.int (0 + (k:Int))) (fun _ st=>sq5 st.1) (List.range 5) 0 (List.replicate 5 (List.replicate 5 0),none,none) sq0 ?_)) ?_
  · intro k' st k hk hI
    obtain ⟨rows,o1,o2⟩:=st
    have hk5:k < 5:=List.mem_range.mp (List.mem_of_getElem? hk)
    have hI':sq5 rows:=hI
    have innerInv:∀ (js:List Nat),(∀ j ∈ js,j < 5) → ∀ (rows:List (List Int)) (o:Option D),sq5 rows → sq5 (js.foldl (fun (q:List (List Int) × Option D) (j:Nat)=>(storeT (distT b kk places) q.1 k j,some (D.int (0 + (j:Int))))) (rows,o)).1:=by
      intro js
      induction js with
      | nil=>intro _ rows o h; exact h
      | cons j js ih=>intro hj rows o h; rw [List.foldl_cons]; exact ih (fun i hi=>hj i (.tail _ hi)) _ _ (h.store hk5 (hj j (.head _)))
    refine ⟨innerInv (List.range k) (fun j hj=>Nat.lt_trans (List.mem_range.mp hj) hk5) rows o2 hI',[⟨"places", .loc,some (.list (places.map (tx b)))⟩,⟨"depths", .loc,some (.list (places.map fun p=>D.int (depthT b kk p)))⟩,⟨"table", .loc,some (.list (as.map fun a=>.val (.ref a)))⟩,⟨"k", .loc,some (.int (0 + (k:Int)))⟩,⟨"j", .loc,o2⟩],fun p=>kac (.s (.s (.s .z))), .inl fun p=>?_⟩
    refine ka4 (kdt (kb1 (m:=k) (kbo G) (by decide +kernel) (EV.cast (by rw [Int.zero_add]) (ka0 (.s (.s (.s .z))))) (by lia)) ?_)
    refine FL.fold (fun (q:List (List Int) × Option D)=>p :: (tabOwn as q.1 ++ [])) (fun q=>[⟨"places", .loc,some (.list (places.map (tx b)))⟩,⟨"depths", .loc,some (.list (places.map fun p=>D.int (depthT b kk p)))⟩,⟨"table", .loc,some (.list (as.map fun a=>.val (.ref a)))⟩,⟨"k", .loc,some (.int (0 + (k:Int)))⟩,⟨"j", .loc,q.2⟩])
      (fun (q:List (List Int) × Option D) (j:Nat)=>(storeT (distT b kk places) q.1 k j,some (D.int (0 + (j:Int))))) (fun (j:Nat)=>D.int (0 + (j:Int))) (fun _ q=>sq5 q.1) (List.range k) 0 (rows,o2) hI' ?_
    intro j' q j hj hJ
    obtain ⟨rows,o⟩:=q
    have hJ':sq5 rows:=hJ
    have hjk:j < k:=List.mem_range.mp (List.mem_of_getElem? hj)
    have hj5:j < 5:=by lia
    refine ⟨hJ'.store hk5 hj5,[⟨"places", .loc,some (.list (places.map (tx b)))⟩,⟨"depths", .loc,some (.list (places.map fun p=>D.int (depthT b kk p)))⟩,⟨"table", .loc,some (.list (as.map fun a=>.val (.ref a)))⟩,⟨"k", .loc,some (.int (0 + (k:Int)))⟩,⟨"j", .loc,some (.int (0 + (j:Int)))⟩],fun p=>kac (.s (.s (.s (.s .z)))), .inl fun p'=>?_⟩
    have tn:∀ i:Nat,(0 + (i:Int)).toNat = i:=fun i=>by lia
    have zn:∀ i:Nat,D.int (0 + (i:Int)) = .int (i:Int):=fun i=>by rw [Int.zero_add]
    have h1:=hJ'.set (k:=k) (row:=(rows.getD k []).set j (distT b kk places k j)) (by rw [List.length_set]; exact (hJ'.at hk5).2)
    generalize hr1:rows.set k ((rows.getD k []).set j (distT b kk places k j)) = rows1 at h1
    have hst:storeT (distT b kk places) rows k j = rows1.set j ((rows1.getD j []).set k (distT b kk places k j)):=by unfold storeT; rw [hr1]
    show SX _ _ _ _ _ _ _ (.next (p' :: p :: (tabOwn as (storeT (distT b kk places) rows k j) ++ [])) _)
    rw [hst]
    -- the value
    obtain ⟨q1,q2⟩:=pat k hk5
    obtain ⟨q3,q4⟩:=pat j hj5
    obtain ⟨c1,c2,c3⟩:=hc _ q2 _ q4
    refine ka5 (ω':=p' :: p :: (tabOwn as rows1 ++ [])) (kh4 (a:=as.getD k 0) (ds:=(rows.getD k []).map D.int) (j:=j) (d:=.int (distT b kk places k j)) ?_ (kao (ka0 (.s (.s .z))) (ka0 (.s (.s (.s .z)))) (kah (d:=.val (.ref (as.getD k 0))) (by lia) (by lia) (by rw [tn]; exact tat k hk5))) (EV.cast (zn j) (ka0 (.s (.s (.s (.s .z)))))) ?_ ?_ ?_) (ka4 (kh4 (a:=as.getD j 0) (ds:=(rows1.getD j []).map D.int) (j:=k) (d:=.int (distT b kk places k j)) ?_ (kao (ka0 (.s (.s .z))) (ka0 (.s (.s (.s (.s .z))))) (kah (d:=.val (.ref (as.getD j 0))) (by lia) (by lia) (by rw [tn]; exact tat j hj5))) (EV.cast (zn k) (ka0 (.s (.s (.s .z))))) ?_ ?_ ?_))
    · exact kad (kad (kao (ka0 (.s .z)) (ka0 (.s (.s (.s .z)))) (kah (by lia) (by lia) (by rw [tn]; exact dat k hk5))) (kao (ka0 (.s .z)) (ka0 (.s (.s (.s (.s .z))))) (kah (by lia) (by lia) (by rw [tn]; exact dat j hj5))) kal)
        (kad ka7 (ka8 (ka3 (kd2 G) (by decide +kernel)) (kgi G) (.cons rfl (ka8 (ka3 (ke3 G) (by decide +kernel)) (kdg G) (.cons rfl (kaj (.cons rfl (kao (ka0 .z) (ka0 (.s (.s (.s .z)))) (kah (by lia) (by lia) (by rw [tn]; exact q1))) (.cons rfl (kao (ka0 .z) (ka0 (.s (.s (.s (.s .z))))) (kah (by lia) (by lia) (by rw [tn]; exact q3))) .nil))) .nil) (kfc G c1)) .nil) ((f_depth (k:=kk) G c3).mono (by decide))) (kgl (IntMulOk.of_left (by decide +kernel)))) kcq
    · rw [← hr1, ← List.map_set,List.append_nil,List.append_nil]
      exact .s (.s (kkk (as_at has hk5) (hJ'.at hk5).1))
    · rw [List.length_map,(hJ'.at hk5).2]; exact hj5
    · rw [List.length_map,(hJ'.at hk5).2]; decide
    · refine ev_own_item (a:=as.getD k 0) (ds:=(rows1.getD k []).map D.int) (kao (ka0 (.s (.s .z))) (ka0 (.s (.s (.s .z)))) (kah (d:=.val (.ref (as.getD k 0))) (by lia) (by lia) (by rw [tn]; exact tat k hk5))) ?_ (ka0 (.s (.s (.s (.s .z))))) (by lia) (by lia) ?_
      · rw [List.append_nil]
        exact .tail _ (.tail _ (tab_mem (as_at has hk5) (h1.at hk5).1))
      · rw [tn]
        have e:rows1.getD k [] = (rows.getD k []).set j (distT b kk places k j):=by
          rw [← hr1,List.getD_eq_getElem?_getD,List.getElem?_set_self (by rw [hJ'.1]; exact hk5)]; rfl
        rw [e,List.getElem?_map,List.getElem?_set_self (by rw [(hJ'.at hk5).2]; exact hj5)]; rfl
    · rw [← List.map_set,List.append_nil,List.append_nil]
      exact .s (.s (kkk (as_at has hj5) (h1.at hj5).1))
    · rw [List.length_map,(h1.at hj5).2]; exact hk5
    · rw [List.length_map,(h1.at hj5).2]; decide
  · generalize (List.foldl (fun (st:List (List Int) × Option D × Option D) (k:Nat)=>((List.foldl (fun (q:List (List Int) × Option D) (j:Nat)=>(storeT (distT b kk places) q.1 k j,some (D.int (0 + (j:Int))))) (st.1,st.2.2) (List.range k)).1,some (D.int (0 + (k:Int))),(List.foldl (fun (q:List (List Int) × Option D) (j:Nat)=>(storeT (distT b kk places) q.1 k j,some (D.int (0 + (j:Int))))) (st.1,st.2.2) (List.range k)).2)) (List.replicate 5 (List.replicate 5 0),none,none) (List.range 5)) = st at inv ⊢
    obtain ⟨rows,o1,o2⟩:=st
    exact sx_freezeT (rows:=rows) (.s (.s .z)) (by rw [has]; exact inv.1.symm) (.s (.s .z)) (ka4 (kab (ka0 (.s (.s .z)))))
theorem cal_table:Cal h₀ (.ref 207):=.inr (.inr ⟨_,_,_,rfl,G.K 207 _ rfl,rfl⟩)
end
end
section
theorem GI.down {h₀ h₁:Heap}{s:Shared}(G:GI h₁ s) (k:∀ b o,h₀.get? b = some o → h₁.get? b = some o):GI h₀ s :=
  ⟨fun b o e=>G.keep b o (k b o e),G.tab,by
    cases q:h₀.get? Tb with
    | none=>rfl
    | some o=>have:=k _ _ q; rw [G.off] at this; cases this⟩
theorem Nx.down {h₀ h₁:Heap}{s s':Shared}(n:Nx h₁ s s') (k:∀ b o,h₀.get? b = some o → h₁.get? b = some o):Nx h₀ s s':=⟨n.1,n.2.down k⟩
theorem Gr.up {w:World}{h₀ h₁:Heap}(G:Gr w h₀) (k:∀ b o,h₀.get? b = some o → h₁.get? b = some o):Gr w h₁ :=
  ⟨fun a o e=>k _ _ (G.K a o e),let ⟨mg,h⟩:=G.g; ⟨mg,h.keeps k⟩,let ⟨mb,h,q⟩:=G.b; ⟨mb,h.keeps k,q⟩,G.lim.keeps k,let ⟨o,h,q⟩:=G.bm; ⟨o,k _ _ h,q⟩⟩
noncomputable def snap (s:Shared):Heap:=s.heap.hide Tb
theorem kbn {s:Shared}{b:Addr}{o:Obj}(hb:b ≠ Tb) (h:s.heap.get? b = some o):(snap s).get? b = some o:=(Heap.hide_ne s.heap hb).trans h
theorem snap_of {s:Shared}{b:Addr}{o:Obj}(h:(snap s).get? b = some o):s.heap.get? b = some o:=Heap.of_hide h
theorem GI.snap {h₀:Heap}{s:Shared}(G:GI h₀ s):GI (snap s) s:=⟨fun b o e=>snap_of e,G.tab,Heap.hide_self _ _⟩
theorem khx {h₀:Heap}{s:Shared}(G:GI h₀ s):∀ b o,h₀.get? b = some o → (snap s).get? b = some o:=fun b o e =>
  kbn (fun q=>by rw [q,G.off] at e; cases e) (G.keep b o e)
theorem mg_at {w:World}{h₀:Heap}(G:Gr w h₀) {mg:Str → Option Value}(hn:h₀.Ns mainGlobals mg) (x:Str):mg x = findG x (gEs w):=by
  obtain ⟨o,es,ep,ho,hd,hk,hm⟩:=hn
  rw [← hm x]
  cases hK:(KF w).lookup 3 with
  | none=>exact absurd hK (by intro q; cases q)
  | some oK =>
    have h3:=G.K 3 oK hK
    have:some oK = some o:=h3.symm.trans ho
    cases this
    have hg:gEs w = es.toList:=by
      unfold gEs; rw [hK]
      obtain ⟨c,dd,dt,sl⟩:=o
      simp only at hd; subst hd
      rfl
    rw [hg, ← ke4, ← kch]
theorem blt_at {w:World}{h₀ h:Heap}{P:Addr}(G:Gr w h₀) {mg:Str → Option Value}(hn:h₀.Ns mainGlobals mg) (k:∀ b o,h₀.get? b = some o → h.get? b = some o) (h1:(4:Addr) ≠ builtinsNs:=by decide) (h2:(4:Addr) ≠ mainGlobals:=by decide) (h3:4 ≠ P:=by decide):h.BuiltinsAt mg P:=by
  obtain ⟨o,ho,hc,hdi,hda⟩:=G.bm
  exact ⟨4,o,(mg_at G hn _).trans (by kernel_rfl),h1,h2,h3,k _ _ ho,hc,hdi,hda⟩
theorem R_rows {X:List Addr}{h:Heap} : ∀ {tab:List (List Int)}{vs:List Value},RAll X h vs (tab.map IsD) → ∃ TA:List Addr,(∀ a ∈ TA,a ∉ X ∧ ∃ its,h.PlainList a its) ∧
    ∀ h' Y,(∀ a ∈ TA, ∀ o,h.get? a = some o → h'.get? a = some o) → (∀ a ∈ TA,a ∉ Y) → RAll Y h' vs (tab.map IsD)
  | [],_,r=>by cases r; exact ⟨[],(fun a ha=>by cases ha),fun _ _ _ _=>.nil⟩
  | row :: tab,_,r=>by
    cases r with
    | cons r1 r2 =>
      obtain ⟨TA,h1,h2⟩:=R_rows r2
      obtain ⟨a,us,rfl,hl,haX,ru⟩:=r1.list_plain
      refine ⟨a :: TA,fun b hb=>?_,fun h' Y k hY=>.cons (.list (hl.at fun o e=>k a (.head _) o e) (hY a (.head _)) ru.intsAny) (h2 h' Y (fun b hb=>k b (.tail _ hb)) fun b hb=>hY b (.tail _ hb))⟩
      rcases List.mem_cons.mp hb with rfl | hb
      · exact ⟨haX,_,hl⟩
      · exact h1 b hb
theorem R_tab {X:List Addr}{h:Heap}{tab:List (List Int)}{v:Value}(r:R X h v (TbD tab)):∃ TA:List Addr,(∀ a ∈ TA,a ∉ X ∧ ∃ its,h.PlainList a its) ∧
    ∀ h' Y,(∀ a ∈ TA, ∀ o,h.get? a = some o → h'.get? a = some o) → (∀ a ∈ TA,a ∉ Y) → R Y h' v (TbD tab):=by
  obtain ⟨a,us,rfl,hl,haX,ru⟩:=r.list_plain
  obtain ⟨TA,h1,h2⟩:=R_rows ru
  refine ⟨a :: TA,fun b hb=>?_,fun h' Y k hY=>.list (hl.at fun o e=>k a (.head _) o e) (hY a (.head _)) (h2 h' Y (fun b hb=>k b (.tail _ hb)) fun b hb=>hY b (.tail _ hb))⟩
  rcases List.mem_cons.mp hb with rfl | hb
  · exact ⟨haX,_,hl⟩
  · exact h1 b hb
section
variable {w:World}{h₁:Heap}{n:Nat}
theorem lam_call {name qual:Str}{params:Arguments}{body:Expr}{scope:Scope}{pm ctv:Value}{x y t:Str}{L c c':Addr}{tv:Value}{tab:List (List Int)}{TA:List Addr}{d1 d2:D}{is:List Int}(G:Gr w h₁) (off:h₁.get? Tb = none)
    (hL:h₁.get? L = some (kla_obj name qual params body scope [(t,c)] pm c' ctv)) (hcode:h₁.CodeRec (.ref c') qual) (hc:h₁.IsCell c (some tv)) (hTA:∀ a ∈ TA, ∃ its,h₁.PlainList a its)
    (hR:∀ h' Y,(∀ a ∈ TA, ∀ o,h₁.get? a = some o → h'.get? a = some o) → (∀ a ∈ TA,a ∉ Y) → R Y h' tv (TbD tab))
    (hbind:∀ v u,bindArgs (kla_fn name qual params body scope [(t,c)] pm (.ref c') ctv) ⟨[v,u],[]⟩ = pure [(x,v),(y,u)]) (hok:sigOk scope [(t, .ext),(x, .loc),(y, .loc)] = true)
    (hco:scope.isCoroutine = false) (hgen:scope.isGenerator = false) (hcell:∀ z ∈ scope.names,z.2 ≠ .cell)
    (hev:EV w h₁ n scope [] [⟨t, .ext,some (TbD tab)⟩,⟨x, .loc,some d1⟩,⟨y, .loc,some d2⟩] body (.tuple (is.map D.int))):CallR w h₁ (n + 1) (.ref L) [d1,d2] (.tuple (is.map D.int)):=fun A X s vs rm O rs Q E hq=>by
  obtain ⟨v,u,rfl,r1,r2⟩:=rs.two
  have hsig:=hok
  simp only [sigOk,Bool.and_eq_true,beq_iff_eq,decide_eq_true_eq,List.all_eq_true] at hsig
  obtain ⟨⟨hk,hnd⟩,hvar⟩:=hsig
  have hvx:=hvar (x, .loc) (.tail _ (.head _))
  have hvy:=hvar (y, .loc) (.tail _ (.tail _ (.head _)))
  simp only [varOk,Bool.and_eq_true,beq_iff_eq] at hvx hvy
  simp only [List.map_cons,List.map_nil,List.nodup_cons,List.mem_cons,List.not_mem_nil,or_false,not_or] at hnd
  have hxy:x ≠ y:=hnd.2.1
  refine wpAny_call (kla_callFunE rm.lt (O.gi.keep _ _ hL) rfl hco hgen rfl (hcode.keeps O.gi.keep) ?_)
  rw [hbind v u]
  have szN:s.heap.get? s.heap.objs.size = none:=Heap.get?_none_of_le (Nat.le_refl _)
  refine wpAny_pure (wpAny_newFunctionEnv hcell (fun z hz=>?_) (fun h₂ hns hsb=>⟨(G.lim.keeps O.gi.keep).fresh _ hsb, ?_⟩) hk)
  · rcases List.mem_cons.mp hz with rfl | hz
    · exact hvx.1.1
    · rw [List.mem_singleton.mp hz]; exact hvy.1.1
  have kp:∀ b o,s.heap.get? b = some o → h₂.get? b = some o:=fun b o e=>hsb.extBut b o (Nat.ne_of_lt (Heap.lt_size e)) (Heap.get?_push_of_some _ e)
  have n₂:Nx h₁ s { s with heap:=h₂,toks:=s.toks + 2 }:=.of_keeps O.gi ⟨h₂,_,rfl,kp⟩
  have hcs:=kaf hc fun o e=>O.gi.keep _ _ e
  have subX:∀ a ∈ s.heap.objs.size :: c :: X.filter (fun a=>!TA.contains a),(∃ its,s.heap.IsList a its ∨ s.heap.IsTuple a its) → a ∈ X:=fun a ha q=>by
    rcases List.mem_cons.mp ha with z | ha
    · obtain ⟨o,e⟩:=kcy q; rw [z,szN] at e; cases e
    · rcases List.mem_cons.mp ha with z | ha
      · obtain ⟨its,q | q⟩:=q
        · exact absurd q (kbr (z ▸ hcs) _)
        · obtain ⟨o,ho,_,k,hd⟩:=q
          obtain ⟨o',ho',hd'⟩:=hcs
          rw [z,ho'] at ho; cases ho; rw [hd] at hd'; cases hd'
      · exact (List.mem_filter.mp ha).1
  have hTne:∀ a ∈ TA,a ≠ Tb:=fun a ha q=>by
    obtain ⟨its,k,e⟩:=hTA a ha
    rw [q,off] at e; cases e
  have tabX:Tb ∈ s.heap.objs.size :: c :: X.filter (fun a=>!TA.contains a):=.tail _ (.tail _ (List.mem_filter.mpr ⟨O.tabX,by
    rw [Bool.not_eq_true',List.contains_eq_any_beq,List.any_eq_false]
    intro a ha
    simpa using Ne.symm (hTne a ha)⟩))
  have S:St h₁ scope (newEnv scope s.heap.objs.size mainGlobals [(t,c)] (qual ++ ".<locals>.") (some L) (.ref c') none builtinsNs) (s.heap.objs.size :: c :: X.filter (fun a=>!TA.contains a)) s [] [⟨t, .ext,some (TbD tab)⟩,⟨x, .loc,some d1⟩,⟨y, .loc,some d2⟩] { s with heap:=h₂,toks:=s.toks + 2 }:=by
    refine ⟨hok,rfl,rfl,rfl,n₂.1,n₂.2,O.gi,⟨_,hns,fun e he hek d hd=>?_⟩,fun e he hek=>?_,fun a b c₁ h1 h2=>?_, .head _,szN,fun e he hek=>?_,fun a ha=>?_,tabX,⟨List.nodup_nil,fun p hp=>by cases hp⟩⟩
    · rcases List.mem_cons.mp he with rfl | he
      · cases hek
      · rcases List.mem_cons.mp he with rfl | he
        · cases hd
          refine ⟨v, ?_,(r1.weakS subX).nx n₂ tabX⟩
          show ([(x,v),(y,u)]:List (Str × Value)).reverse.lookup x = some v
          have:(x == y) = false:=by simpa using hxy
          simp [List.lookup,this]
        · rw [List.mem_singleton.mp he] at hd ⊢
          cases hd
          refine ⟨u, ?_,(r2.weakS subX).nx n₂ tabX⟩
          show ([(x,v),(y,u)]:List (Str × Value)).reverse.lookup y = some u
          simp [List.lookup]
    · rcases List.mem_cons.mp he with rfl | he
      · refine ⟨c,some tv, ?_,kaf hcs fun o e=>kp _ _ e, .tail _ (.head _),fun d hd=>?_⟩
        · show List.lookup t [(t,c)] = some c
          simp [List.lookup]
        · cases hd
          refine ⟨tv,rfl,hR _ _ (fun a ha o e=>kp _ _ (O.gi.keep _ _ e)) fun a ha q=>?_⟩
          obtain ⟨its,k,e⟩:=hTA a ha
          have es:=O.gi.keep _ _ e
          rcases List.mem_cons.mp q with z | q
          · rw [z,szN] at es; cases es
          · rcases List.mem_cons.mp q with z | q
            · exact kbr hcs its (z ▸ ⟨_,es,rfl,k,rfl⟩)
            · have:=(List.mem_filter.mp q).2
              rw [Bool.not_eq_true',List.contains_eq_any_beq,List.any_eq_false] at this
              exact this a ha (by simp)
      · rcases List.mem_cons.mp he with rfl | he
        · exact absurd rfl hek
        · rw [List.mem_singleton.mp he] at hek; exact absurd rfl hek
    · have h1':List.lookup a [(t,c)] = some c₁:=h1
      have h2':List.lookup b [(t,c)] = some c₁:=h2
      have one:∀ z,List.lookup z [(t,c)] = some c₁ → z = t:=fun z hz=>by
        by_cases q:z = t
        · exact q
        · have:(z == t) = false:=by simpa using q
          simp [List.lookup,this] at hz
      rw [one a h1',one b h2']
    · rcases List.mem_cons.mp he with rfl | he
      · cases hek
      · rcases List.mem_cons.mp he with rfl | he
        · cases hek
        · rw [List.mem_singleton.mp he] at hek; cases hek
    · rcases List.mem_cons.mp ha with q | ha
      · obtain ⟨o,_,_,e,_⟩:=hns; exact ⟨o,q ▸ e⟩
      · rcases List.mem_cons.mp ha with q | ha
        · obtain ⟨o,e,_⟩:=hcs; exact ⟨o,q ▸ kp _ _ e⟩
        · obtain ⟨o,e⟩:=O.al a (List.mem_filter.mp ha).1; exact ⟨o,kp _ _ e⟩
  refine kla_codeExpr (hev _ _ _ s _ rm.deeper S _ _ fun v' s' n' r'=>?_)
  refine hq v' s' (n₂.trans n') ?_
  obtain ⟨a,vs',rfl,ht,haX,rv⟩:=r'.tuple_eq
  refine .tuple ht (fun q=>?_) rv.intsAny
  by_cases z:a ∈ TA
  · obtain ⟨its,k,e⟩:=hTA a z
    have e':=(n₂.trans n').2.keep _ _ e
    obtain ⟨o,ho,hcl,_⟩:=ht
    rw [e'] at ho; cases ho
    exact absurd (Value.type.inj hcl) (by decide)
  · exact haX (.tail _ (.tail _ (List.mem_filter.mpr ⟨q,by
      rw [Bool.not_eq_true',List.contains_eq_any_beq,List.any_eq_false]
      intro b hb
      simp only [beq_iff_eq]
      rintro rfl
      exact z hb⟩)))
end
section
variable {w:World}{h₀:Heap}{n:Nat}{sc:Scope}{σ:List Var}
theorem wp_call1 {A:Around}{s:Shared}{a:Addr}{o:Obj}{fd:FuncData}{t:Sem Value}{rest:List (Bool × Sem Value)}{pos:Pos}{Q:Value → Shared → Prop}{E:Value → Shared → Prop}(ho:h₀.get? a = some o) (hd:o.data = .func fd)
    (h:wpAny (model prog w) A t (fun v s'=>wpAny (model prog w) A (spliced rest) (fun vs s''=>GI h₀ s'' ∧ wpAny (model prog w) A (call (.ref a) (v :: vs)) Q E s'') E s') E s):wpAny (model prog w) A (callWith pos (.ref a) [] ((false,t) :: rest) []) Q E s :=
  callWith_function (o:=o) (fd:=fd) (evalArgs_plain (spliced_cons (wpAny_mono h (fun v s' h'=>wpAny_mono h' (fun vs s'' h''=>⟨⟨h''.1.keep _ _ ho,hd⟩,h''.2⟩) fun _ _ x=>x) fun _ _ x=>x)))
theorem kh2 {A:Around}{env:Env}{X:List Addr}{s0 s:Shared}{name qual:Str}{params:Arguments}{body:Expr}{scope:Scope}{pm ctv:Value}{cl:List (Str × Addr)}{x y:Str}{L c':Addr}{order:List Int}{tab:List (List Int)}{es:List Expr}{pos:Pos}{Q:Value → Shared → Prop}{E:Value → Shared → Prop}(G:Gr w h₀) (rm:Room A (n + 3)) (S:St h₀ sc env X s0 [] σ s)
    (ht:Has σ "table" .own (TbD tab)) (ho:okOrder order) (hsq:sq5 tab) (hLT:L ≠ Tb) (hL:s.heap.get? L = some (kla_obj name qual params body scope cl pm c' ctv)) (hcode:s.heap.CodeRec (.ref c') qual) (hc':c' ≠ Tb) (hcl:∀ c,env.cells.lookup ("table" : Str) = some c → cl = [(("table" : Str),c)])
    (he:EVs w h₀ (n + 3) sc [] σ es [IsD order, .tuple [.int (oT order 4), .int 0]])
    (hbind:∀ c v u,bindArgs (kla_fn name qual params body scope [(("table" : Str),c)] pm (.ref c') ctv) ⟨[v,u],[]⟩ = pure [(x,v),(y,u)]) (hok:sigOk scope [("table", .ext),(x, .loc),(y, .loc)] = true)
    (hco:scope.isCoroutine = false) (hgen:scope.isGenerator = false) (hcell:∀ z ∈ scope.names,z.2 ≠ .cell)
    (hev:∀ (h₁:Heap) (i k acc:Int),0 ≤ i → i < 5 → 0 ≤ k → k < 5 → EV w h₁ n scope [] [⟨"table", .ext,some (TbD tab)⟩,⟨x, .loc,some (.tuple [.int i, .int acc])⟩,⟨y, .loc,some (.int k)⟩] body (.tuple ([k,acc + tabT tab i k].map D.int)))
    (hQ:∀ v s' k,Nx h₀ s s' → R X s'.heap v (.tuple [.int k, .int (tourT order tab)]) → Q v s'):wpAny (model prog w) A (spliced (backTo pos (starEach es env))) (fun vs s'=>GI h₀ s' ∧ wpAny (model prog w) A (call (.ref 37) (.ref L :: vs)) Q E s') E s:=by
  refine kd4 rm he S fun vs s₁ n₁ rs=>?_
  have S₁:=S.nx n₁
  have O₁:Op (snap s₁) X s₁:=⟨S₁.gi.snap,S.tabX,S₁.alive⟩
  have up:=khx S₁.gi
  have G₁:=G.up up
  have hL₁:(snap s₁).get? L = some (kla_obj name qual params body scope cl pm c' ctv):=kbn hLT (n₁.1.get hLT hL)
  -- the cell of the table
  obtain ⟨c,ov,h1,h2,h3,h4⟩:=S₁.cell _ ht.mem (fun q=>VK.noConfusion q)
  obtain ⟨tv,rfl,hr⟩:=h4 _ rfl
  have hcle:=hcl c h1
  subst hcle
  obtain ⟨ps,hT,_⟩:=S₁.gi.tab
  have hcT:c ≠ Tb:=kaz h2 hT
  obtain ⟨TA,q1,q2⟩:=R_tab hr
  have hTA:∀ a ∈ TA,a ≠ Tb:=fun a ha z=>(q1 a ha).1 (z ▸ S.tabX)
  have lam:∀ (i k acc:Int),0 ≤ i → i < 5 → 0 ≤ k → k < 5 → CallR w (snap s₁) (n + 1) (.ref L) [.tuple [.int i, .int acc], .int k] (.tuple ([k,acc + tabT tab i k].map D.int)):=fun i k acc i0 i5 k0 k5 =>
    lam_call (TA:=TA) G₁ S₁.gi.snap.off hL₁ (by
        obtain ⟨a,o,vs,t,e1,g,r⟩:=hcode
        cases e1
        exact ⟨_,o,vs,t,rfl,kbn hc' (n₁.1.get hc' g),r⟩) (kaf h2 fun o e=>kbn hcT e) (fun a ha=>let ⟨its,hl⟩:=(q1 a ha).2; ⟨its,hl.at fun o e=>kbn (hTA a ha) e⟩)
      (fun h' Y k hY=>q2 h' Y (fun a ha o e=>k a ha o (kbn (hTA a ha) e)) hY) (hbind c) hok hco hgen hcell (hev _ i k acc i0 i5 k0 k5)
  have fold:∀ (ks:List Int) (i acc:Int),0 ≤ i → i < 5 → (∀ k ∈ ks,0 ≤ k ∧ k < 5) → Fold w (snap s₁) (n + 1) (.ref L) (.tuple [.int i, .int acc]) (ks.map D.int) (.tuple [.int (ks.foldl (fun (st:Int × Int) k=>(k,st.2 + tabT tab st.1 k)) (i,acc)).1, .int (ks.foldl (fun (st:Int × Int) k=>(k,st.2 + tabT tab st.1 k)) (i,acc)).2]):=by
    intro ks
    induction ks with
    | nil=>intro i acc _ _ _; exact .nil
    | cons k ks ih =>
      intro i acc i0 i5 hk
      obtain ⟨k0,k5⟩:=hk k (.head _)
      exact .cons (lam i k acc i0 i5 k0 k5) (ih k (acc + tabT tab i k) k0 k5 fun z hz=>hk z (.tail _ hz))
  have o4:=ho.at (i:=4) (by decide)
  have red:=kih (n:=n) (G:=G₁) (f:=.ref L) (.inr (.inr ⟨L,_,_,rfl,hL₁,rfl⟩)) (fun m=>kk4 (G₁.K 29 _ rfl) rfl) (fold order (oT order 4) 0 o4.2.1 o4.2.2 ho.2)
  refine ⟨S₁.gi,red A X s₁ (.ref L :: vs) (rm.down (by lia)) O₁ (.cons (.val _) rs) _ _ fun v s₂ n₂ r₂=>?_⟩
  exact hQ v s₂ _ (n₁.trans (n₂.down up)) r₂
end
end
section
theorem GI.tabTo {h₀:Heap}{s:Shared}{h':Heap}{tk:Nat}{ps:Array Value}(G:GI h₀ s) (k:∀ b o,b ≠ Tb → s.heap.get? b = some o → h'.get? b = some o) (ht:h'.get? Tb = some (tabObj ps)) (hok:TabOk h' ps):Nx h₀ s { s with heap:=h',toks:=tk } :=
  ⟨⟨h',tk,rfl,k⟩,fun b o e=>k b o (fun q=>by rw [q,G.off] at e; cases e) (G.keep b o e),⟨ps,ht,hok⟩,G.off⟩
theorem sub_tab {w:World}{h₀:Heap}{n:Nat}{sc:Scope}{ω:Owns}{σ:List Var}{tab:List (List Int)}{eo ei ej:Expr}{p1 p2:Pos}{i j:Int}(hsq:sq5 tab) (ho:EV w h₀ n sc ω σ eo (TbD tab)) (hi:EV w h₀ n sc ω σ ei (.int i)) (hj:EV w h₀ n sc ω σ ej (.int j)) (i0:0 ≤ i) (i5:i < 5) (j0:0 ≤ j) (j5:j < 5)
    (hsi:∀ o i,subscripted ei false o i = operate [o,i] (getItem o i):=by intro _ _; rfl) (hsj:∀ o i,subscripted ej false o i = operate [o,i] (getItem o i):=by intro _ _; rfl):EV w h₀ n sc ω σ (.Subscript (.Subscript eo ei p1) ej p2) (.int (tabT tab i j)):=by
  have h1:=hsq.at (k:=i.toNat) (by lia)
  refine kao (kao ho hi (kah (d:=IsD (tab.getD i.toNat [])) i0 (by lia) (by rw [List.getElem?_map,h1.1]; rfl) hsi)) hj (kah j0 (by lia) ?_ hsj)
  have hl:j.toNat < (tab.getD i.toNat []).length:=by rw [h1.2]; lia
  unfold tabT
  rw [List.getElem?_map,List.getD_eq_getElem?_getD (i:=j.toNat),List.getElem?_eq_getElem hl]; rfl
section
variable {w:World}{h₀:Heap}(G:Gr w h₀)
include G
theorem f_tour {order:List Int}{tab:List (List Int)}(ho:okOrder order) (hsq:sq5 tab):CallR w h₀ 9 (.ref 229) [IsD order,TbD tab] (.int (tourT order tab)):=by
  refine kig (vars:=[("order", .loc),("table", .own)]) ⟨⟨_,G.K 229 _ rfl,rfl⟩,rfl,rfl,rfl,rfl,⟨_,_,_,_,rfl,G.K _ _ rfl,rfl,rfl⟩,rfl,rfl,G.lim,by decide +kernel,rfl⟩ (kaa (len2 fun _ _=>?_)) ?_
  · rfl
  intro A env X s0 s Q E rm hcode hqual S hq
  refine wpAny_execs_cons (wpAny_Return_some (Subscript_ ?_))
  show wpAny _ A (do callWith _ (← eval (.Name "reduce" _) env) [] (backTo _ (starEach [_,_,_] env)) []) _ E s
  refine wpAny_bind (ka3 (w:=w) (n:=8) (kg5 G) (by decide +kernel) A env X s0 s rm S _ _ fun v s₁ n₁ rv=>?_)
  have:=rv.val_eq; subst this
  have S₁:=S.nx n₁
  have clf:∀ c,env.cells.lookup ("table" : Str) = some c → clFrom env.cells [((("state" : Str)),NameKind.local),(("k" : Str),NameKind.local),(("table" : Str),NameKind.free)] [] = [(("table" : Str),c)]:=fun c hc=>by
    show [(("table" : Str),(env.cells.lookup ("table" : Str)).getD 0)] = _
    rw [hc]; rfl
  obtain ⟨c0,_,hc0,_⟩:=S₁.cell ⟨"table", .own,some (TbD tab)⟩ (.tail _ (.head _)) (fun q=>VK.noConfusion q)
  obtain ⟨mg,hmg⟩:=G.g
  obtain ⟨ps,hps,htab⟩:=S₁.gi.tab
  have hgs:s₁.heap.Ns mainGlobals mg:=hmg.keeps S₁.gi.keep
  have hq0:env.qual ++ "<lambda>" = tourQual:=by rw [hqual]; rfl
  show wpAny _ A (callWith _ (.ref 37) [] ((false,eval _ env) :: backTo _ (starEach _ env)) []) _ E s₁
  refine wp_call1 (G.K 37 _ rfl) rfl (kla_eval rfl ?_)
  rw [hq0]
  rcases htab with rfl | ⟨c',hne,rfl,hrec⟩
  · refine kla_makeFunction (c:=228) (P:=Tb) (mg:=mg) (kbt fun x hx=>?_) S.glob hgs hcode ⟨_,_,_,_,_,_,_,_,_,S₁.gi.keep _ _ (G.K 228 _ rfl),rfl,rfl,rfl,rfl,rfl,rfl,rfl,rfl,by decide⟩ hps trivial rfl (by decide) (blt_at G hmg S₁.gi.keep) fun c' ctv h' tk hx hge hlt hrec htb=>?_
    · rcases List.mem_cons.mp hx with e | hx
      · exact NameKind.noConfusion (congrArg Prod.snd e)
      · rcases List.mem_cons.mp hx with e | hx
        · exact NameKind.noConfusion (congrArg Prod.snd e)
        · have e:=congrArg Prod.fst (List.mem_singleton.mp hx)
          have e':x = ("table" : Str):=e
          rw [e',hc0]; rfl
    have hT:Tb < s₁.heap.objs.size:=Heap.lt_size hps
    have hcT:c' ≠ Tb:=Nat.ne_of_gt (Nat.lt_of_lt_of_le hT hge)
    have n₂:∀ (o:Obj) (tk:Nat),Nx h₀ s₁ { s₁ with heap:=h'.push o,toks:=tk }:=fun o tk=>GI.tabTo S₁.gi (fun b o hb e=>Heap.get?_push_of_some _ (hx b o hb e)) (Heap.get?_push_of_some _ htb) (.inr ⟨c',hcT,rfl,hrec.keeps fun b o e=>Heap.get?_push_of_some _ e⟩)
    refine kh2 (n:=5) (x := "state") (y := "k") G rm (S₁.nx (n₂ _ _)) (.s .z) ho hsq (Nat.ne_of_gt (Nat.lt_trans (Nat.lt_of_lt_of_le hT hge) hlt)) (Heap.get?_push_size _ rfl) (hrec.keeps fun b o e=>Heap.get?_push_of_some _ e) hcT clf (.cons rfl (ka0 .z) (.cons rfl (kb4 (.cons rfl (kcj .z ho (by decide) (ev_un ka7 kd5) (.inr ⟨rfl,rfl⟩)) (.cons rfl ka7 .nil))) .nil)) (fun _ _ _=>rfl) (by decide +kernel) rfl rfl (by decide)
      (fun h₁ i k acc i0 i5 k0 k5=>kb4 (.cons rfl (ka0 (.s (.s .z))) (.cons rfl (kad (kao (ka0 (.s .z)) ka7 (kbx (i:=1) (by decide) rfl)) (sub_tab hsq (ka0 .z) (kao (ka0 (.s .z)) ka7 (kbx (i:=0) (by decide) rfl)) (ka0 (.s (.s .z))) i0 i5 k0 k5) kal) .nil)))
      fun v s' k n' r'=>?_
    have n12:=n₁.trans ((n₂ _ _).trans n')
    exact ka7 (w:=w) (n:=8) A env X s0 s' rm (S.nx n12) _ _ fun vi s₃ n₃ ri=>kbx (w:=w) (n:=8) (i:=1) (by decide) rfl (by intro _ _; rfl) A X s₃ v vi rm (S.nx (n12.trans n₃)).op (r'.nx n₃ S.tabX) ri _ _ fun v' s₄ n₄ r₄ =>
      hq (.ret v') s₄ ⟨S.base.trans (n12.trans (n₃.trans n₄)).1,n₄.2,X,fun _ h _=>h,r₄⟩
  · refine kla_makeFunctionHit (c:=228) (P:=Tb) (mg:=mg) (cv:=.ref c') (kbt fun x hx=>?_) S.glob hgs hcode ⟨_,_,_,_,_,_,_,_,_,S₁.gi.keep _ _ (G.K 228 _ rfl),rfl,rfl,rfl,rfl,rfl,rfl,rfl,rfl,by decide⟩ hps trivial rfl (blt_at G hmg S₁.gi.keep) fun ctv h' tk hk hsz=>?_
    · rcases List.mem_cons.mp hx with e | hx
      · exact NameKind.noConfusion (congrArg Prod.snd e)
      · rcases List.mem_cons.mp hx with e | hx
        · exact NameKind.noConfusion (congrArg Prod.snd e)
        · have e:=congrArg Prod.fst (List.mem_singleton.mp hx)
          have e':x = ("table" : Str):=e
          rw [e',hc0]; rfl
    have hT:Tb < s₁.heap.objs.size:=Heap.lt_size hps
    have n₂:∀ (o:Obj) (tk:Nat),Nx h₀ s₁ { s₁ with heap:=h'.push o,toks:=tk }:=fun o tk=>.of_keeps S₁.gi ⟨_,tk,rfl,fun b o e=>Heap.get?_push_of_some _ (hk b o e)⟩
    refine kh2 (n:=5) (x := "state") (y := "k") G rm (S₁.nx (n₂ _ _)) (.s .z) ho hsq (Nat.ne_of_gt (Nat.lt_of_lt_of_le hT hsz)) (Heap.get?_push_size _ rfl) (hrec.keeps fun b o e=>Heap.get?_push_of_some _ (hk b o e)) hne clf (.cons rfl (ka0 .z) (.cons rfl (kb4 (.cons rfl (kcj .z ho (by decide) (ev_un ka7 kd5) (.inr ⟨rfl,rfl⟩)) (.cons rfl ka7 .nil))) .nil)) (fun _ _ _=>rfl) (by decide +kernel) rfl rfl (by decide)
      (fun h₁ i k acc i0 i5 k0 k5=>kb4 (.cons rfl (ka0 (.s (.s .z))) (.cons rfl (kad (kao (ka0 (.s .z)) ka7 (kbx (i:=1) (by decide) rfl)) (sub_tab hsq (ka0 .z) (kao (ka0 (.s .z)) ka7 (kbx (i:=0) (by decide) rfl)) (ka0 (.s (.s .z))) i0 i5 k0 k5) kal) .nil)))
      fun v s' k n' r'=>?_
    have n12:=n₁.trans ((n₂ _ _).trans n')
    exact ka7 (w:=w) (n:=8) A env X s0 s' rm (S.nx n12) _ _ fun vi s₃ n₃ ri=>kbx (w:=w) (n:=8) (i:=1) (by decide) rfl (by intro _ _; rfl) A X s₃ v vi rm (S.nx (n12.trans n₃)).op (r'.nx n₃ S.tabX) ri _ _ fun v' s₄ n₄ r₄ =>
      hq (.ret v') s₄ ⟨S.base.trans (n12.trans (n₃.trans n₄)).1,n₄.2,X,fun _ h _=>h,r₄⟩
end
end
section
noncomputable def letters:List (List Nat):=[[97],[97,98],[98]]
noncomputable def extN (ls:List (List (List Nat))):List (List (List Nat)):=ls.flatMap fun n=>letters.map fun l=>n ++ [l]
noncomputable def allN:List (List (List Nat)):=[[]] ++ (extN [[]] ++ (extN (extN [[]]) ++ extN (extN (extN [[]]))))
noncomputable def pathOf (n:List (List Nat)):List Nat:=match n with
  | []=>[47]
  | _=>n.flatMap fun p=>47 :: p
noncomputable def lcpN:List (List Nat) → List (List Nat) → List (List Nat)
  | x :: xs,y :: ys=>if x == y then x :: lcpN xs ys else []
  | _,_=>[]
noncomputable def sixT:List (List Nat):=[[],[97],[98],[97,98],[46,46],[46]]
noncomputable def octo (b:Bool):Bool:=sixT.all fun i=>sixT.all fun j=>sixT.all fun k=>okPlace b [i,j,k] && (placeT b [i,j,k] == pathOf (namesT [i,j,k])) && allN.contains (namesT [i,j,k])
theorem octo_true:octo true = true:=by decide +kernel
theorem octo_false:octo false = true:=by decide +kernel
theorem kdj {i:Int}(h:0 ≤ i ∧ i < 8):pieceAt i ∈ sixT:=by
  have e:(i.toNat:Int) = i:=Int.toNat_of_nonneg h.1
  have:i.toNat < 8:=by lia
  unfold pieceAt
  generalize i.toNat = k at this
  clear e
  revert k
  decide
theorem octo_all (b:Bool):octo b = true:=by cases b; exact octo_false; exact octo_true
theorem kh6 (m:Int):∃ i j k,i ∈ sixT ∧ j ∈ sixT ∧ k ∈ sixT ∧ piecesT m = [i,j,k]:=⟨_,_,_,kdj (kak m 0),kdj (kak m 1),kdj (kak m 2),rfl⟩
theorem kdi (b:Bool) (m:Int):okPlace b (piecesT m) = true ∧ placeT b (piecesT m) = pathOf (namesT (piecesT m)) ∧ namesT (piecesT m) ∈ allN:=by
  obtain ⟨i,j,k,hi,hj,hk,e⟩:=kh6 m
  have h:=octo_all b
  unfold octo at h
  have h:=List.all_eq_true.mp (List.all_eq_true.mp (List.all_eq_true.mp h i hi) j hj) k hk
  simp only [Bool.and_eq_true,beq_iff_eq,List.contains_iff_mem] at h
  rw [e]
  exact ⟨h.1.1,h.1.2,h.2⟩
noncomputable def elB (b:Bool) (x:List (List Nat)):Bool :=
  okTxB b (pathOf x) && okSplit b (pathOf x) && (partsT b (pathOf x) == x) && okClimb b 9 (pathOf x) && (depthT b 9 (pathOf x) == x.length) && joinOkT b [47] x && okTxB b (joinAllT b [47] x) && ([47] ++ joinAllT b [47] x == pathOf x) &&
    ((List.range x.length).all fun k=>okChild b (pathOf (x.take k)) 9 (pathOf x) && okTxB b (childT b (pathOf (x.take k)) 9 (pathOf x)) && (childT b (pathOf (x.take k)) 9 (pathOf x) == x.getD k []))
theorem el_true:allN.all (elB true) = true:=by decide +kernel
theorem el_false:allN.all (elB false) = true:=by decide +kernel
theorem el_all (b:Bool) {x:List (List Nat)}(hx:x ∈ allN):elB b x = true:=by
  cases b
  · exact List.all_eq_true.mp el_false x hx
  · exact List.all_eq_true.mp el_true x hx
noncomputable def prB (x y:List (List Nat)):Bool:=okScan (maxL x y) 0 (minL x y) && (comL x y == lcpN x y) && allN.contains (lcpN x y) && ((pathOf x == pathOf y) == (x == y))
theorem pr_true:(allN.all fun x=>allN.all fun y=>prB x y) = true:=by decide +kernel
theorem pr_all {x y:List (List Nat)}(hx:x ∈ allN) (hy:y ∈ allN):prB x y = true:=List.all_eq_true.mp (List.all_eq_true.mp pr_true x hx) y hy
structure El (b:Bool) (x:List (List Nat)):Prop where
  tx:okTxB b (pathOf x) = true
  sp:okSplit b (pathOf x) = true
  parts:partsT b (pathOf x) = x
  climb:okClimb b 9 (pathOf x) = true
  depth:depthT b 9 (pathOf x) = x.length
  jok:joinOkT b [47] x = true
  jtx:okTxB b (joinAllT b [47] x) = true
  join:[47] ++ joinAllT b [47] x = pathOf x
  child:∀ k,k < x.length → okChild b (pathOf (x.take k)) 9 (pathOf x) = true ∧ okTxB b (childT b (pathOf (x.take k)) 9 (pathOf x)) = true ∧ childT b (pathOf (x.take k)) 9 (pathOf x) = x.getD k []
theorem El.of (b:Bool) {x:List (List Nat)}(hx:x ∈ allN):El b x:=by
  have h:=el_all b hx
  simp only [elB,Bool.and_eq_true,beq_iff_eq,List.all_eq_true,List.mem_range] at h
  obtain ⟨⟨⟨⟨⟨⟨⟨⟨h1,h2⟩,h3⟩,h4⟩,h5⟩,h6⟩,h7⟩,h8⟩,h9⟩:=h
  exact ⟨h1,h2,h3,h4,h5,h6,h7,h8,fun k hk=>let q:=h9 k hk; ⟨q.1.1,q.1.2,q.2⟩⟩
structure Pr (x y:List (List Nat)):Prop where
  scan:okScan (maxL x y) 0 (minL x y) = true
  com:comL x y = lcpN x y
  mem:lcpN x y ∈ allN
  inj:(pathOf x == pathOf y) = (x == y)
theorem Pr.of {x y:List (List Nat)}(hx:x ∈ allN) (hy:y ∈ allN):Pr x y:=by
  have h:=pr_all hx hy
  simp only [prB,Bool.and_eq_true,beq_iff_eq,List.contains_iff_mem] at h
  obtain ⟨⟨⟨h1,h2⟩,h3⟩,h4⟩:=h
  exact ⟨h1,h2,h3,h4⟩
set_option tactic.hygienic true in
theorem kd1:∀ x y:List (List Nat),lcpN x y = x.take (lcpN x y).length
  | [],y=>by cases y <;> rfl
  | a :: x,[]=>rfl
  | a :: x,b :: y=>by
    unfold lcpN
    split
    · rename_i h
      simp only [List.length_cons,List.take_succ_cons]
      rw [← kd1 x y]
    · rfl
theorem kjg:∀ x y:List (List Nat),lcpN x y = lcpN y x
  | [],y=>by cases y <;> rfl
  | a :: x,[]=>rfl
  | a :: x,b :: y=>by
    unfold lcpN
    by_cases h:a = b
    · subst h; simp only [beq_self_eq_true,if_true]; rw [kjg x y]
    · rw [if_neg (by simpa using h),if_neg (by simpa using fun q=>h q.symm)]
theorem lcpN_lt {x y:List (List Nat)}(h:lcpN x y ≠ x):(lcpN x y).length < x.length:=by
  have e:=kd1 x y
  rcases Nat.lt_or_ge (lcpN x y).length x.length with q | q
  · exact q
  · exact absurd (e.trans (List.take_of_length_le q)) h
section
variable {b:Bool}{x y:List (List Nat)}(hx:x ∈ allN) (hy:y ∈ allN)
include hx hy
theorem kcc:commonT b (pathOf x) (pathOf y) = pathOf (lcpN x y):=by
  have p:=Pr.of hx hy
  unfold commonT
  rw [(El.of b hx).parts,(El.of b hy).parts,p.com]
  exact (El.of b p.mem).join
theorem kk0:okCommon b (pathOf x) (pathOf y) = true:=by
  have p:=Pr.of hx hy
  have c:=El.of b p.mem
  unfold okCommon
  rw [(El.of b hx).parts,(El.of b hy).parts,p.com,(El.of b hx).sp,(El.of b hy).sp,p.scan,c.jok,c.jtx]; rfl
theorem kg1:(pathOf x == pathOf y) = (x == y):=(Pr.of hx hy).inj
end
noncomputable def aheadN (x y:List (List Nat)) (r:Int):Bool :=
  if (lcpN x y == x || lcpN x y == y) = true then (lcpN x y == x) != bit1 r (lcpN x y).length
  else ltT (x.getD (lcpN x y).length []) (y.getD (lcpN x y).length []) != bit0 r (lcpN x y).length
noncomputable def ansN (x y:List (List Nat)) (r:Int):Int :=
  if (x == y) = true then 0 else if aheadN x y r = true then 0 - 2 - ((lcpN x y).length:Int) else 2 + ((lcpN x y).length:Int)
section
variable {b:Bool}{x y:List (List Nat)}(hx:x ∈ allN) (hy:y ∈ allN)
include hx hy
theorem kew (h:lcpN x y ≠ x):okChild b (pathOf (lcpN x y)) 9 (pathOf x) = true ∧ okTxB b (childT b (pathOf (lcpN x y)) 9 (pathOf x)) = true ∧ childT b (pathOf (lcpN x y)) 9 (pathOf x) = x.getD (lcpN x y).length []:=by
  have:=(El.of b hx).child _ (lcpN_lt h)
  rwa [← kd1 x y] at this
theorem kgf (h:lcpN x y ≠ y):okChild b (pathOf (lcpN x y)) 9 (pathOf y) = true ∧ okTxB b (childT b (pathOf (lcpN x y)) 9 (pathOf y)) = true ∧ childT b (pathOf (lcpN x y)) 9 (pathOf y) = y.getD (lcpN x y).length []:=by
  rw [kjg x y] at h ⊢
  exact kew hy hx h
theorem answer_ok:okAnswer b 9 (pathOf x) (pathOf y) = true:=by
  have p:=Pr.of hx hy
  have c:=El.of b p.mem
  have hd:(lcpN x y).length ≤ 8:=by
    have:∀ n ∈ allN,n.length ≤ 8:=by decide +kernel
    exact this _ p.mem
  unfold okAnswer
  rw [kcc hx hy,kk0 hx hy,(El.of b hx).tx,(El.of b hy).tx,c.tx,c.climb,c.depth,kg1 p.mem hx,kg1 p.mem hy]
  by_cases h1:lcpN x y = x
  · simp [h1,hd] <;> (rw [h1] at hd; simp [hd])
  · by_cases h2:lcpN x y = y
    · simp [h2] <;> (rw [h2] at hd; simp [hd])
    · obtain ⟨a1,a2,_⟩:=kew (b:=b) hx hy h1
      obtain ⟨b1,b2,_⟩:=kgf (b:=b) hx hy h2
      rw [a1,a2,b1,b2]
      simp [hd]
theorem answer_eq (r:Int):answerT b 9 (pathOf x) (pathOf y) r = ansN x y r:=by
  have p:=Pr.of hx hy
  have c:=El.of b p.mem
  have ha:aheadT b 9 (pathOf x) (pathOf y) r = aheadN x y r:=by
    unfold aheadT aheadN
    rw [kcc hx hy,c.depth,kg1 p.mem hx,kg1 p.mem hy]
    by_cases h1:lcpN x y = x
    · rw [if_pos (by simp [h1]),if_pos (by simp [h1])]
    · by_cases h2:lcpN x y = y
      · rw [if_pos (by simp [h2]),if_pos (by simp [h2])]
      · rw [if_neg (by simp [h1,h2]),if_neg (by simp [h1,h2]),(kew (b:=b) hx hy h1).2.2,(kgf (b:=b) hx hy h2).2.2]
  unfold answerT ansN
  rw [ha,kg1 hx hy,kcc hx hy,c.depth]
theorem dist_depth:(depthT b 9 (pathOf x):Int) + (depthT b 9 (pathOf y):Int) - 2 * (depthT b 9 (commonT b (pathOf x) (pathOf y)):Int) = (x.length:Int) + (y.length:Int) - 2 * ((lcpN x y).length:Int):=by
  rw [kcc hx hy,(El.of b hx).depth,(El.of b hy).depth,(El.of b (Pr.of hx hy).mem).depth]
end
end
end Mine
end
section
open PySem PySem.W PyProof.Rows PySem.Calls PySem.Spec
namespace Mine
noncomputable def lessN (r:Int):Nat → List (List Nat) → List (List Nat) → Bool
  | _,[],[]=>false
  | d,[],_ :: _=>!bit1 r d
  | d,_ :: _,[]=>bit1 r d
  | d,x :: xs,y :: ys=>if x == y then lessN r (d + 1) xs ys else (ltT x y != bit0 r d)
theorem kbf (r:Int):∀ (d:Nat) (x:List (List Nat)),lessN r d x x = false
  | _,[]=>rfl
  | d,x :: xs=>by unfold lessN; rw [if_pos (beq_self_eq_true x)]; exact kbf r (d + 1) xs
noncomputable abbrev inLet (x:List (List Nat)):Prop:=∀ l ∈ x,l ∈ letters
theorem ltT_let {a b:List Nat}(ha:a ∈ letters) (hb:b ∈ letters) (h:a ≠ b):ltT b a = !ltT a b:=by
  have:∀ a ∈ letters, ∀ b ∈ letters,a ≠ b → ltT b a = !ltT a b:=by decide +kernel
  exact this a ha b hb h
theorem kd8 (r:Int):∀ (d:Nat) (x y:List (List Nat)),inLet x → inLet y → x ≠ y → lessN r d y x = !lessN r d x y
  | _,[],[],_,_,h=>absurd rfl h
  | d,[],_ :: _,_,_,_=>by simp [lessN]
  | d,_ :: _,[],_,_,_=>by simp [lessN]
  | d,x :: xs,y :: ys,hx,hy,h=>by
    unfold lessN
    by_cases e:x = y
    · subst e
      rw [if_pos (beq_self_eq_true x),if_pos (beq_self_eq_true x)]
      exact kd8 r (d + 1) xs ys (fun l m=>hx l (.tail _ m)) (fun l m=>hy l (.tail _ m)) fun q=>h (by rw [q])
    · rw [if_neg (by simpa using fun q=>e q.symm),if_neg (by simpa using e),ltT_let (hx x (.head _)) (hy y (.head _)) e]
      cases ltT x y <;> cases bit0 r d <;> rfl
theorem khn (r:Int):∀ (d:Nat) (x y:List (List Nat)),x ≠ y →
    (if (lcpN x y == x || lcpN x y == y) = true then (lcpN x y == x) != bit1 r (d + (lcpN x y).length) else ltT (x.getD (lcpN x y).length []) (y.getD (lcpN x y).length []) != bit0 r (d + (lcpN x y).length)) = lessN r d x y
  | d,[],[],h=>absurd rfl h
  | d,[],b :: y,_=>by
    have:lcpN [] (b :: y) = []:=rfl
    rw [this]; simp [lessN]
  | d,a :: x,[],_=>by
    have:lcpN (a :: x) [] = []:=rfl
    rw [this]; simp [lessN]
  | d,a :: x,b :: y,h=>by
    by_cases e:a = b
    · subst e
      have ec:lcpN (a :: x) (a :: y) = a :: lcpN x y:=by rw [lcpN,if_pos (beq_self_eq_true a)]
      have h':x ≠ y:=fun q=>h (by rw [q])
      have ih:=khn r (d + 1) x y h'
      rw [ec]
      have el:lessN r d (a :: x) (a :: y) = lessN r (d + 1) x y:=by rw [lessN,if_pos (beq_self_eq_true a)]
      rw [el, ← ih]
      have q1:∀ z:List (List Nat),(a :: lcpN x y == a :: z) = (lcpN x y == z):=fun z=>by simp
      rw [q1,q1,List.length_cons,List.getD_cons_succ,List.getD_cons_succ,show d + ((lcpN x y).length + 1) = d + 1 + (lcpN x y).length from by lia]
    · have ec:lcpN (a :: x) (b :: y) = []:=by rw [lcpN,if_neg (by simp [e])]
      rw [ec,lessN]
      simp [e]
theorem ansN_lt {x y:List (List Nat)}(r:Int):ansN x y r < 0 ↔ lessN r 0 x y = true:=by
  unfold ansN
  by_cases h:x = y
  · subst h; rw [if_pos (beq_self_eq_true x),kbf]; simp
  · rw [if_neg (by simpa using h)]
    have e:=khn r 0 x y h
    simp only [Nat.zero_add] at e
    have e':aheadN x y r = lessN r 0 x y:=e
    rw [e']
    cases lessN r 0 x y
    · simp only [Bool.false_eq_true,if_false,iff_false]; lia
    · simp only [if_true,iff_true]; lia
theorem ansN_zero {x y:List (List Nat)}(r:Int):ansN x y r = 0 ↔ x = y:=by
  unfold ansN
  by_cases h:x = y
  · subst h; simp
  · rw [if_neg (by simpa using h)]
    simp only [h,iff_false]
    split <;> lia
noncomputable def ordN (r:Int):Nat → List (List Nat) → Nat → List (List (List Nat))
  | 0,_,_=>[]
  | f + 1,pre,d =>
    if bit1 r d = true then ((headsT (bit0 r d)).flatMap fun h=>ordN r f (pre ++ [h]) (d + 1)) ++ [pre]
    else [pre] ++ ((headsT (bit0 r d)).flatMap fun h=>ordN r f (pre ++ [h]) (d + 1))
theorem kdx (r:Int):∀ (f:Nat) (pre:List (List Nat)) (d:Nat) (c:List (List Nat)),c ∈ ordN r f pre d → ∃ t,c = pre ++ t
  | 0,_,_,_,h=>by cases h
  | f + 1,pre,d,c,h=>by
    have:c = pre ∨ ∃ l,c ∈ ordN r f (pre ++ [l]) (d + 1):=by
      unfold ordN at h
      split at h
      · rcases List.mem_append.mp h with h | h
        · obtain ⟨l,_,hl⟩:=List.mem_flatMap.mp h; exact .inr ⟨l,hl⟩
        · exact .inl (List.mem_singleton.mp h)
      · rcases List.mem_append.mp h with h | h
        · exact .inl (List.mem_singleton.mp h)
        · obtain ⟨l,_,hl⟩:=List.mem_flatMap.mp h; exact .inr ⟨l,hl⟩
    rcases this with rfl | ⟨l,hl⟩
    · exact ⟨[],by simp⟩
    · obtain ⟨t,rfl⟩:=kdx r f _ _ c hl
      exact ⟨l :: t,by simp⟩
theorem mem_heads {c:Bool}{l:List Nat}(h:l ∈ letters):l ∈ headsT c:=by cases c <;> (revert l; decide)
theorem ki1 (r:Int):∀ (f:Nat) (pre:List (List Nat)) (d:Nat) (t:List (List Nat)),inLet t → t.length < f → pre ++ t ∈ ordN r f pre d
  | 0,_,_,_,_,h=>by lia
  | f + 1,pre,d,[],_,_=>by unfold ordN; split <;> simp
  | f + 1,pre,d,l :: t,hl,hz=>by
    have ih:=ki1 r f (pre ++ [l]) (d + 1) t (fun z m=>hl z (.tail _ m)) (by simpa using hz)
    rw [List.append_assoc] at ih
    have:pre ++ l :: t ∈ (headsT (bit0 r d)).flatMap fun h=>ordN r f (pre ++ [h]) (d + 1):=List.mem_flatMap.mpr ⟨l,mem_heads (hl l (.head _)),ih⟩
    unfold ordN; split
    · exact List.mem_append_left _ this
    · exact List.mem_append_right _ this
theorem kdz (r:Int):∀ (pre x y:List (List Nat)) (d:Nat),lessN r d (pre ++ x) (pre ++ y) = lessN r (d + pre.length) x y
  | [],x,y,d=>by simp
  | p :: pre,x,y,d=>by
    show lessN r d (p :: (pre ++ x)) (p :: (pre ++ y)) = _
    rw [lessN,if_pos (beq_self_eq_true p),kdz r pre x y (d + 1),List.length_cons,show d + 1 + pre.length = d + (pre.length + 1) from by lia]
theorem heads_pw (c:Bool):(headsT c).Pairwise fun a b=>a ≠ b ∧ (ltT a b != c) = true:=by cases c <;> decide +kernel
set_option tactic.hygienic true in
theorem kkr (r:Int):∀ (f:Nat) (pre:List (List Nat)),(ordN r f pre pre.length).Pairwise fun x y=>lessN r 0 x y = true
  | 0,_=>List.Pairwise.nil
  | f + 1,pre=>by
    have inner:((headsT (bit0 r pre.length)).flatMap fun h=>ordN r f (pre ++ [h]) (pre.length + 1)).Pairwise fun x y=>lessN r 0 x y = true:=by
      rw [List.pairwise_flatMap]
      refine ⟨fun h _=>?_, ?_⟩
      · have:=kkr r f (pre ++ [h])
        rwa [List.length_append] at this
      · refine (heads_pw (bit0 r pre.length)).imp fun {a b} ⟨hn,hl⟩ x hx y hy=>?_
        obtain ⟨t,rfl⟩:=kdx r _ _ _ _ hx
        obtain ⟨u,rfl⟩:=kdx r _ _ _ _ hy
        rw [List.append_assoc,List.append_assoc,kdz]
        show lessN r (0 + pre.length) (a :: t) (b :: u) = true
        rw [Nat.zero_add,lessN,if_neg (by simpa using hn)]
        exact hl
    have cross:∀ y ∈ (headsT (bit0 r pre.length)).flatMap fun h=>ordN r f (pre ++ [h]) (pre.length + 1), ∃ b u,y = pre ++ b :: u:=fun y hy=>by
      obtain ⟨b,_,hb⟩:=List.mem_flatMap.mp hy
      obtain ⟨u,rfl⟩:=kdx r _ _ _ _ hb
      exact ⟨b,u,by simp⟩
    unfold ordN
    split
    · rename_i h1
      rw [List.pairwise_append]
      refine ⟨inner,List.pairwise_singleton _ _,fun x hx y hy=>?_⟩
      obtain ⟨b,u,rfl⟩:=cross x hx
      rw [List.mem_singleton.mp hy]
      have:=kdz r pre (b :: u) [] 0
      rw [List.append_nil] at this
      rw [this,Nat.zero_add]; exact h1
    · rename_i h1
      rw [List.pairwise_append]
      refine ⟨List.pairwise_singleton _ _,inner,fun x hx y hy=>?_⟩
      obtain ⟨b,u,rfl⟩:=cross y hy
      rw [List.mem_singleton.mp hx]
      have:=kdz r pre [] (b :: u) 0
      rw [List.append_nil] at this
      rw [this,Nat.zero_add]
      show (!bit1 r pre.length) = true
      simpa using h1
end Mine
end
section
open PySem PySem.W PyProof.Rows PySem.Calls PySem.Spec
set_option maxRecDepth 100000
namespace Mine
section
noncomputable def selN (rows:List Row) (c:List (List Nat)):List Int:=(rows.filter fun p=>p.1 == c).map (·.2)
theorem kju {α β:Type}(g:α → List β):∀ (hs:List α) (acc:List β),hs.foldl (fun acc h=>acc ++ g h) acc = acc ++ hs.flatMap g
  | [],acc=>by simp
  | h :: hs,acc=>by
    show hs.foldl (fun acc h=>acc ++ g h) (acc ++ g h) = _
    rw [kju g hs,List.flatMap_cons,List.append_assoc]
theorem flatMap_congr' {α β:Type}{f g:α → List β} : ∀ {l:List α},(∀ a ∈ l,f a = g a) → l.flatMap f = l.flatMap g
  | [],_=>rfl
  | a :: l,h=>by rw [List.flatMap_cons,List.flatMap_cons,h a (.head _),flatMap_congr' fun b hb=>h b (.tail _ hb)]
theorem kfb {α β γ:Type}(f:β → List γ) (g:α → List β):∀ (l:List α),(l.flatMap g).flatMap f = l.flatMap fun a=>(g a).flatMap f
  | []=>rfl
  | a :: l=>by rw [List.flatMap_cons,List.flatMap_append,List.flatMap_cons,kfb f g l]
theorem flatMap_nil' {α β:Type}{f:α → List β} : ∀ {l:List α},(∀ a ∈ l,f a = []) → l.flatMap f = []
  | [],_=>rfl
  | a :: l,h=>by rw [List.flatMap_cons,h a (.head _),flatMap_nil' fun b hb=>h b (.tail _ hb)]; rfl
set_option tactic.hygienic true in
theorem kkh (r:Int):∀ (f:Nat) (rows:List Row) (pre:List (List Nat)),(∀ p ∈ rows, ∃ t,p.1 = pre ++ t) → walkT f rows pre.length r = (ordN r f pre pre.length).flatMap (selN rows)
  | 0,_,_,_=>rfl
  | f + 1,rows,pre,hp=>by
    have inner:(headsT (bit0 r pre.length)).foldl (fun acc h=>acc ++ walkT f (rows.filter fun p=>sl (some (pre.length:Int)) (some ((pre.length:Int) + 1)) p.1 == [h]) (pre.length + 1) r) [] =
        ((headsT (bit0 r pre.length)).flatMap fun h=>ordN r f (pre ++ [h]) (pre.length + 1)).flatMap (selN rows):=by
      rw [kju,List.nil_append,kfb]
      refine flatMap_congr' fun h hh=>?_
      have hsl:∀ p ∈ rows, ∀ t,p.1 = pre ++ t → sl (some (pre.length:Int)) (some ((pre.length:Int) + 1)) p.1 = t.take 1:=fun p hm t e=>by
        rw [sl_at (by rw [e,List.length_append]; lia),e,List.drop_left]
      have ih:=kkh r f (rows.filter fun p=>sl (some (pre.length:Int)) (some ((pre.length:Int) + 1)) p.1 == [h]) (pre ++ [h]) (fun p hm=>by
        obtain ⟨h1,h2⟩:=List.mem_filter.mp hm
        obtain ⟨t,e⟩:=hp p h1
        rw [hsl p h1 t e] at h2
        match t,h2 with
        | l :: t,h2 =>
          have:l = h:=by simpa using h2
          subst this
          exact ⟨t,by rw [e]; simp⟩)
      rw [List.length_append] at ih
      have ih':walkT f (rows.filter fun p=>sl (some (pre.length:Int)) (some ((pre.length:Int) + 1)) p.1 == [h]) (pre.length + 1) r = _:=ih
      rw [ih']
      refine flatMap_congr' fun c hc=>?_
      obtain ⟨u,rfl⟩:=kdx r _ _ _ _ hc
      unfold selN
      rw [List.filter_filter]
      congr 1
      refine List.filter_congr fun p hm=>?_
      cases q:(p.1 == pre ++ [h] ++ u) with
      | false=>rfl
      | true =>
        have e:p.1 = pre ++ (h :: u):=by rw [beq_iff_eq.mp q]; simp
        rw [hsl p hm _ e]; simp
    have here:(rows.filter fun p=>(p.1.length:Int) == (pre.length:Int)).map (·.2) = selN rows pre:=by
      unfold selN
      congr 1
      refine List.filter_congr fun p hm=>?_
      obtain ⟨t,e⟩:=hp p hm
      rw [e]
      cases t with
      | nil=>simp
      | cons l t =>
        have h1:pre ++ l :: t ≠ pre:=fun q=>by have:=congrArg List.length q; rw [List.length_append,List.length_cons] at this; lia
        rw [beq_eq_false_iff_ne.mpr h1]
        exact beq_eq_false_iff_ne.mpr (by rw [List.length_append,List.length_cons]; lia)
    unfold walkT
    split
    · rename_i h0
      have:rows = []:=by simpa using h0
      subst this
      exact (flatMap_nil' fun c _=>rfl).symm
    · rw [inner,here,ordN]
      split
      · rw [List.flatMap_append,List.flatMap_cons,List.flatMap_nil,List.append_nil]
      · rw [List.flatMap_append,List.flatMap_cons,List.flatMap_nil,List.append_nil]
theorem kj4 {α:Type}{R:α → α → Prop}(asym:∀ a b,R a b → ¬ R b a):∀ (l m:List α),l.Pairwise R → m.Pairwise R → (∀ a,a ∈ l ↔ a ∈ m) → l = m
  | [],[],_,_,_=>rfl
  | [],b :: m,_,_,h=>by have:=(h b).mpr (.head _); cases this
  | a :: l,[],_,_,h=>by have:=(h a).mp (.head _); cases this
  | a :: l,b :: m,hl,hm,h=>by
    rw [List.pairwise_cons] at hl hm
    have irr:∀ x, ¬ R x x:=fun x q=>asym x x q q
    have e:a = b:=by
      rcases List.mem_cons.mp ((h a).mp (.head _)) with e | ha
      · exact e
      · rcases List.mem_cons.mp ((h b).mpr (.head _)) with e | hb
        · exact e.symm
        · exact absurd (hm.1 a ha) (asym _ _ (hl.1 b hb))
    subst e
    rw [kj4 asym l m hl.2 hm.2 fun x=>?_]
    constructor
    · intro hx
      rcases List.mem_cons.mp ((h x).mp (.tail _ hx)) with e | hx'
      · subst e; exact absurd (hl.1 x hx) (irr x)
      · exact hx'
    · intro hx
      rcases List.mem_cons.mp ((h x).mpr (.tail _ hx)) with e | hx'
      · subst e; exact absurd (hm.1 x hx) (irr x)
      · exact hx'
noncomputable def RN (r:Int) (ns:Nat → List (List Nat)) (i j:Int):Prop:=lessN r 0 (ns i.toNat) (ns j.toNat) = true ∨ (ns i.toNat = ns j.toNat ∧ i < j)
noncomputable def rowsN (ns:Nat → List (List Nat)):List Row:=(List.range 5).map fun i=>(ns i,(i:Int))
section
variable {r:Int}{ns:Nat → List (List Nat)}(hn:∀ i,inLet (ns i) ∧ (ns i).length < 4)
include hn
theorem RN_asym (i j:Int) (h:RN r ns i j):¬ RN r ns j i:=by
  intro h'
  rcases h with h | ⟨h,h2⟩ <;> rcases h' with h' | ⟨h',h2'⟩
  · by_cases e:ns i.toNat = ns j.toNat
    · rw [e,kbf] at h; cases h
    · rw [kd8 r 0 _ _ (hn _).1 (hn _).1 e,h] at h'; cases h'
  · rw [h',kbf] at h; cases h
  · rw [h,kbf] at h'; cases h'
  · lia
theorem kkg:(walkT 4 (rowsN ns) 0 r).Pairwise (RN r ns):=by
  have e:=kkh r 4 (rowsN ns) [] (fun p _=>⟨p.1,rfl⟩)
  have e':walkT 4 (rowsN ns) 0 r = (ordN r 4 [] 0).flatMap (selN (rowsN ns)):=e
  rw [e',List.pairwise_flatMap]
  have sel:∀ (c:List (List Nat)) (x:Int),x ∈ selN (rowsN ns) c → ns x.toNat = c:=fun c x hx=>by
    obtain ⟨p,hp,rfl⟩:=List.mem_map.mp hx
    obtain ⟨h1,h2⟩:=List.mem_filter.mp hp
    obtain ⟨i,hi,rfl⟩:=List.mem_map.mp h1
    simpa using h2
  refine ⟨fun c _=>?_, ?_⟩
  · unfold selN rowsN
    rw [List.pairwise_map]
    refine List.Pairwise.imp_of_mem (R:=fun a b:Row=>a.2 < b.2) (fun {a b} ha hb h=>?_) ?_
    · have h1:=sel c a.2 (List.mem_map.mpr ⟨a,ha,rfl⟩)
      have h2:=sel c b.2 (List.mem_map.mpr ⟨b,hb,rfl⟩)
      exact .inr ⟨h1.trans h2.symm,h⟩
    · refine List.Pairwise.filter _ ?_
      rw [List.pairwise_map]
      exact List.Pairwise.imp (fun h=>by simpa using h) (List.pairwise_lt_range (n:=5))
  · have pw:=kkr r 4 []
    refine List.Pairwise.imp (fun {c c'} h x hx y hy=>?_) pw
    rw [← sel c x hx, ← sel c' y hy] at h
    exact .inl h
theorem kdr (x:Int):x ∈ walkT 4 (rowsN ns) 0 r ↔ ∃ i,i < 5 ∧ x = (i:Nat):=by
  have e':walkT 4 (rowsN ns) 0 r = (ordN r 4 [] 0).flatMap (selN (rowsN ns)):=kkh r 4 (rowsN ns) [] (fun p _=>⟨p.1,rfl⟩)
  rw [e',List.mem_flatMap]
  constructor
  · rintro ⟨c,_,hx⟩
    obtain ⟨p,hp,rfl⟩:=List.mem_map.mp hx
    obtain ⟨h1,h2⟩:=List.mem_filter.mp hp
    obtain ⟨i,hi,rfl⟩:=List.mem_map.mp h1
    exact ⟨i,List.mem_range.mp hi,rfl⟩
  · rintro ⟨i,hi,rfl⟩
    refine ⟨ns i, ?_,List.mem_map.mpr ⟨(ns i,(i:Int)),List.mem_filter.mpr ⟨List.mem_map.mpr ⟨i,List.mem_range.mpr hi,rfl⟩,by simp⟩,rfl⟩⟩
    have:=ki1 r 4 [] 0 (ns i) (hn i).1 (hn i).2
    rwa [List.nil_append] at this
end
end
set_option tactic.hygienic true in
theorem kjs {acc:List (List (List Nat))}{n:List (List Nat)}{k:Nat}(h:acc.Nodup):(frontStep acc n k).Nodup:=by
  unfold frontStep
  split
  · exact h
  · rename_i q
    rw [List.nodup_append]
    refine ⟨h,by simp,fun a ha b hb e=>?_⟩
    rw [List.mem_singleton.mp hb] at e
    subst e
    exact q (List.contains_iff_mem.mpr ha)
set_option tactic.hygienic true in
theorem kie {acc:List (List (List Nat))}{n f:List (List Nat)}{k:Nat} : f ∈ frontStep acc n k ↔ f ∈ acc ∨ f = n.take k:=by
  unfold frontStep
  split
  · rename_i q
    constructor
    · exact .inl
    · rintro (h | rfl)
      · exact h
      · exact List.contains_iff_mem.mp q
  · rw [List.mem_append,List.mem_singleton]
theorem kfa (n:List (List Nat)):∀ (is:List Nat) (acc:List (List (List Nat))),acc.Nodup → (is.foldl (fun acc i=>frontStep acc n (1 + i)) acc).Nodup ∧ ∀ f,f ∈ is.foldl (fun acc i=>frontStep acc n (1 + i)) acc ↔ f ∈ acc ∨ ∃ i ∈ is,f = n.take (1 + i)
  | [],acc,h=>⟨h,fun f=>by simp⟩
  | i :: is,acc,h=>by
    obtain ⟨h1,h2⟩:=kfa n is (frontStep acc n (1 + i)) (kjs h)
    refine ⟨h1,fun f=>?_⟩
    show f ∈ is.foldl _ (frontStep acc n (1 + i)) ↔ _
    rw [h2 f,kie]
    constructor
    · rintro ((h | h) | ⟨j,hj,h⟩)
      · exact .inl h
      · exact .inr ⟨i, .head _,h⟩
      · exact .inr ⟨j, .tail _ hj,h⟩
    · rintro (h | ⟨j,hj,h⟩)
      · exact .inl (.inl h)
      · rcases List.mem_cons.mp hj with rfl | hj
        · exact .inl (.inr h)
        · exact .inr ⟨j,hj,h⟩
theorem keq:∀ (rows:List (List (List Nat))) (acc:List (List (List Nat))),acc.Nodup → (rows.foldl frontRow acc).Nodup ∧ ∀ f,f ∈ rows.foldl frontRow acc ↔ f ∈ acc ∨ ∃ n ∈ rows, ∃ i,i < n.length ∧ f = n.take (1 + i)
  | [],acc,h=>⟨h,fun f=>by simp⟩
  | n :: rows,acc,h=>by
    have a:=kfa n (List.range n.length) acc h
    obtain ⟨h1,h2⟩:=keq rows (frontRow acc n) a.1
    refine ⟨h1,fun f=>?_⟩
    show f ∈ rows.foldl frontRow (frontRow acc n) ↔ _
    rw [h2 f]
    have a2:f ∈ frontRow acc n ↔ _:=a.2 f
    rw [a2]
    constructor
    · rintro ((h | ⟨i,hi,h⟩) | ⟨m,hm,h⟩)
      · exact .inl h
      · exact .inr ⟨n, .head _,i,List.mem_range.mp hi,h⟩
      · exact .inr ⟨m, .tail _ hm,h⟩
    · rintro (h | ⟨m,hm,i,hi,h⟩)
      · exact .inl (.inl h)
      · rcases List.mem_cons.mp hm with rfl | hm
        · exact .inl (.inr ⟨i,List.mem_range.mpr hi,h⟩)
        · exact .inr ⟨m,hm,i,hi,h⟩
noncomputable abbrev isPre (f n:List (List Nat)):Bool:=n.take f.length == f
theorem isPre_iff {f n:List (List Nat)} : isPre f n = true ↔ ∃ t,n = f ++ t:=by
  rw [beq_iff_eq]
  constructor
  · intro h
    have q:=(List.take_append_drop f.length n).symm
    rw [h] at q
    exact ⟨_,q⟩
  · rintro ⟨t,rfl⟩; simp
theorem take_inj {α:Type}{n:List α}{i j:Nat}(hi:i ≤ n.length) (hj:j ≤ n.length) (h:n.take i = n.take j):i = j:=by
  have:=congrArg List.length h
  rw [List.length_take,List.length_take] at this
  lia
theorem kjy {F:List (List (List Nat))}(nd:F.Nodup) {p:List (List Nat) → Bool}{c:List (List Nat)}(hp:∀ f ∈ F,p f = true ↔ (f ≠ [] ∧ ∃ t,c = f ++ t)) (hall:∀ i,i < c.length → c.take (1 + i) ∈ F):(F.filter p).length = c.length:=by
  have nd2:((List.range c.length).map fun i=>c.take (1 + i)).Nodup:=by
    rw [List.Nodup,List.pairwise_map]
    refine List.Pairwise.imp_of_mem (fun {a b} ha hb h e=>?_) (List.pairwise_lt_range (n:=c.length))
    have:=take_inj (by have:=List.mem_range.mp ha; lia) (by have:=List.mem_range.mp hb; lia) e
    lia
  have perm:(F.filter p).Perm ((List.range c.length).map fun i=>c.take (1 + i)):=(List.perm_ext_iff_of_nodup (nd.filter _) nd2).mpr fun f=>by
    rw [List.mem_filter,List.mem_map]
    constructor
    · rintro ⟨h1,h2⟩
      obtain ⟨h3,t,h4⟩:=(hp f h1).mp h2
      have hl:f.length ≠ 0:=fun q=>h3 (List.length_eq_zero_iff.mp q)
      refine ⟨f.length - 1,List.mem_range.mpr ?_, ?_⟩
      · rw [h4,List.length_append]; lia
      · rw [show 1 + (f.length - 1) = f.length from by lia,h4]; simp
    · rintro ⟨i,hi,rfl⟩
      have hi:=List.mem_range.mp hi
      have h1:=hall i hi
      refine ⟨h1,(hp _ h1).mpr ⟨fun q=>?_,c.drop (1 + i),(List.take_append_drop _ _).symm⟩⟩
      have:=congrArg List.length q
      rw [List.length_take,List.length_nil] at this
      lia
  rw [perm.length_eq,List.length_map,List.length_range]
theorem kiq {α:Type}(p q:α → Bool):∀ l:List α,(l.filter fun a=>p a != q a).length + 2 * (l.filter fun a=>p a && q a).length = (l.filter p).length + (l.filter q).length
  | []=>rfl
  | a :: l=>by
    have ih:=kiq p q l
    rw [List.filter_cons,List.filter_cons,List.filter_cons,List.filter_cons]
    cases p a <;> cases q a <;> simp <;> lia
theorem lcp_both:∀ (f x y:List (List Nat)),(∃ t,lcpN x y = f ++ t) ↔ (∃ t,x = f ++ t) ∧ ∃ t,y = f ++ t
  | [],x,y=>by simp
  | a :: f,[],y=>by
    have:lcpN [] y = []:=by cases y <;> rfl
    rw [this]; simp
  | a :: f,b :: x,[]=>by
    have:lcpN (b :: x) [] = []:=rfl
    rw [this]; simp
  | a :: f,b :: x,c :: y=>by
    by_cases e:b = c
    · subst e
      rw [lcpN,if_pos (beq_self_eq_true b)]
      have ih:=lcp_both f x y
      constructor
      · rintro ⟨t,h⟩
        rw [List.cons_append,List.cons.injEq] at h
        obtain ⟨⟨u,hu⟩,⟨v,hv⟩⟩:=ih.mp ⟨t,h.2⟩
        exact ⟨⟨u,by rw [h.1,hu]; rfl⟩,⟨v,by rw [h.1,hv]; rfl⟩⟩
      · rintro ⟨⟨u,hu⟩,⟨v,hv⟩⟩
        rw [List.cons_append,List.cons.injEq] at hu hv
        obtain ⟨t,ht⟩:=ih.mpr ⟨⟨u,hu.2⟩,⟨v,hv.2⟩⟩
        exact ⟨t,by rw [hu.1,ht]; rfl⟩
    · rw [lcpN,if_neg (by simp [e])]
      constructor
      · rintro ⟨t,h⟩; cases h
      · rintro ⟨⟨u,hu⟩,⟨v,hv⟩⟩
        rw [List.cons_append,List.cons.injEq] at hu hv
        exact absurd (hu.1.trans hv.1.symm) e
noncomputable def distN (rows:List (List (List Nat))) (x y:List (List Nat)):Nat:=((frontsT rows).filter fun f=>isPre f x != isPre f y).length
theorem dist_eq {rows:List (List (List Nat))}{x y:List (List Nat)}(hx:x ∈ rows) (hy:y ∈ rows):(x.length:Int) + (y.length:Int) - 2 * ((lcpN x y).length:Int) = (distN rows x y:Int):=by
  obtain ⟨nd,mem⟩:=keq rows [] List.nodup_nil
  have mem:∀ f,f ∈ frontsT rows ↔ ∃ n ∈ rows, ∃ i,i < n.length ∧ f = n.take (1 + i):=fun f=>(mem f).trans (by simp)
  have nonempty:∀ f ∈ frontsT rows,f ≠ []:=fun f hf q=>by
    obtain ⟨n,_,i,hi,e⟩:=(mem f).mp hf
    have:=congrArg List.length (e.symm.trans q)
    rw [List.length_take,List.length_nil] at this
    lia
  have one:∀ c ∈ rows,((frontsT rows).filter fun f=>isPre f c).length = c.length:=fun c hc =>
    kjy nd (fun f hf=>by rw [isPre_iff]; exact ⟨fun h=>⟨nonempty f hf,h⟩,fun h=>h.2⟩) fun i hi=>(mem _).mpr ⟨c,hc,i,hi,rfl⟩
  have two:((frontsT rows).filter fun f=>isPre f x && isPre f y).length = (lcpN x y).length:=by
    refine kjy nd (fun f hf=>?_) fun i hi=>?_
    · rw [Bool.and_eq_true,isPre_iff,isPre_iff,lcp_both]
      exact ⟨fun h=>⟨nonempty f hf,h⟩,fun h=>h.2⟩
    · refine (mem _).mpr ⟨x,hx,i, ?_, ?_⟩
      · have:=congrArg List.length (kd1 x y)
        rw [List.length_take] at this; lia
      · have e:=kd1 x y
        have e2:(lcpN x y).take (1 + i) = (x.take (lcpN x y).length).take (1 + i):=by rw [← e]
        rw [e2,List.take_take]; congr 1; lia
  have:=kiq (fun f=>isPre f x) (fun f=>isPre f y) (frontsT rows)
  rw [one x hx,one y hy,two] at this
  unfold distN
  lia
section
noncomputable abbrev tab0 (D:Nat → Nat → Int) (i j:Nat):Int:=if j < i then D i j else if i < j then D j i else 0
theorem tab_at {D:Nat → Nat → Int} : ∀ i j:Nat,i < 5 → j < 5 → tabT (tableT D) (i:Int) (j:Int) = tab0 D i j:=fun i j hi hj=>by
  have r:∀ i:Nat, ∀ _:(∀ j:Nat,j < 5 → tabT (tableT D) (i:Int) (j:Int) = tab0 D i j), ∀ j:Nat,j < 5 → tabT (tableT D) (i:Int) (j:Int) = tab0 D i j:=fun _ h=>h
  refine lt5 (P:=fun i=>∀ j:Nat,j < 5 → tabT (tableT D) (i:Int) (j:Int) = tab0 D i j) (r 0 ?_) (r 1 ?_) (r 2 ?_) (r 3 ?_) (r 4 ?_) i hi j hj
  all_goals exact lt5 (by kernel_rfl) (by kernel_rfl) (by kernel_rfl) (by kernel_rfl) (by kernel_rfl)
theorem five_count (g:Nat → Bool):((List.range 5).filter g).length = (g 0).toNat + (g 1).toNat + (g 2).toNat + (g 3).toNat + (g 4).toNat:=by
  have:List.range 5 = [0,1,2,3,4]:=rfl
  rw [this]
  simp only [List.filter_cons,List.filter_nil]
  cases g 0 <;> cases g 1 <;> cases g 2 <;> cases g 3 <;> cases g 4 <;> rfl
theorem tour_five (a b c d:Int) (t:List (List Int)):tourT [0,a,b,c,d] t = 0 + tabT t d ((0:Nat):Int) + tabT t ((0:Nat):Int) a + tabT t a b + tabT t b c + tabT t c d:=rfl
theorem cross_sum {a b c d:Int}{s:List Bool} : crossT [0,a,b,c,d] s = (sB s 0 != sB s d).toNat + (sB s a != sB s 0).toNat + (sB s b != sB s a).toNat + (sB s c != sB s b).toNat + (sB s d != sB s c).toNat:=by
  exact five_count _
theorem side_facts:∀ rest ∈ ordersT 4 [1,2,3,4], ∀ a b c d e:Bool,
    (([a,b,c,d,e].contains false && [a,b,c,d,e].contains true) = true → 2 ≤ crossT (0 :: rest) [a,b,c,d,e] ∧ (¬ (([a,b,c,d,e].filter id).length = 2 ∨ ([a,b,c,d,e].filter id).length = 3) → crossT (0 :: rest) [a,b,c,d,e] = 2)) ∧
    ([a,b,c,d,e].contains false = false → crossT (0 :: rest) [a,b,c,d,e] = 0):=by decide +kernel
theorem len_four {α:Type}{l:List α}(h:l.length = 4):∃ a b c d,l = [a,b,c,d]:=len4 (P:=fun l=>∃ a b c d,l = [a,b,c,d]) (fun _ _ _ _=>⟨_,_,_,_,rfl⟩) l h
theorem len_five {α:Type}{l:List α}(h:l.length = 5):∃ a b c d e,l = [a,b,c,d,e]:=len5 (P:=fun l=>∃ a b c d e,l = [a,b,c,d,e]) (fun _ _ _ _ _=>⟨_,_,_,_,_,rfl⟩) l h
theorem side_ok {rest:List Int}(hr:rest ∈ ordersT 4 [1,2,3,4]) {s:List Bool}(hs:s.length = 5) :
    (s.contains false = true → s.contains true = true → 2 ≤ crossT (0 :: rest) s ∧ (¬ ((s.filter id).length = 2 ∨ (s.filter id).length = 3) → crossT (0 :: rest) s = 2)) ∧ (s.contains false = false → crossT (0 :: rest) s = 0):=by
  obtain ⟨a,b,c,d,e,rfl⟩:=len_five hs
  obtain ⟨h1,h2⟩:=side_facts rest hr a b c d e
  exact ⟨fun x y=>h1 (by rw [x,y]; rfl),h2⟩
theorem kix {cr:List Bool → Nat} : ∀ (L:List (List Bool)),(∀ s ∈ L,2 ≤ cr s ∧ (¬ ((s.filter id).length = 2 ∨ (s.filter id).length = 3) → cr s = 2)) →
    2 * L.length ≤ (L.map cr).sum ∧ ((L.map cr).sum = 2 * L.length ↔ ((sharedT L).filter fun s=>decide (2 < cr s)).isEmpty = true)
  | [],_=>by simp [sharedT]
  | s :: L,h=>by
    obtain ⟨i1,i2⟩:=kix L fun x hx=>h x (.tail _ hx)
    obtain ⟨h1,h2⟩:=h s (.head _)
    have e:((sharedT (s :: L)).filter fun s=>decide (2 < cr s)).isEmpty = true ↔ cr s ≤ 2 ∧ ((sharedT L).filter fun s=>decide (2 < cr s)).isEmpty = true:=by
      have:sharedT (s :: L) = if decide ((s.filter id).length = 2 ∨ (s.filter id).length = 3) = true then s :: sharedT L else sharedT L:=by
        unfold sharedT; rw [List.filter_cons]
      rw [this]
      by_cases q:(s.filter id).length = 2 ∨ (s.filter id).length = 3
      · rw [if_pos (by simpa using q),List.filter_cons]
        by_cases z:2 < cr s
        · rw [if_pos (by simpa using z)]; simp; lia
        · rw [if_neg (by simpa using z)]; simp only [Nat.not_lt.mp z,true_and]
      · rw [if_neg (by simpa using q)]
        have:=h2 q
        simp only [this,Nat.le_refl,true_and]
    rw [e, ← i2,List.map_cons,List.sum_cons,List.length_cons]
    refine ⟨by lia,⟨fun q=>⟨by lia,by lia⟩,fun ⟨q1,q2⟩=>by lia⟩⟩
theorem sum_five {α:Type}(p1 p2 p3 p4 p5:α → Bool):∀ F:List α,(F.map fun f=>(p1 f).toNat + (p2 f).toNat + (p3 f).toNat + (p4 f).toNat + (p5 f).toNat).sum = (F.filter p1).length + (F.filter p2).length + (F.filter p3).length + (F.filter p4).length + (F.filter p5).length
  | []=>rfl
  | f :: F=>by
    have ih:=sum_five p1 p2 p3 p4 p5 F
    rw [List.map_cons,List.sum_cons,ih]
    simp only [List.filter_cons]
    cases p1 f <;> cases p2 f <;> cases p3 f <;> cases p4 f <;> cases p5 f <;> simp <;> lia
theorem sum_drop {cr:List Bool → Nat} : ∀ (L:List (List Bool)),(∀ s ∈ L,s.contains false = false → cr s = 0) → ((L.filter fun s=>s.contains false).map cr).sum = (L.map cr).sum
  | [],_=>rfl
  | s :: L,h=>by
    have ih:=sum_drop L fun x hx=>h x (.tail _ hx)
    rw [List.filter_cons,List.map_cons,List.sum_cons]
    cases q:s.contains false with
    | true=>rw [if_pos rfl,List.map_cons,List.sum_cons,ih]
    | false=>rw [if_neg (by decide),ih,h s (.head _) q]; lia
section
variable {rows:List (List (List Nat))}(hz:rows.length = 5)
include hz
theorem kfy {f:List (List Nat)}{k:Nat}(hk:k < 5):sB (sideOf rows f) (k:Int) = isPre f (rows.getD k []):=by
  unfold sB sideOf
  rw [Int.toNat_natCast,List.getD_eq_getElem?_getD,List.getD_eq_getElem?_getD,List.getElem?_map,List.getElem?_eq_getElem (by lia)]
  rfl
theorem dist_self (x:List (List Nat)):distN rows x x = 0:=by
  unfold distN
  simp
theorem kca (x y:List (List Nat)):distN rows x y = distN rows y x:=by
  unfold distN
  congr 2
  funext f
  cases isPre f x <;> cases isPre f y <;> rfl
set_option tactic.hygienic true in
theorem toursOk_of {D:Nat → Nat → Int}(hD:∀ k j,k < 5 → j < 5 → D k j = (distN rows (rows.getD k []) (rows.getD j []):Int)):toursOk (tableT D) (sidesT rows):=by
  intro rest hr _
  obtain ⟨hl,ho⟩:=orders4 rest hr
  have tab:∀ i j:Nat,i < 5 → j < 5 → tabT (tableT D) (i:Int) (j:Int) = (distN rows (rows.getD i []) (rows.getD j []):Int):=fun i j hi hj=>by
    rw [tab_at i j hi hj]
    unfold tab0
    split
    · exact hD i j hi hj
    · split
      · rw [hD j i hj hi,kca hz]
      · have:i = j:=by lia
        subst this
        rw [dist_self hz]; rfl
  obtain ⟨a,b,c,d,rfl⟩:=len_four hl
  · have ra:=ho.2 a (.tail _ (.head _))
    have rb:=ho.2 b (.tail _ (.tail _ (.head _)))
    have rc:=ho.2 c (.tail _ (.tail _ (.tail _ (.head _))))
    have rd:=ho.2 d (.tail _ (.tail _ (.tail _ (.tail _ (.head _)))))
    obtain ⟨a,rfl⟩:=Int.eq_ofNat_of_zero_le ra.1
    obtain ⟨b,rfl⟩:=Int.eq_ofNat_of_zero_le rb.1
    obtain ⟨c,rfl⟩:=Int.eq_ofNat_of_zero_le rc.1
    obtain ⟨d,rfl⟩:=Int.eq_ofNat_of_zero_le rd.1
    have ha:a < 5:=by lia
    have hb:b < 5:=by lia
    have hc:c < 5:=by lia
    have hd:d < 5:=by lia
    let N:=fun k:Nat=>rows.getD k []
    have tour:tourT [0,(a:Int),b,c,d] (tableT D) = ((((sidesT rows).map (crossT [0,(a:Int),b,c,d])).sum:Nat):Int):=by
      rw [tour_five,tab d 0 hd (by lia),tab 0 a (by lia) ha,tab a b ha hb,tab b c hb hc,tab c d hc hd]
      have e2:((sidesT rows).map (crossT [0,(a:Int),b,c,d])).sum = (((frontsT rows).map (sideOf rows)).map (crossT [0,(a:Int),b,c,d])).sum:=sum_drop _ fun s hs q=>by
        obtain ⟨f,_,rfl⟩:=List.mem_map.mp hs
        exact (side_ok hr (by unfold sideOf; rw [List.length_map,hz])).2 q
      have e3:(((frontsT rows).map (sideOf rows)).map (crossT [0,(a:Int),b,c,d])).sum = ((frontsT rows).map fun f=>(isPre f (N 0) != isPre f (N d)).toNat + (isPre f (N a) != isPre f (N 0)).toNat + (isPre f (N b) != isPre f (N a)).toNat + (isPre f (N c) != isPre f (N b)).toNat + (isPre f (N d) != isPre f (N c)).toNat).sum:=by
        rw [List.map_map]
        congr 1
        refine List.map_congr_left fun f _=>?_
        show crossT [0,(a:Int),b,c,d] (sideOf rows f) = _
        have h0:=kfy hz (f:=f) (k:=0) (by lia)
        rw [cross_sum,kfy hz ha,kfy hz hb,kfy hz hc,kfy hz hd]
        rw [show sB (sideOf rows f) 0 = isPre f (N 0) from h0]
      rw [e2,e3,sum_five]
      have c0:=kca hz (N 0) (N d)
      have c1:=kca hz (N a) (N 0)
      have c2:=kca hz (N b) (N a)
      have c3:=kca hz (N c) (N b)
      have c4:=kca hz (N d) (N c)
      show _ = ((distN rows (N 0) (N d) + distN rows (N a) (N 0) + distN rows (N b) (N a) + distN rows (N c) (N b) + distN rows (N d) (N c):Nat):Int)
      rw [c0,c1,c2,c3,c4]
      show 0 + (distN rows (N d) (N 0):Int) + (distN rows (N 0) (N a):Int) + (distN rows (N a) (N b):Int) + (distN rows (N b) (N c):Int) + (distN rows (N c) (N d):Int) = _
      lia
    have all:=kix (cr:=crossT [0,(a:Int),b,c,d]) (sidesT rows) fun s hs=>by
      obtain ⟨h1,h2⟩:=List.mem_filter.mp hs
      obtain ⟨f,hf,rfl⟩:=List.mem_map.mp h1
      have mem:=(keq rows [] List.nodup_nil).2 f
      have hf':f ∈ rows.foldl frontRow []:=hf
      rcases mem.mp hf' with h | ⟨n,hn,i,hi,e⟩
      · cases h
      refine (side_ok hr (by unfold sideOf; rw [List.length_map,hz])).1 h2 (List.contains_iff_mem.mpr (List.mem_map.mpr ⟨n,hn, ?_⟩))
      rw [e]
      exact isPre_iff.mpr ⟨n.drop (1 + i),(List.take_append_drop _ _).symm⟩
    rw [tour]
    refine ⟨by have:=all.1; lia, ?_⟩
    have h2:=all.2
    constructor
    · intro q
      exact h2.mp (by lia)
    · intro q
      have:=h2.mpr q
      lia
end
end
noncomputable def kasRun {α:Type}(lt:Nat → Nat → Bool):KasT α → α
  | .ret a=>a
  | .ask i j k=>kasRun lt (k (lt i j))
noncomputable def kasOk {α:Type}(n:Nat):KasT α → Bool
  | .ret _=>true
  | .ask i j k=>Nat.blt i n && Nat.blt j n && kasOk n (k true) && kasOk n (k false)
theorem kasOk.ask {α:Type}{n i j:Nat}{k:Bool → KasT α}(h:kasOk n (.ask i j k) = true):i < n ∧ j < n ∧ ∀ b,kasOk n (k b) = true:=by
  simp only [kasOk,Bool.and_eq_true] at h
  obtain ⟨⟨⟨h1,h2⟩,h3⟩,h4⟩:=h
  exact ⟨Nat.le_of_ble_eq_true h1,Nat.le_of_ble_eq_true h2,fun b=>by cases b <;> assumption⟩
theorem kf7 {α:Type}{n:Nat}{lt lt':Nat → Nat → Bool}(h:∀ i j,i < n → j < n → lt i j = lt' i j):∀ t:KasT α,kasOk n t = true → kasRun lt t = kasRun lt' t
  | .ret _,_=>rfl
  | .ask i j k,o=>by
    obtain ⟨h1,h2,h3⟩:=kasOk.ask o
    show kasRun lt (k (lt i j)) = kasRun lt' (k (lt' i j))
    rw [h i j h1 h2]
    exact kf7 h (k (lt' i j)) (h3 _)
theorem kjh {α:Type}{n:Nat}{lt:Nat → Nat → Bool}{cmp:Nat → Nat → (Bool → Shared → Prop) → Shared → Prop}{I:Shared → Prop}(hc:∀ i j C s,i < n → j < n → I s → (∀ s',I s' → C (lt i j) s') → cmp i j C s) {Q:α → Shared → Prop} :
    ∀ (t:KasT α) (s:Shared),kasOk n t = true → I s → (∀ s',I s' → Q (kasRun lt t) s') → t.kasWp cmp Q s
  | .ret a,s,_,hi,hq=>hq s hi
  | .ask i j k,s,o,hi,hq=>by
    obtain ⟨h1,h2,h3⟩:=kasOk.ask o
    exact hc i j _ s h1 h2 hi fun s' hi'=>kjh hc (k (lt i j)) s' (h3 _) hi' hq
theorem sort_ok:kasOk 5 (kas_sort 5) = true:=by decide +kernel
noncomputable def pwB (v:Nat → Nat):List Nat → Bool
  | []=>true
  | a :: l=>(l.all fun b=>Nat.blt (v a) (v b) || (Nat.beq (v a) (v b) && Nat.blt a b)) && pwB v l
noncomputable def sortB (l:List Nat):Bool :=
  let v:=fun i=>l.getD i 0
  let r:=(kasRun (fun i j=>Nat.blt (v i) (v j)) (kas_sort 5)).toList
  pwB v r && Nat.beq r.length 5 && ((List.range 5).all fun i=>r.contains i) && (r.all fun i=>Nat.blt i 5)
theorem sort_all:((List.range 5).all fun a=>(List.range 5).all fun b=>(List.range 5).all fun c=>(List.range 5).all fun d=>(List.range 5).all fun e=>sortB [a,b,c,d,e]) = true:=by decide +kernel
theorem pwB_iff {v:Nat → Nat} : ∀ {l:List Nat},pwB v l = true → l.Pairwise fun a b=>v a < v b ∨ (v a = v b ∧ a < b)
  | [],_=>List.Pairwise.nil
  | a :: l,h=>by
    simp only [pwB,Bool.and_eq_true,List.all_eq_true,Bool.or_eq_true] at h
    refine List.Pairwise.cons (fun b hb=>?_) (pwB_iff h.2)
    rcases h.1 b hb with q | ⟨q1,q2⟩
    · exact .inl (Nat.le_of_ble_eq_true q)
    · exact .inr ⟨Nat.eq_of_beq_eq_true q1,Nat.le_of_ble_eq_true q2⟩
noncomputable def lowN (rk:Nat → Nat) (i:Nat):Nat:=((List.range 5).filter fun j=>decide (rk j < rk i)).length
theorem kjw {p q:Nat → Bool}(h:∀ a,p a = true → q a = true):∀ l:List Nat,(l.filter p).length ≤ (l.filter q).length
  | []=>Nat.le_refl _
  | a :: l=>by
    have ih:=kjw h l
    rw [List.filter_cons,List.filter_cons]
    cases e:p a with
    | true=>rw [h a e]; simpa using ih
    | false=>cases q a <;> simp <;> lia
theorem kga {p q:Nat → Bool}(h:∀ a,p a = true → q a = true) {x:Nat}(hp:p x = false) (hq:q x = true):∀ {l:List Nat},x ∈ l → (l.filter p).length < (l.filter q).length
  | a :: l,hm=>by
    rw [List.filter_cons,List.filter_cons]
    rcases List.mem_cons.mp hm with rfl | hm
    · have:=kjw h l
      rw [hp,hq]; simp; lia
    · have ih:=kga h hp hq hm
      cases e:p a with
      | true=>rw [h a e]; simpa using ih
      | false=>cases q a <;> simp <;> lia
theorem ki9 {rk:Nat → Nat}{i j:Nat}(hi:i < 5) (hj:j < 5):lowN rk i < lowN rk j ↔ rk i < rk j:=by
  have mono:∀ {a b:Nat},a < 5 → rk a < rk b → lowN rk a < lowN rk b:=fun {a b} ha h =>
    kga (x:=a) (fun c hc=>by simp only [decide_eq_true_eq] at hc ⊢; lia) (by simp) (by simpa using h) (List.mem_range.mpr ha)
  constructor
  · intro h
    rcases Nat.lt_trichotomy (rk i) (rk j) with q | q | q
    · exact q
    · unfold lowN at h; rw [q] at h; lia
    · have:=mono hj q; lia
  · exact mono hi
theorem lowN_bound {rk:Nat → Nat}{i:Nat}(hi:i < 5):lowN rk i < 5:=by
  have h:=kga (p:=fun j=>decide (rk j < rk i)) (q:=fun _=>true) (x:=i) (fun _ _=>rfl) (by simp) rfl (List.mem_range.mpr hi)
  have e:((List.range 5).filter fun _=>true).length = 5:=by decide
  unfold lowN; rw [e] at h; exact h
theorem getD5 (f:Nat → Nat) {i:Nat}(hi:i < 5):[f 0,f 1,f 2,f 3,f 4].getD i 0 = f i:=by
  exact lt5 (P:=fun i=>[f 0,f 1,f 2,f 3,f 4].getD i 0 = f i) rfl rfl rfl rfl rfl i hi
theorem kj7 {R S:Nat → Nat → Prop} : ∀ {l:List Nat},l.Pairwise R → (∀ a ∈ l, ∀ b ∈ l,R a b → S a b) → l.Pairwise S:=fun {l} h k=>List.Pairwise.imp_of_mem (fun {a b} ha hb r=>k a ha b hb r) h
theorem kj0 (rk:Nat → Nat):((kasRun (fun i j=>decide (rk i < rk j)) (kas_sort 5)).toList.Pairwise fun a b=>rk a < rk b ∨ (rk a = rk b ∧ a < b)) ∧
    (∀ i,i ∈ (kasRun (fun i j=>decide (rk i < rk j)) (kas_sort 5)).toList ↔ i < 5) ∧ (kasRun (fun i j=>decide (rk i < rk j)) (kas_sort 5)).toList.length = 5:=by
  have m:∀ i,i < 5 → lowN rk i ∈ List.range 5:=fun i hi=>List.mem_range.mpr (lowN_bound hi)
  have h:=List.all_eq_true.mp (List.all_eq_true.mp (List.all_eq_true.mp (List.all_eq_true.mp (List.all_eq_true.mp sort_all _ (m 0 (by lia))) _ (m 1 (by lia))) _ (m 2 (by lia))) _ (m 3 (by lia))) _ (m 4 (by lia))
  have e:kasRun (fun i j=>Nat.blt ([lowN rk 0,lowN rk 1,lowN rk 2,lowN rk 3,lowN rk 4].getD i 0) ([lowN rk 0,lowN rk 1,lowN rk 2,lowN rk 3,lowN rk 4].getD j 0)) (kas_sort 5) = kasRun (fun i j=>decide (rk i < rk j)) (kas_sort 5) :=
    kf7 (fun i j hi hj=>by
      rw [getD5 _ hi,getD5 _ hj,Bool.eq_iff_iff,decide_eq_true_eq, ← ki9 hi hj]
      exact ⟨Nat.le_of_ble_eq_true,Nat.ble_eq_true_of_le⟩) _ sort_ok
  simp only [sortB,e,Bool.and_eq_true,List.all_eq_true,List.mem_range,List.contains_iff_mem] at h
  obtain ⟨⟨⟨h1,h2⟩,h3⟩,h4⟩:=h
  have mem:∀ i,i ∈ (kasRun (fun i j=>decide (rk i < rk j)) (kas_sort 5)).toList ↔ i < 5:=fun i=>⟨fun q=>Nat.le_of_ble_eq_true (h4 i q),h3 i⟩
  refine ⟨?_,mem,Nat.eq_of_beq_eq_true h2⟩
  refine kj7 (pwB_iff h1) fun a ha b hb r=>?_
  have ha:=(mem a).mp ha
  have hb:=(mem b).mp hb
  rw [getD5 _ ha,getD5 _ hb] at r
  rcases r with r | ⟨r1,r2⟩
  · exact .inl ((ki9 ha hb).mp r)
  · refine .inr ⟨?_,r2⟩
    have x:=ki9 (rk:=rk) ha hb
    have y:=ki9 (rk:=rk) hb ha
    lia
section
theorem idx_pw {α:Type} [BEq α] [LawfulBEq α] {R:α → α → Prop}{l:List α}(pw:l.Pairwise R) {a b:α}(ha:a ∈ l) (hb:b ∈ l) (h:l.idxOf a < l.idxOf b):R a b:=by
  have h1:=List.idxOf_lt_length_of_mem ha
  have h2:=List.idxOf_lt_length_of_mem hb
  have:=(List.pairwise_iff_getElem.mp pw) (l.idxOf a) (l.idxOf b) h1 h2 h
  rwa [List.getElem_idxOf,List.getElem_idxOf] at this
theorem kky {α:Type} [BEq α] [LawfulBEq α] {l:List α}{a b:α}(ha:a ∈ l) (hb:b ∈ l) (h:l.idxOf a = l.idxOf b):a = b:=by
  have h1:=List.idxOf_lt_length_of_mem ha
  have h2:=List.idxOf_lt_length_of_mem hb
  have e1:=List.getElem_idxOf h1
  have e2:=List.getElem_idxOf h2
  rw [← e1, ← e2]
  congr 1
section
variable {r:Int}{ns:Nat → List (List Nat)}(hn:∀ i,inLet (ns i) ∧ (ns i).length < 4)
include hn
noncomputable abbrev rkN (r:Int) (ns:Nat → List (List Nat)) (i:Nat):Nat:=(ordN r 4 [] 0).idxOf (ns i)
theorem khb (i:Nat):ns i ∈ ordN r 4 [] 0:=by
  have:=ki1 r 4 [] 0 (ns i) (hn i).1 (hn i).2
  rwa [List.nil_append] at this
theorem rk_lt (i j:Nat):rkN r ns i < rkN r ns j ↔ lessN r 0 (ns i) (ns j) = true:=by
  have pw:=kkr r 4 []
  have up:∀ a b,rkN r ns a < rkN r ns b → lessN r 0 (ns a) (ns b) = true:=fun a b h=>idx_pw pw (khb hn a) (khb hn b) h
  constructor
  · exact up i j
  · intro h
    rcases Nat.lt_trichotomy (rkN r ns i) (rkN r ns j) with q | q | q
    · exact q
    · rw [kky (khb hn i) (khb hn j) q,kbf] at h; cases h
    · have h':=up j i q
      by_cases e:ns i = ns j
      · rw [e,kbf] at h; cases h
      · rw [kd8 r 0 _ _ (hn i).1 (hn j).1 e,h] at h'; cases h'
theorem rk_eq (i j:Nat):rkN r ns i = rkN r ns j ↔ ns i = ns j:=⟨fun h=>kky (khb hn i) (khb hn j) h,fun h=>by unfold rkN; rw [h]⟩
theorem sort_walk:(kasRun (fun i j=>lessN r 0 (ns i) (ns j)) (kas_sort 5)).toList.map (fun i:Nat=>(i:Int)) = walkT 4 (rowsN ns) 0 r:=by
  have e:(fun i j=>lessN r 0 (ns i) (ns j)) = fun i j=>decide (rkN r ns i < rkN r ns j):=by
    funext i j
    rw [Bool.eq_iff_iff,decide_eq_true_eq,rk_lt hn]
  rw [e]
  obtain ⟨pw,mem,_⟩:=kj0 (rkN r ns)
  refine kj4 (R:=RN r ns) (fun a b=>RN_asym hn a b) _ _ ?_ (kkg hn) fun x=>?_
  · rw [List.pairwise_map]
    refine pw.imp fun {a b} h=>?_
    rcases h with h | ⟨h1,h2⟩
    · exact .inl ((rk_lt hn a b).mp h)
    · exact .inr ⟨(rk_eq hn a b).mp h1,by lia⟩
  · rw [kdr hn,List.mem_map]
    exact ⟨fun ⟨i,h1,h2⟩=>⟨i,(mem i).mp h1,h2.symm⟩,fun ⟨i,h1,h2⟩=>⟨i,(mem i).mpr h1,h2.symm⟩⟩
theorem walk_idx {k j:Nat}(hk:k < 5) (hj:j < 5) (h:ns k ≠ ns j):decide ((walkT 4 (rowsN ns) 0 r).idxOf (k:Int) < (walkT 4 (rowsN ns) 0 r).idxOf (j:Int)) = lessN r 0 (ns k) (ns j):=by
  have mk:=(kdr hn (r:=r) (k:Int)).mpr ⟨k,hk,rfl⟩
  have mj:=(kdr hn (r:=r) (j:Int)).mpr ⟨j,hj,rfl⟩
  have strip:∀ a b:Nat,ns a ≠ ns b → RN r ns a b → lessN r 0 (ns a) (ns b) = true:=fun a b h q=>by
    rcases q with q | ⟨q,_⟩
    · exact q
    · exact absurd q h
  rw [Bool.eq_iff_iff,decide_eq_true_eq]
  constructor
  · exact fun q=>strip k j h (idx_pw (kkg hn) mk mj q)
  · intro q
    rcases Nat.lt_trichotomy ((walkT 4 (rowsN ns) 0 r).idxOf (k:Int)) ((walkT 4 (rowsN ns) 0 r).idxOf (j:Int)) with z | z | z
    · exact z
    · have:=kky mk mj z
      have:k = j:=by lia
      exact absurd (by rw [this]) h
    · have h':=strip j k (Ne.symm h) (idx_pw (kkg hn) mj mk z)
      rw [kd8 r 0 _ _ (hn k).1 (hn j).1 h,q] at h'; cases h'
theorem keys_told {k j:Nat}(hk:k < 5) (hj:j < 5) :
    let same:=ns k == ns j
    let less:=!same && decide ((walkT 4 (rowsN ns) 0 r).idxOf (k:Int) < (walkT 4 (rowsN ns) 0 r).idxOf (j:Int))
    let a:=ansN (ns k) (ns j) r
    [decide (a < 0),decide (a ≤ 0),a == 0, !(a == 0),decide (a ≥ 0),decide (a > 0)] = [less,less || same,same, !same, !less, !less && !same]:=by
  intro same less a
  have hz:(a == 0) = same:=by
    rw [Bool.eq_iff_iff,beq_iff_eq,beq_iff_eq]; exact ansN_zero r
  have hl:decide (a < 0) = less:=by
    have q:decide (a < 0) = lessN r 0 (ns k) (ns j):=by rw [Bool.eq_iff_iff,decide_eq_true_eq]; exact ansN_lt r
    rw [q]
    show _ = (!(ns k == ns j) && _)
    by_cases e:ns k = ns j
    · rw [e,kbf]; simp
    · rw [walk_idx hn hk hj e]; simp [e]
  have h1:decide (a ≤ 0) = (less || same):=by
    rw [← hl, ← hz,Bool.eq_iff_iff,Bool.or_eq_true,decide_eq_true_eq,decide_eq_true_eq,beq_iff_eq]; lia
  have h2:decide (a ≥ 0) = !less:=by
    rw [← hl]
    by_cases q:a < 0
    · rw [decide_eq_true q,decide_eq_false (by lia)]; rfl
    · rw [decide_eq_false q,decide_eq_true (by lia)]; rfl
  have h3:decide (a > 0) = (!less && !same):=by
    rw [← hl, ← hz]
    by_cases q:a < 0
    · rw [decide_eq_true q,decide_eq_false (by lia)]; rfl
    · by_cases z:a = 0
      · rw [z]; rfl
      · rw [decide_eq_false q,decide_eq_true (by lia),show (a == 0) = false from by simpa using z]; rfl
  rw [hz,hl,h1,h2,h3]
end
theorem allN_let {x:List (List Nat)}(h:x ∈ allN):inLet x ∧ x.length < 4:=by
  have:∀ x ∈ allN,(∀ l ∈ x,l ∈ letters) ∧ x.length < 4:=by decide +kernel
  exact this x h
end
section
noncomputable abbrev nsT (ms:Nat → Int) (i:Nat):List (List Nat):=namesT (piecesT (ms i))
noncomputable def rowsL (ms:Nat → Int):List (List (List Nat)):=(List.range 5).map (nsT ms)
noncomputable def placesL (ms:Nat → Int):List (List Nat):=(List.range 5).map fun i=>pathOf (nsT ms i)
noncomputable def permL (ms:Nat → Int) (r:Int):List Nat:=(kasRun (fun i j=>decide (ansN (nsT ms i) (nsT ms j) r < 0)) (kas_sort 5)).toList
section
variable (ms:Nat → Int) (b:Bool) (r:Int)
theorem ns_in (i:Nat):nsT ms i ∈ allN:=(kdi false (ms i)).2.2
theorem kg3 (i:Nat):inLet (nsT ms i) ∧ (nsT ms i).length < 4:=allN_let (ns_in ms i)
theorem place_is (i:Nat):placeT b (piecesT (ms i)) = pathOf (nsT ms i):=(kdi b (ms i)).2.1
theorem kh9 {x:List Nat}(h:x ∈ letters):okEq (T x) = true:=by
  have:∀ x ∈ letters,okEq (T x) = true:=by decide +kernel
  exact this x h
theorem six_ok (m:Int):∀ p ∈ piecesT m,okTx false p ∧ okEq (T p) = true:=fun p hp=>by
  obtain ⟨i,j,k,hi,hj,hk,e⟩:=kh6 m
  have h6:p ∈ sixT:=by
    rw [e] at hp
    rcases List.mem_cons.mp hp with rfl | hp
    · exact hi
    · rcases List.mem_cons.mp hp with rfl | hp
      · exact hj
      · rw [List.mem_singleton.mp hp]; exact hk
  have:∀ p ∈ sixT,okTxB false p = true ∧ okEq (T p) = true:=by decide +kernel
  exact ⟨okTxB.ok (this p h6).1,(this p h6).2⟩
theorem kkq (m:Int):(piecesT m).length = 3:=rfl
theorem ns_ok (i:Nat):okNs (nsT ms i):=fun z hz=>kh9 ((kg3 ms i).1 z hz)
theorem kfo:(rowsL ms).length = 5:=by simp [rowsL]
theorem rows_mem {x:List (List Nat)}(h:x ∈ rowsL ms):x ∈ allN:=by
  obtain ⟨i,_,rfl⟩:=List.mem_map.mp h
  exact ns_in ms i
theorem kd6 {i:Nat}(hi:i < 5):(rowsL ms)[i]? = some (nsT ms i):=by
  unfold rowsL
  rw [List.getElem?_map,List.getElem?_range hi]; rfl
theorem kj3 {i:Nat}(hi:i < 5):(rowsL ms).getD i [] = nsT ms i:=by
  rw [List.getD_eq_getElem?_getD,kd6 ms hi]; rfl
theorem kj6 {i:Nat}(hi:i < 5):pT (placesL ms) i = pathOf (nsT ms i):=by
  unfold pT placesL
  rw [List.getD_eq_getElem?_getD,List.getElem?_map,List.getElem?_range hi]; rfl
theorem table_ok:okTable b 9 (placesL ms):=by
  refine ⟨by simp [placesL],fun p hp=>?_,fun p hp q hq=>?_⟩
  · obtain ⟨i,_,rfl⟩:=List.mem_map.mp hp
    have e:=El.of b (ns_in ms i)
    exact ⟨e.tx,e.climb⟩
  · obtain ⟨i,_,rfl⟩:=List.mem_map.mp hp
    obtain ⟨j,_,rfl⟩:=List.mem_map.mp hq
    have hx:=ns_in ms i
    have hy:=ns_in ms j
    have c:=El.of b (Pr.of hx hy).mem
    refine ⟨kk0 hx hy, ?_, ?_⟩
    · rw [kcc hx hy]; exact c.tx
    · rw [kcc hx hy]; exact c.climb
theorem dist_is {k j:Nat}(hk:k < 5) (hj:j < 5):distT b 9 (placesL ms) k j = (distN (rowsL ms) ((rowsL ms).getD k []) ((rowsL ms).getD j []):Int):=by
  unfold distT
  rw [kj6 ms hk,kj6 ms hj,kj3 ms hk,kj3 ms hj,dist_depth (ns_in ms k) (ns_in ms j)]
  exact dist_eq (List.mem_of_getElem? (kd6 ms hk)) (List.mem_of_getElem? (kd6 ms hj))
theorem kkp:okRows 0 4 (rowsN (nsT ms)):=fun p hp=>by
  obtain ⟨i,_,rfl⟩:=List.mem_map.mp hp
  exact ⟨Nat.zero_le _,by have:=(kg3 ms i).2; lia,fun x hx=>kh9 ((kg3 ms i).1 x hx)⟩
theorem sides_len5:∀ s ∈ sidesT (rowsL ms),s.length = 5:=fun s hs=>by
  obtain ⟨f,_,rfl⟩:=List.mem_map.mp (List.mem_filter.mp hs).1
  unfold sideOf
  rw [List.length_map,kfo]
theorem step_len (n:List (List Nat)):∀ (is:List Nat) (acc:List (List (List Nat))),(is.foldl (fun acc i=>frontStep acc n (1 + i)) acc).length ≤ acc.length + is.length
  | [],acc=>Nat.le_refl _
  | i :: is,acc=>by
    have h1:=step_len n is (frontStep acc n (1 + i))
    have h2:=kbq (acc:=acc) (ns:=n) (k:=1 + i)
    rw [List.foldl_cons,List.length_cons]; lia
theorem kjr:∀ (rows:List (List (List Nat))) (acc:List (List (List Nat))),(∀ n ∈ rows,n.length < 4) → (rows.foldl frontRow acc).length ≤ acc.length + 4 * rows.length
  | [],acc,_=>Nat.le_refl _
  | n :: rows,acc,h=>by
    have h1:=kjr rows (frontRow acc n) fun m hm=>h m (.tail _ hm)
    have h2:(frontRow acc n).length ≤ acc.length + (List.range n.length).length:=step_len n _ acc
    rw [List.length_range] at h2
    have h3:=h n (.head _)
    rw [List.foldl_cons,List.length_cons]; lia
theorem sides_le:(sidesT (rowsL ms)).length ≤ 500:=by
  have h1:=kjr (rowsL ms) [] fun n hn=>(allN_let (rows_mem ms hn)).2
  rw [kfo] at h1
  have h2:(sidesT (rowsL ms)).length ≤ ((frontsT (rowsL ms)).map (sideOf (rowsL ms))).length:=List.length_filter_le _ _
  rw [List.length_map] at h2
  have h3:(frontsT (rowsL ms)).length ≤ 0 + 4 * 5:=h1
  lia
theorem sq5_table (D:Nat → Nat → Int):sq5 (tableT D):=by
  refine ⟨by kernel_rfl,fun r hr=>?_⟩
  have:=List.all_eq_true.mp (show ((tableT D).all fun r=>Nat.beq r.length 5) = true by kernel_rfl) r hr
  exact Nat.eq_of_beq_eq_true this
theorem perm_fn:(fun i j=>decide (ansN (nsT ms i) (nsT ms j) r < 0)) = fun i j=>lessN r 0 (nsT ms i) (nsT ms j):=by
  funext i j
  rw [Bool.eq_iff_iff,decide_eq_true_eq]; exact ansN_lt r
theorem kg0:(permL ms r).map (fun i:Nat=>(i:Int)) = walkT 4 (rowsN (nsT ms)) 0 r:=by
  unfold permL
  rw [perm_fn]
  exact sort_walk (kg3 ms)
theorem perm_lt {i:Nat}(h:i ∈ permL ms r):i < 5:=by
  have:(i:Int) ∈ walkT 4 (rowsN (nsT ms)) 0 r:=by rw [← kg0]; exact List.mem_map.mpr ⟨i,h,rfl⟩
  obtain ⟨j,hj,e⟩:=(kdr (kg3 ms) (r:=r) _).mp this
  lia
theorem perm_fin:∃ l:List (Fin 5),l.map (fun i=>i.val) = permL ms r :=
  ⟨(permL ms r).attach.map fun i=>⟨i.1,perm_lt ms r i.2⟩,by rw [List.map_map]; exact List.attach_map_subtype_val _⟩
theorem perm_len:(permL ms r).length = 5:=by
  unfold permL
  rw [perm_fn,show (fun i j=>lessN r 0 (nsT ms i) (nsT ms j)) = fun i j=>decide (rkN r (nsT ms) i < rkN r (nsT ms) j) from by
    funext i j
    rw [Bool.eq_iff_iff,decide_eq_true_eq,rk_lt (kg3 ms)]]
  exact (kj0 _).2.2
end
end
end Mine
end
section
open PySem PySem.W PyProof.Rows PySem.Calls PySem.Spec PySem.W.X PySem.W.XRun
set_option maxRecDepth 100000
namespace Mine
theorem kko {w:World}{A:Around}{s:Shared}{l:Addr}{n:Nat}{tk:Tok}{Q:Value → Shared → Prop}{E:Value → Shared → Prop}(hl:s.heap.get? l = some { cls:=.type "list",data:=.seq #[.str "obj" tk] n })
  (hQ:∀ a n h,Mem s.heap h [] [(a,{ cls:=.type "list",data:=.seq #[.str "obj" tk] n })] → Q (.ref a) { s with heap:=h }):wpAny (model prog w) A (runValue (.builtin "proto.collect" ⟨[.ref l],[]⟩)) Q E s:=by
  refine wpAny_runValue (codeAny_builtin F.entry_proto_collect ?_)
  rw [Around.under_plainId F.plain_proto_collect _]
  show wpAny _ A.in1 (newList [] >>= fun m=>again (.builtin "list.__iadd__" ⟨[m, .ref l],[]⟩)) _ _ s
  refine wpAny_bind (wpAny_newObj_type ?_)
  refine wpAny_pure ⟨plainId_quiet F.plain_list_iadd _,codeAny_builtin F.entry_list_iadd ?_⟩
  rw [Around.under_plainId F.plain_list_iadd _]
  show wpAny _ A.in1 (Builtin.List.listExtendWith (.ref s.heap.objs.size) (.ref l) (.ref s.heap.objs.size)) _ _ _
  have hS:(s.heap.push { cls:=.type "list",data:=.seq ([]:List Value).toArray }).get? s.heap.objs.size = some { cls:=.type "list",data:=.seq #[] 0 }:=Heap.get?_push_size _ rfl
  have hS₂:=Heap.get?_update_self (Obj.mapSeq (· ++ #[Value.str "obj" tk])) hS rfl
  have fin:=hQ s.heap.objs.size _ _ ⟨fun b o e _=>(Heap.get?_update_other _ (Obj.mapSeq (· ++ #[Value.str "obj" tk])) (Nat.ne_of_gt (Heap.lt_size e))).trans (Heap.get?_push_of_some _ e),(fun p hp=>by cases hp),List.nodup_nil,
    (fun p hp=>by rw [List.mem_singleton.mp hp]; exact ⟨hS₂,Heap.get?_none_of_le (Nat.le_refl _)⟩),List.pairwise_singleton _ _⟩
  refine wpAny_mono (wpAny_extend_seq (A:=A) (R:=fun r s'=>r = .ok (.ret (.ref s.heap.objs.size)) ∧ s' = { s with heap:=(s.heap.push { cls:=.type "list",data:=.seq ([]:List Value).toArray }).update s.heap.objs.size (Obj.mapSeq (· ++ #[Value.str "obj" tk])) })
    (s:={ s with heap:=s.heap.push { cls:=.type "list",data:=.seq ([]:List Value).toArray } }) _ l _ 0 (.inl rfl) hS (Heap.get?_push_of_some _ hl) rfl rfl ⟨rfl,rfl⟩) (fun r s' h=>?_) (fun e s' h=>?_)
  · cases r with
    | done f =>
      obtain ⟨e,rfl⟩:=h
      cases e
      exact fin
    | again c'=>exact ⟨h.1,codeAny_mono h.2 fun r s'' hr=>by obtain ⟨rfl,rfl⟩:=hr; exact fin⟩
  · exact absurd h.1 (by simp)
theorem p_ext:Builtin.extendedBase [.type "object"] = pure (.type "object"):=by kernel_rfl
theorem p_hook:Builtin.mroHook? (.type "type") = pure none:=by kernel_rfl
theorem p_lin:Builtin.linearize [.type "object"] mroOf = pure [.type "object"]:=by kernel_rfl
theorem p_made:Bind.madeBy (.type "object") = pure (some "object.__new__"):=by kernel_rfl
theorem p_best:Builtin.Slots.bestBase [.type "object"] = pure (.type "object"):=by kernel_rfl
theorem p_names:Builtin.Slots.slotNamesOf (.type "object") = pure []:=by kernel_rfl
theorem p_weak:Builtin.Slots.givesWeak (.type "object") = pure false:=by kernel_rfl
theorem p_var:Builtin.Slots.varSize (.type "object") = pure false:=by kernel_rfl
theorem p_dict:Builtin.Slots.givesDict (.type "object") = pure false:=by kernel_rfl
theorem kdq {M:Model}{A:Around}{α β:Type}{m:Sem α}{f:α → Sem β}{Q:β → Shared → Prop}{E:Value → Shared → Prop}{s s1:Shared}{v:α}(h1:∀ P:α → Shared → Prop,P v s1 → wpAny M A m P E s) (h2:wpAny M A (f v) Q E s1):wpAny M A (m >>= f) Q E s:=wpAny_bind (h1 _ h2)
noncomputable abbrev kPlan:Builtin.Slots.Plan:={ names:=["obj"],dict:=false,weak:=false,inherited:=[] }
noncomputable abbrev ent (h:Int) (n:Str) (t:Tok) (v:Value):DictEntry:=⟨h, .str n t,v⟩
noncomputable abbrev clsEs (H:Nat → Int) (T:Nat → Tok) (vm vf:Value) (sl fi f1 f2 f3 f4 f5 st:Addr):Array DictEntry:=#[ent (H 0) "__module__" (T 0) vm,ent (H 1) "__qualname__" (T 1) (.str "cmp_to_key.<locals>.K" (T 21)),ent (H 2) "__firstlineno__" (T 2) vf,ent (H 3) "__slots__" (T 3) (.ref sl),ent (H 4) "__init__" (T 4) (.ref fi),ent (H 5) "__lt__" (T 5) (.ref f1),ent (H 6) "__gt__" (T 6) (.ref f2),ent (H 7) "__eq__" (T 7) (.ref f3),ent (H 8) "__le__" (T 8) (.ref f4),ent (H 9) "__ge__" (T 9) (.ref f5),ent (H 10) "__hash__" (T 10) .none,ent (H 11) "__static_attributes__" (T 11) (.ref st)]
theorem slots_read {w:World}{A:Around}{s:Shared}{n:Nat}{tk:Tok}{Q:Builtin.Slots.Plan → Shared → Prop}{E:Value → Shared → Prop}{H:Nat → Int}{T:Nat → Tok}{vm vf:Value}{sl fi f1 f2 f3 f4 f5 st:Addr}
  (hl:s.heap.get? sl = some { cls:=.type "list",data:=.seq #[.str "obj" tk] n }) (hd:A.depth < recursionLimit) (hu:A.units + 64 < cLine) (hh:A.handled = none)
  (hQ:∀ a n h,Mem s.heap h [] [(a,{ cls:=.type "list",data:=.seq #[.str "obj" tk] n })] → Q kPlan { s with heap:=h }) :
   wpAny (model prog w) A (Builtin.Slots.read "K" [.type "object"] (clsEs H T vm vf sl fi f1 f2 f3 f4 f5 st)) Q E s:=by
  have b1:=p_best
  have b2:=p_names
  have b3:=p_dict
  have b4:=p_weak
  have b5:=p_var
  unfold Builtin.Slots.read
  repeat (first | with_reducible refine wpAny_of_eq (by assumption) ?_ | with_reducible refine wpAny_pure ?_ | with_reducible refine wpAny_bind ?_ | with_reducible refine wpAny_rule ?_ | with_reducible refine wpAny_load hl ?_ | refine wpAny_ite_false rfl ?_ | refine wpAny_ite_true rfl ?_ | wp_delta)
  refine kko hl fun a m h D=>?_
  have ha:h.get? a = some { cls:=.type "list",data:=.seq #[.str "obj" tk] m }:=D.at 0 _ _ rfl
  have hq:=hQ a m h D
  clear hQ
  have ha1:({ s with heap:=h } : Shared).heap.get? a = some { cls:=.type "list",data:=.seq #[.str "obj" tk] m }:=ha
  revert hq ha1
  generalize ({ s with heap:=h } : Shared) = s1
  clear ha
  intro hq ha
  repeat (first | with_reducible refine wpAny_of_eq (by assumption) ?_ | with_reducible refine wpAny_pure ?_ | with_reducible refine wpAny_bind ?_ | with_reducible refine wpAny_rule ?_ | with_reducible refine wpAny_load ha ?_ | refine wpAny_ite_false rfl ?_ | refine wpAny_ite_true rfl ?_ | wp_delta)
  have e1:Builtin.Slots.isIdentifier (Str.ofString "obj") = some true:=by kernel_rfl
  rw [e1]
  repeat (first | with_reducible refine wpAny_of_eq (by assumption) ?_ | with_reducible refine wpAny_pure ?_ | with_reducible refine wpAny_bind ?_ | with_reducible refine wpAny_rule ?_ | refine wpAny_ite_false rfl ?_ | refine wpAny_ite_true rfl ?_ | refine wpAny_ite_false (by decide +kernel) ?_ | refine wpAny_ite_true (by decide +kernel) ?_ | wp_delta)
  refine wpAny_ite_false (by kernel_rfl) ?_
  repeat (first | with_reducible refine wpAny_of_eq (by assumption) ?_ | with_reducible refine wpAny_pure ?_ | with_reducible refine wpAny_bind ?_ | with_reducible refine wpAny_rule ?_ | refine wpAny_ite_false rfl ?_ | refine wpAny_ite_true rfl ?_ | refine wpAny_ite_false (by decide +kernel) ?_ | refine wpAny_ite_true (by decide +kernel) ?_ | wp_delta)
  refine Eq.mp ?_ hq
  kernel_rfl
section
section
variable {M:Model}{A:Around}{E:Value → Shared → Prop}{h₀ h:Heap}{g:Array GenState}{d:Drawn}{t:Nat}{os:OsState}{chg n0 n1 news rest:List (Addr × Obj)}{a:Addr}{o:Obj}
theorem khs {Q:Addr → Shared → Prop}(D:Mem h₀ h chg news) (hf:o.isFreed = false) (H:∀ a h',Mem h₀ h' chg ((a,o) :: news) → Q a ⟨h',g,d,t,os⟩):wpAny M A (alloc o) Q E ⟨h,g,d,t,os⟩:=wpAny_alloc (H _ _ (D.alloc hf))
theorem kbl (D:Mem h₀ h chg (n0 ++ (a,o) :: rest)):h.get? a = some o:=D.at n0.length a o (by rw [List.getElem?_append_right (Nat.le_refl _),Nat.sub_self]; rfl)
theorem kh8 {f:Obj → Obj}(D:Mem h₀ h chg (n0 ++ (a,o) :: rest)) (hf:(f o).isFreed = false):Mem h₀ (h.update a f) chg (n0 ++ (a,f o) :: rest):=by
  have:=D.update (i:=n0.length) (a:=a) (o:=o) (f:=f) (by rw [List.getElem?_append_right (Nat.le_refl _),Nat.sub_self]; rfl) hf
  rwa [List.set_append_right _ _ (Nat.le_refl _),Nat.sub_self] at this
theorem kce (n0:List (Addr × Obj)) {part:Option Value}{f:Obj → Obj}{Q:Unit → Shared → Prop}(D:Mem h₀ h chg (n0 ++ (a,o) :: rest)) (hf:(f o).isFreed = false) (H:∀ h',Mem h₀ h' chg (n0 ++ (a,f o) :: rest) → Q () ⟨h',g,d,t,os⟩) :
    wpAny M A (updatePart a part f) Q E ⟨h,g,d,t,os⟩:=wpAny_updatePart (kbl D) (H _ (kh8 D hf))
theorem wm_update (n0:List (Addr × Obj)) {f:Obj → Obj}{Q:Unit → Shared → Prop}(D:Mem h₀ h chg (n0 ++ (a,o) :: rest)) (hf:(f o).isFreed = false) (H:∀ h',Mem h₀ h' chg (n0 ++ (a,f o) :: rest) → Q () ⟨h',g,d,t,os⟩) :
    wpAny M A (update a f) Q E ⟨h,g,d,t,os⟩:=wpAny_update (kbl D) (H _ (kh8 D hf))
theorem kcf (n0:List (Addr × Obj)) {name:Str}{r:Option Value}{Q:Option Value → Shared → Prop}(D:Mem h₀ h chg (n0 ++ (a,o) :: rest)) (hr:nsLook name o = pure r) (H:Q r ⟨h,g,d,t,os⟩):wpAny M A (nsGet a name) Q E ⟨h,g,d,t,os⟩ :=
  wpAny_bind (wpAny_loadPart (kbl D) (wpAny_of_eq hr H))
theorem y0 {name:Str}{Q:Option Value → Shared → Prop}(D:Mem h₀ h chg ((a,o) :: rest)) (hr:nsLook name o = pure none) (H:Q none ⟨h,g,d,t,os⟩):wpAny M A (nsGet a name) Q E ⟨h,g,d,t,os⟩:=kcf [] D hr H
theorem y1 {p:Addr × Obj}{name:Str}{Q:Option Value → Shared → Prop}(D:Mem h₀ h chg (p :: (a,o) :: rest)) (hr:nsLook name o = pure none) (H:Q none ⟨h,g,d,t,os⟩):wpAny M A (nsGet a name) Q E ⟨h,g,d,t,os⟩:=kcf [p] D hr H
theorem y2 {p q:Addr × Obj}{name:Str}{Q:Option Value → Shared → Prop}(D:Mem h₀ h chg (p :: q :: (a,o) :: rest)) (hr:nsLook name o = pure none) (H:Q none ⟨h,g,d,t,os⟩):wpAny M A (nsGet a name) Q E ⟨h,g,d,t,os⟩:=kcf [p,q] D hr H
theorem wm_nsSet (n0:List (Addr × Obj)) {name:Str}{v:Value}{es:Array DictEntry}{ep:Nat}{Q:Unit → Shared → Prop}(D:Mem h₀ h chg (n0 ++ (a,o) :: rest)) (hd:o.data = .dict es ep) (hk:aRefKeyMayBeTheName name es = false)
    (hf:∀ hh,(Obj.putName name hh (.str name t) v o).isFreed = false) (H:∀ hh h',Mem h₀ h' chg (n0 ++ (a,Obj.putName name hh (.str name t) v o) :: rest) → Q () ⟨h',g,d,t + 1,os⟩):wpAny M A (nsSet a name v) Q E ⟨h,g,d,t,os⟩:=by
  unfold nsSet
  refine wpAny_bind (m:=strHash name) (wpAny_bind (wpAny_askSetting (wpAny_pure ?_)))
  refine wpAny_bind (wpAny_mkText (wpAny_bind (wpAny_loadPart (kbl D) ?_)))
  rw [hd]
  refine wpAny_ite_false (by rw [hk]; rfl) ?_
  exact kce n0 D (hf _) fun h' D'=>H _ h' D'
theorem wm_nsDel (n0:List (Addr × Obj)) {name:Str}{Q:Bool → Shared → Prop}(D:Mem h₀ h chg (n0 ++ (a,o) :: rest)) (hr:nsHas name o = pure true)
    (hf:(Obj.dropName name o).isFreed = false) (H:∀ h',Mem h₀ h' chg (n0 ++ (a,Obj.dropName name o) :: rest) → Q true ⟨h',g,d,t,os⟩):wpAny M A (nsDel a name) Q E ⟨h,g,d,t,os⟩:=by
  unfold nsDel
  refine wpAny_bind (wpAny_loadPart (kbl D) (wpAny_bind (wpAny_of_eq hr ?_)))
  refine wpAny_ite_true rfl ?_
  exact wpAny_bind (kce n0 D hf fun h' D'=>wpAny_pure (H _ D'))
theorem kbe (n0:List (Addr × Obj)) {i:Nat}{v:Option Value}{Q:Unit → Shared → Prop}(D:Mem h₀ h chg (n0 ++ (a,o) :: rest)) (hi:i < 1000) (hf:o.isFreed = false)
    (H:∀ h',Mem h₀ h' chg (n0 ++ (a,{ o with slots:=(o.slots ++ Array.replicate (i + 1 - o.slots.size) none).setIfInBounds i v }) :: rest) → Q () ⟨h',g,d,t,os⟩):wpAny M A (setSlotAt a i v) Q E ⟨h,g,d,t,os⟩:=by
  unfold setSlotAt
  refine wpAny_ite_false (decide_eq_false (by rw [sizeLine_eq]; omega)) ?_
  exact kce n0 D (f:=fun o=>{ o with slots:=(o.slots ++ Array.replicate (i + 1 - o.slots.size) none).setIfInBounds i v }) (by obtain ⟨c,dd,dt,sl⟩:=o; cases dt <;> first | rfl | exact hf) H
theorem kf2 (n0:List (Addr × Obj)) {c:ClassData}{f:ClassData → ClassData}{Q:Unit → Shared → Prop}(D:Mem h₀ h chg (n0 ++ (a,o) :: rest)) (hd:o.data = .cls c) (hp:(Obj.mapCls f o).data.pastItsLine = none) (hf:(Obj.mapCls f o).isFreed = false)
    (H:∀ h',Mem h₀ h' chg (n0 ++ (a,Obj.mapCls f o) :: rest) → Q () ⟨h',g,d,t,os⟩):wpAny M A (updateCls a f) Q E ⟨h,g,d,t,os⟩:=by
  unfold updateCls
  refine wpAny_bind (wpAny_load (kbl D) ?_)
  rw [hd]
  refine wpAny_bind (wm_update n0 D hf fun h' D'=>?_)
  exact wpAny_lookBehind (kbl D') hp (H _ D')
noncomputable def forGo (M:Model) (A:Around) (E:Value → Shared → Prop) {α β:Type}(xs:List α) (f:α → β → Sem (ForInStep β)) (Q:β → Shared → Prop):ForInStep β → Shared → Prop
  | .done b,s=>Q b s
  | .yield b,s=>wpAny M A (forIn xs b f) Q E s
section
variable {α β:Type}{x:α}{xs:List α}{f:α → β → Sem (ForInStep β)}{b:β}{Q:β → Shared → Prop}{s:Shared}
theorem ka6 (H:wpAny M A (f x b) (forGo M A E xs f Q) E s):wpAny M A (forIn (x :: xs) b f) Q E s:=by
  rw [List.forIn_cons]
  refine wpAny_bind (wpAny_mono H (fun r s' h=>?_) fun _ _ x=>x)
  cases r with
  | done b=>exact wpAny_pure h
  | yield b=>exact h
theorem ka9 (H:Q b s):wpAny M A (forIn [] b f) Q E s:=by
  rw [List.forIn_nil]; exact wpAny_pure H
theorem ka2 (H:wpAny M A (forIn xs b f) Q E s):forGo M A E xs f Q (.yield b) s:=H
theorem for_done (H:Q b s):forGo M A E xs f Q (.done b) s:=H
noncomputable def bq (M:Model) (A:Around) (E:Value → Shared → Prop) {α β:Type}(f:α → Sem β) (Q:β → Shared → Prop) (a:α) (s:Shared):Prop:=wpAny M A (f a) Q E s
theorem bq_i {α β:Type}{f:α → Sem β}{Q:β → Shared → Prop}{a:α}{s:Shared}(h:wpAny M A (f a) Q E s):bq M A E f Q a s:=h
theorem wb {α β:Type}{m:Sem α}{f:α → Sem β}{Q:β → Shared → Prop}{s:Shared}(h:wpAny M A m (bq M A E f Q) E s):wpAny M A (m >>= f) Q E s:=wpAny_bind h
end
theorem for_as {α β:Type}{xs:List α}(ys:List α) {f:α → β → Sem (ForInStep β)}{b:β}{Q:β → Shared → Prop}{s:Shared}(e:xs = ys) (H:wpAny M A (forIn ys b f) Q E s):wpAny M A (forIn xs b f) Q E s:=e ▸ H
theorem any_as {α:Type}{xs:List α}(ys:List α) {f:α → Sem Bool}{Q:Bool → Shared → Prop}{s:Shared}(e:xs = ys) (H:wpAny M A (List.anyM f ys) Q E s):wpAny M A (List.anyM f xs) Q E s:=e ▸ H
noncomputable abbrev kEs (H:Nat → Int) (T:Nat → Tok) (vm vf:Value) (sl fi f1 f2 f3 f4 f5 st:Addr):List DictEntry:=[ent (H 0) "__module__" (T 0) vm,ent (H 2) "__firstlineno__" (T 2) vf,ent (H 3) "__slots__" (T 3) (.ref sl),ent (H 4) "__init__" (T 4) (.ref fi),ent (H 5) "__lt__" (T 5) (.ref f1),ent (H 6) "__gt__" (T 6) (.ref f2),ent (H 7) "__eq__" (T 7) (.ref f3),ent (H 8) "__le__" (T 8) (.ref f4),ent (H 9) "__ge__" (T 9) (.ref f5),ent (H 10) "__hash__" (T 10) .none,ent (H 11) "__static_attributes__" (T 11) (.ref st)]
noncomputable abbrev dictObj (es:List DictEntry) (ep:Nat):Obj:={ cls:=.type "dict",data:=.dict es.toArray ep }
theorem filter_self (a:Addr):List.filter (fun x=>x != Value.ref a) [Value.ref a,Value.type "object"] = [Value.type "object"]:=by simp
theorem khr {N:Addr}{oc on:Obj}{c:ClassData}{name:Str}{r1 r:Option Value}{s:Shared}{Q:Option Value → Shared → Prop}(hc:s.heap.get? a = some oc) (hcd:oc.data = .cls c) (hm:c.mro = [.ref a, .type "object"]) (hns:c.ns = N) (hn:s.heap.get? N = some on)
    (hl:nsLook name on = pure r1) (hr:(match r1 with | some v=>some v | none=>builtinOwn "object" name) = r) (H:Q r s):wpAny M A (typeLookup (.ref a) name) Q E s:=by
  subst hr hns
  have cd:∀ {Q:ClassData → Shared → Prop},Q c s → wpAny M A (classData a) Q E s:=fun h=>by
    unfold classData
    refine wpAny_bind (wpAny_load hc ?_)
    rw [hcd]; exact wpAny_pure h
  unfold typeLookup
  refine wpAny_bind (wpAny_bind (cd (wpAny_pure ?_)))
  rw [hm]
  refine wpAny_bind (ka6 (wpAny_bind (m:=classOwn (.ref a) name) (wpAny_bind (cd (wpAny_bind (wpAny_loadPart hn (wpAny_of_eq hl ?_)))))))
  cases r1 with
  | some v=>exact wpAny_pure (wpAny_pure H)
  | none =>
    refine wpAny_pure (ka6 (wpAny_bind (m:=classOwn (.type "object") name) (wpAny_pure ?_)))
    dsimp only at H
    cases q:builtinOwn "object" name with
    | some v=>rw [q] at H; exact wpAny_pure (wpAny_pure H)
    | none=>rw [q] at H; exact wpAny_pure (ka9 (wpAny_pure H))
theorem wm_nsDelTo (n0:List (Addr × Obj)) {name:Str}{o':Obj}{Q:Bool → Shared → Prop}(D:Mem h₀ h chg (n0 ++ (a,o) :: rest)) (hr:nsHas name o = pure true) (he:Obj.dropName name o = o')
    (hf:o'.isFreed = false) (H:∀ h',Mem h₀ h' chg (n0 ++ (a,o') :: rest) → Q true ⟨h',g,d,t,os⟩):wpAny M A (nsDel a name) Q E ⟨h,g,d,t,os⟩:=by
  subst he; exact wm_nsDel n0 D hr hf H
theorem kh0 (n0:List (Addr × Obj)) {name:Str}{v:Value}{es:Array DictEntry}{ep:Nat}{o':Int → Obj}{Q:Unit → Shared → Prop}(D:Mem h₀ h chg (n0 ++ (a,o) :: rest)) (hd:o.data = .dict es ep) (hk:aRefKeyMayBeTheName name es = false)
    (he:(fun hh=>Obj.putName name hh (.str name t) v o) = o') (hf:∀ hh,(o' hh).isFreed = false) (H:∀ hh h',Mem h₀ h' chg (n0 ++ (a,o' hh) :: rest) → Q () ⟨h',g,d,t + 1,os⟩):wpAny M A (nsSet a name v) Q E ⟨h,g,d,t,os⟩:=by
  subst he; exact wm_nsSet n0 D hd hk hf H
theorem try_ {α:Type}{m:Sem α}{k:Value → Sem α}{Q:α → Shared → Prop}{s:Shared}(h:wpAny M A m Q (fun e s'=>wpAny M A (k e) Q E s') s):wpAny M A (Sem.tryCatch m k) Q E s:=wpAny_tryCatch h
theorem kjt {α β:Type}{f:α → β → Sem (ForInStep β)}{b:β}{Q:β → Shared → Prop}{s:Shared}{l:List α}(h:∀ x ∈ l, ∀ P:ForInStep β → Shared → Prop,P (.yield b) s → wpAny M A (f x b) P E s) (H:Q b s):wpAny M A (forIn l.toArray b f) Q E s:=by
  rw [← Array.forIn_toList]
  show wpAny M A (forIn l b f) Q E s
  induction l with
  | nil=>exact ka9 H
  | cons x l ih=>exact ka6 (h x (.head _) _ (ka2 (ih fun y hy=>h y (.tail _ hy))))
noncomputable def NoSet (M:Model) (A:Around) (s:Shared) (v:Value):Prop:=∀ (E:Value → Shared → Prop) (P:Option Value → Shared → Prop),P none s → wpAny M A (specialOf v "__set_name__") P E s
theorem kd7 (T:String) (h:T ∈ ["function", "list", "tuple", "member_descriptor", "str", "int", "NoneType"]):typeLookup (.type T) "__set_name__" = pure none:=by
  rw [typeLookup_type,builtinLookup_eq_fast]
  simp only [List.mem_cons,List.mem_nil_iff,or_false] at h
  rcases h with rfl | rfl | rfl | rfl | rfl | rfl | rfl <;> kernel_rfl
theorem ki2 {s:Shared}{T:String}(g:s.heap.get? a = some o) (hc:o.cls = .type T) (h:T ∈ ["function", "list", "tuple", "member_descriptor", "str", "int", "NoneType"]:=by simp):NoSet M A s (.ref a):=fun _ P hP =>
  wpAny_bind (wpAny_typeOf (T:=T) ⟨o,g,hc⟩ (wpAny_of_eq (kd7 T h) hP))
theorem nos_str {s:Shared}{x:Str}{t:Tok} : NoSet M A s (.str x t):=fun _ P hP=>wpAny_bind (wpAny_of_eq (a:=.type "str") rfl (wpAny_of_eq (kd7 "str" (by simp)) hP))
theorem nos_int {s:Shared}{x:Int}{t:Tok} : NoSet M A s (.int x t):=fun _ P hP=>wpAny_bind (wpAny_of_eq (a:=.type "int") rfl (wpAny_of_eq (kd7 "int" (by simp)) hP))
theorem nos_none {s:Shared} : NoSet M A s .none:=fun _ P hP=>wpAny_bind (wpAny_of_eq (a:=.type "NoneType") rfl (wpAny_of_eq (kd7 "NoneType" (by simp)) hP))
theorem kEs_mem {H:Nat → Int}{T:Nat → Tok}{vm vf vo:Value}{sl fi f1 f2 f3 f4 f5 st:Addr}{h1 h2:Int}{t1 t2:Tok}(P:Value → Prop) (p1:P vm) (p2:P vf) (p3:P (.ref sl)) (pf:∀ x ∈ [fi,f1,f2,f3,f4,f5],P (.ref x)) (p4:P .none) (p5:P (.ref st)) (p6:P vo) :
    ∀ e ∈ kEs H T vm vf sl fi f1 f2 f3 f4 f5 st ++ [ent h1 "obj" t1 vo,ent h2 "__doc__" t2 .none],(∃ x t,e.key = .str x t) ∧ P e.val:=by
  intro e he
  simp only [List.cons_append,List.nil_append,List.mem_cons,List.mem_nil_iff,or_false] at he
  rcases he with rfl | rfl | rfl | rfl | rfl | rfl | rfl | rfl | rfl | rfl | rfl | rfl | rfl <;> refine ⟨⟨_,_,rfl⟩, ?_⟩ <;> first | assumption | exact pf _ (by simp)
noncomputable def Unheld (v:Value):Prop:=∀ x t,Builtin.laidUnderItsOwnName (.str x t) v = false
theorem wm_slotAt (n0:List (Addr × Obj)) {i:Nat}{v:Option Value}{Q:Option Value → Shared → Prop}(D:Mem h₀ h chg (n0 ++ (a,o) :: rest)) (hv:(o.slots[i]?).join = v) (H:Q v ⟨h,g,d,t,os⟩):wpAny M A (slotAt a i) Q E ⟨h,g,d,t,os⟩:=by
  unfold slotAt
  exact wpAny_bind (wpAny_loadPart (kbl D) (wpAny_pure (hv ▸ H)))
theorem kdd (n0:List (Addr × Obj)) {es:Array DictEntry}{ep:Nat}{p:Option Value}{Q:Array DictEntry → Shared → Prop}(D:Mem h₀ h chg (n0 ++ (a,o) :: rest)) (hd:o.data = .dict es ep) (H:Q es ⟨h,g,d,t,os⟩):wpAny M A (dictEntries a p) Q E ⟨h,g,d,t,os⟩:=by
  unfold dictEntries
  refine wpAny_bind (wpAny_loadPart (kbl D) ?_)
  rw [hd]
  exact wpAny_pure H
end
inductive StA:{α:Type} → Sem α → Prop
  | c1 {a:Addr}{n:Str} : StA (nsGet a n)
  | c2 {a:Addr}{n:Str}{v:Value} : StA (nsSet a n v)
  | c3 {a:Addr}{n:Str} : StA (nsDel a n)
  | c4 {a:Addr}{n:Nat}{v:Option Value} : StA (setSlotAt a n v)
  | c5 {a:Addr}{n:Nat} : StA (slotAt a n)
  | c6 {a:Addr}{f:ClassData → ClassData} : StA (updateCls a f)
  | c7 {a:Addr} : StA (classData a)
  | c8 {a:Addr}{p:Option Value} : StA (dictEntries a p)
  | c9 {o:Obj} : StA (alloc o)
  | d1 {α β:Type}{l:List α}{f:α → β → Sem (ForInStep β)}{b:β} : StA (forIn l b f)
  | d2 {bs:List Value}{f:Value → Sem (List Value)} : StA (Builtin.linearize bs f)
  | d3 {α β:Type}{l:Array α}{f:α → β → Sem (ForInStep β)}{b:β} : StA (forIn l b f)
  | d4 {f:Value}{vs:List Value}{kw:List (Str × Value)} : StA (call f vs kw)
  | d5 {v:Value}{n:Str}{pl:Bool} : StA (getAttr v n pl)
theorem sa {M:Model}{A:Around}{E:Value → Shared → Prop}{α:Type}{m:Sem α}{Q:α → Shared → Prop}{s:Shared}(_:StA m) (h:wpAny M A m Q E s):wpAny M A m Q E s:=h
theorem z0:type_of% @wpAny_of_eq:=@wpAny_of_eq
theorem z1:type_of% @wpAny_pure:=@wpAny_pure
theorem z3:type_of% @wpAny_mkText:=@wpAny_mkText
theorem z4:type_of% @wpAny_mkInt:=@wpAny_mkInt
theorem z5:type_of% @wpAny_holding:=@wpAny_holding
theorem z6:type_of% @wpAny_ite_false:=@wpAny_ite_false
theorem z7:type_of% @wpAny_ite_true:=@wpAny_ite_true
end
section
section
variable {prog:Program}{w:World}{M:Model}{A:Around}{E:Value → Shared → Prop}{h:Heap}{g:Array GenState}{d:Drawn}{t:Nat}{os:OsState}{a b:Addr}{oD o2:Obj}{cd:ClassData}
theorem lk_cdata (hD:h.get? a = some oD) (hd:oD.data = .cls cd):Looks M h (classData a) cd:=fun A Q E s k q=>by
  unfold classData
  refine wpAny_bind (wpAny_load (k _ _ hD) ?_)
  rw [hd]; exact wpAny_pure q
theorem lk_mro (hD:h.get? a = some oD) (hd:oD.data = .cls cd):Looks M h (mroOf (.ref a)) cd.mro:=fun A Q E s k q=>wpAny_bind (lk_cdata hD hd A _ E s k (wpAny_pure q))
theorem lk_sub (hD:h.get? a = some oD) (hd:oD.data = .cls cd) (hm:cd.mro = [.ref a, .type "object"]) {x:Value}{r:Bool}(hx:cd.mro.contains x = r):Looks M h (isSubtype (.ref a) x) r:=fun A Q E s k q=>by
  unfold isSubtype
  refine wpAny_bind (lk_mro hD hd A _ E s k ?_)
  dsimp only
  refine wpAny_ite_false (by rw [hm]; rfl) ?_
  rw [hx]; exact wpAny_pure q
theorem lk_opaque (h2:h.get? 2 = some o2) (hn:nsLook "thirdparty.any" o2 = pure none):Looks M h (opaqueClassAbove (.ref a)) none:=fun A Q E s k q=>by
  unfold opaqueClassAbove
  dsimp only
  refine wpAny_bind (m:=anyOpaqueLoaded) (wpAny_bind (m:=nsGet cStatics "thirdparty.any") (wpAny_bind (wpAny_loadPart (k _ _ h2) (wpAny_of_eq hn (wpAny_pure ?_)))))
  exact wpAny_ite_true rfl (wpAny_pure q)
theorem kgg {Q:Value → Shared → Prop}(hD:h.get? a = some oD) (hd:oD.data = .cls cd) (hm:cd.mro = [.ref a, .type "object"])
    (hq:∀ h',h'.get? h.objs.size = some { cls:=.type "super",dict:=none,data:=.fields #[.ref a, .ref a, .ref a],slots:=#[] } → (∀ y o,h.get? y = some o → h'.get? y = some o) → Q (.ref h.objs.size) ⟨h',g,d,t,os⟩) :
    wpAny (model prog w) A (call (.type "super") [.ref a, .ref a]) Q E ⟨h,g,d,t,os⟩:=by
  refine ks_callType_codesW (Q₁:=fun obj s₁=>obj = .ref h.objs.size ∧ s₁ = ⟨h.push { cls:=.type "super",data:=.fields #[.none, .none, .none] },g,d,t,os⟩) F.ks_called_super (ks_wpAny_checkTypeCall_super hD hd) F.ks_entry_super_init
    (ks_code_super_new _ _ ⟨rfl,rfl⟩) fun obj s₁ h₁=>?_
  obtain ⟨rfl,rfl⟩:=h₁
  have up:∀ y o,h.get? y = some o → (h.push { cls:=.type "super",data:=.fields #[.none, .none, .none] }).get? y = some o:=fun y o e=>Heap.get?_push_of_some _ e
  have hso:(h.push { cls:=.type "super",data:=.fields #[.none, .none, .none] }).get? h.objs.size = some { cls:=.type "super",dict:=none,data:=.fields #[.none, .none, .none],slots:=#[] }:=Heap.get?_push_at rfl rfl
  have hD':=up _ _ hD
  have hsub:Looks (model prog w) h (isSubtype (.ref a) (.ref a)) true:=lk_sub hD hd hm (by rw [hm]; simp)
  have hsub':=hsub.keeps up
  refine ⟨⟨_,hso,rfl⟩,F.ks_initArgs_super _ _ _, ?_⟩
  unfold Builtin.«super.__init__» noKeywords
  repeat (first | (with_reducible refine ks_wpAny_isType_cls hD' hd ?_) | (with_reducible refine Looks.at hsub' ?_) | (with_reducible refine ks_wpAny_super_set3 hso ?_) | wp_step)
  all_goals first
    | (intro h' e k; exact ⟨rfl,hq h' e fun y o ey=>k y o (Nat.ne_of_lt (Heap.lt_size ey)) (up y o ey)⟩)
    | (refine ks_wpAny_super_set3 hso ?_; intro h' e k; exact ⟨rfl,hq h' e fun y o ey=>k y o (Nat.ne_of_lt (Heap.lt_size ey)) (up y o ey)⟩)
noncomputable abbrev isubBound (a:Addr):Obj:={ cls:=.type "builtin_function_or_method",data:=.fields #[.builtin "object.__init_subclass__", .ref a] }
theorem type_isub:typeOf (.builtin "object.__init_subclass__") = pure (.type "classmethod_descriptor"):=by show builtinType _ = _; rw [builtinType_eq_fast]; kernel_rfl
theorem owner_isub:(kfb_private% "ownerAndName") "object.__init_subclass__" = ("object", "__init_subclass__"):=by first | decide +kernel | kernel_rfl
theorem own_isub:builtinOwn "object" "__init_subclass__" = some (.builtin "object.__init_subclass__"):=by kernel_rfl
theorem get_isub {P:Fin → Shared → Prop}(hD:h.get? a = some oD) (hd:oD.data = .cls cd) (hm:cd.mro = [.ref a, .type "object"]) (H:P (.done (.ret (.ref h.objs.size))) ⟨h.push (isubBound a),g,d,t,os⟩) :
    wpAny M A (Builtin.«classmethod_descriptor.__get__» ⟨[.builtin "object.__init_subclass__", .none, .ref a],[]⟩) P E ⟨h,g,d,t,os⟩:=by
  unfold Builtin.«classmethod_descriptor.__get__»
  refine wpAny_bind (wpAny_of_eq (a:=(.builtin "object.__init_subclass__",none,some (.ref a))) (by first | rfl | kernel_rfl) ?_)
  simp only [owner_isub]
  refine wpAny_bind (wpAny_of_eq (a:=.ref a) rfl ?_)
  refine wpAny_bind (ks_wpAny_isType_cls hD hd ?_)
  refine wpAny_ite_false rfl ?_
  refine wpAny_bind ((lk_sub hD hd hm (x:=.type "object") (r:=true) (by rw [hm]; simp):Looks M h _ _) _ _ _ _ (fun _ _ e=>e) ?_)
  refine wpAny_ite_false rfl ?_
  exact wpAny_bind (wpAny_newObj_type (wpAny_pure H))
theorem after_self (a:Addr):List.drop 1 (List.dropWhile (fun x=>x != Value.ref a) [Value.ref a,Value.type "object"]) = [Value.type "object"]:=by simp
theorem khu {so:Addr}{tk:Tok}{Q:Fin → Shared → Prop}(hso:h.get? so = some { cls:=.type "super",dict:=none,data:=.fields #[.ref a, .ref a, .ref a],slots:=#[] }) (hno:Looks (model prog w) h (opaqueClassAbove (.ref a)) none)
    (hD:h.get? a = some oD) (hd:oD.data = .cls cd) (hm:cd.mro = [.ref a, .type "object"]) (hq:Q (.done (.ret (.ref h.objs.size))) ⟨h.push (isubBound a),g,d,t,os⟩) :
    wpAny (model prog w) A (Builtin.«super.__getattribute__» ⟨[.ref so, .str "__init_subclass__" tk],[]⟩) Q E ⟨h,g,d,t,os⟩:=by
  have hlk:=KFB.slot_get.lookup
  have hdt:({ cls:=.type "super",dict:=none,data:=.fields #[.ref a, .ref a, .ref a],slots:=#[] } : Obj).data = .fields #[.ref a, .ref a, .ref a]:=rfl
  have f0:(#[.ref a, .ref a, .ref a]:Array Value)[0]? = some (.ref a):=rfl
  have f1:(#[.ref a, .ref a, .ref a]:Array Value)[1]? = some (.ref a):=rfl
  have f2:(#[.ref a, .ref a, .ref a]:Array Value)[2]? = some (.ref a):=rfl
  have hC:Looks (model prog w) h (mroOf (.ref a)) [.ref a, .type "object"]:=hm ▸ lk_mro hD hd
  have ht:=type_isub
  have hown:classOwn (.type "object") "__init_subclass__" = pure (some (.builtin "object.__init_subclass__")):=by show pure (builtinOwn _ _) = _; rw [own_isub]
  have hn:((Str.ofString "__init_subclass__") == ("__class__" : Str)) = false:=by decide
  unfold Builtin.«super.__getattribute__»
  repeat (first
    | (with_reducible refine wpAny_field hso hdt f0 ?_) | (with_reducible refine wpAny_field hso hdt f1 ?_) | (with_reducible refine wpAny_field hso hdt f2 ?_)
    | (with_reducible refine ks_wpAny_notOpaque hno ?_)
    | (with_reducible refine Looks.at hC ?_; rw [after_self])
    | (with_reducible refine ka6 ?_)
    | (with_reducible refine wpAny_holding ?_)
    | ((fail_if_success with_reducible refine sa .d4 ?_); wp_step))
  rw [if_pos (show (Value.ref a == Value.ref a) = true by simp)]
  refine (wpAny_call_entry KFB.slot_get (show Shared.TypeIs ⟨h,g,d,t,os⟩ (.builtin "object.__init_subclass__") "classmethod_descriptor" from ht) KFB.entry_get (get_isub hD hd hm ⟨_,rfl, ?_⟩) (KFB.args_get _ _ _))
  repeat (first | with_reducible refine for_done ?_ | wp_step)
  all_goals exact hq
theorem attr_isub {so:Addr}{Q:Value → Shared → Prop}(hso:h.get? so = some { cls:=.type "super",dict:=none,data:=.fields #[.ref a, .ref a, .ref a],slots:=#[] }) (hno:Looks (model prog w) h (opaqueClassAbove (.ref a)) none)
    (hD:h.get? a = some oD) (hd:oD.data = .cls cd) (hm:cd.mro = [.ref a, .type "object"]) (hq:Q (.ref h.objs.size) ⟨h.push (isubBound a),g,d,t + 1,os⟩) :
    wpAny (model prog w) A (getAttr (.ref so) "__init_subclass__") Q E ⟨h,g,d,t,os⟩:=by
  have hlk:=F.ks_slot_super_ga.lookup
  have hT:∀ t',(⟨h,g,d,t',os⟩ : Shared).TypeIs (.ref so) "super" := fun _=>⟨_,hso,rfl⟩
  unfold getAttr getAttrBy
  refine wpAny_bind (wpAny_mkText (wpAny_holding (wpAny_bind (wpAny_typeOf (hT _) (wpAny_bind (wpAny_of_eq hlk ?_))))))
  show wpAny _ _ (getAttrByItsOwn (.ref so) (.str _ t) (.type "super") (.builtin "super.__getattribute__") true false) _ _ _
  unfold getAttrByItsOwn hookBefore callGetattribute boundAndCalled
  refine wpAny_bind (wpAny_of_eq (show (if onTheHeap (.type "super") then typeLookup (.type "super") "__getattr__" else pure none) = pure none from rfl) ?_)
  refine wpAny_bind (wpAny_attempt (wpAny_holding ?_))
  show wpAny _ _ (bindSpecial (.builtin "super.__getattribute__") (.ref so) >>= _) _ _ _
  refine wpAny_bind (wpAny_of_eq (F.ks_slot_super_ga.bind _) ?_)
  refine wpAny_mono (Q:=fun v s'=>v = .ref h.objs.size ∧ s' = ⟨h.push (isubBound a),g,d,t + 1,os⟩) (E:=fun _ _=>False)
    (wpAny_call_entry F.ks_slot_super_ga (hT _) F.ks_entry_super_ga (khu hso hno hD hd hm ⟨_,rfl,rfl,rfl⟩) (F.ks_gaArgs_super _ _)) (fun v s' hv=>?_) fun _ _ z=>z.elim
  obtain ⟨rfl,rfl⟩:=hv
  exact wpAny_pure hq
theorem sig_isub:Manifest.signature? "object.__init_subclass__" = some ⟨.noArgs, "object.__init_subclass__", "__init_subclass__", .cls,[]⟩:=by kernel_rfl
theorem kind_isub:builtinKind "object.__init_subclass__" = some .classMethod:=by kernel_rfl
theorem entry_isub:entryFor table "object.__init_subclass__" = some Builtin.«object.__init_subclass__»:=entryFor_of_tree (by kernel_rfl)
theorem quiet_isub {as:Args} : (Code.builtin "object.__init_subclass__" as).quiet = true:=Code.quiet_builtin _ (by decide +kernel)
theorem va_isub:Manifest.varargsMethods.contains "object.__init_subclass__" = false:=by kernel_rfl
theorem args_isub:Bind.checkArgs "object.__init_subclass__" { machinery:=.noArgs,full:=s!"{(Str.ofString "cmp_to_key.<locals>.K").toString}.{Bind.lastOf "object.__init_subclass__"}",short := "__init_subclass__",receiver:=.cls,params:=[] } ⟨[.ref a],[]⟩ = pure ():=by kernel_rfl
theorem check_isub (hD:h.get? a = some oD) (hc:oD.cls = .type "type") (hd:oD.data = .cls cd) (hqn:cd.qualname = "cmp_to_key.<locals>.K") {Q:Unit → Shared → Prop}(H:Q () ⟨h,g,d,t,os⟩) :
    wpAny M A (checkBoundCall "object.__init_subclass__" ⟨[.ref a],[]⟩) Q E ⟨h,g,d,t,os⟩:=by
  have hT:(⟨h,g,d,t,os⟩ : Shared).TypeIs (.ref a) "type" := ⟨_,hD,hc⟩
  have hs:isSubtype (.type "type") (.type "module") = pure false:=by rw [isSubtype_type]; kernel_rfl
  unfold checkBoundCall
  rw [sig_isub,kind_isub]
  dsimp only
  refine wpAny_ite_false rfl ?_
  refine wpAny_bind (wpAny_isInstance hT hs ?_)
  refine wpAny_ite_false (by rw [va_isub]; rfl) ?_
  refine wpAny_bind (ks_wpAny_isType_cls hD hd ?_)
  refine wpAny_ite_true rfl (wpAny_bind (wpAny_pure ?_))
  dsimp only
  refine wpAny_bind ((lk_cdata hD hd:Looks M h _ _) _ _ _ _ (fun _ _ e=>e) (wpAny_bind (wpAny_typeOf hT ?_)))
  refine wpAny_ite_true rfl ?_
  rw [hqn]
  exact wpAny_of_eq args_isub H
theorem call_isub {x:Addr}{Q:Value → Shared → Prop}(hx:h.get? x = some (isubBound a)) (hD:h.get? a = some oD) (hc:oD.cls = .type "type") (hd:oD.data = .cls cd) (hqn:cd.qualname = "cmp_to_key.<locals>.K") (H:Q .none ⟨h,g,d,t,os⟩) :
    wpAny (model prog w) A (call (.ref x) []) Q E ⟨h,g,d,t,os⟩:=by
  refine wpAny_call (codeAny_of_tree ?_)
  show wpAny _ A.in1 (load x >>= _) _ _ _
  refine wpAny_bind (wpAny_load hx ?_)
  refine wpAny_ite_true rfl ?_
  refine wpAny_ite_true rfl ?_
  refine wpAny_bind (check_isub hD hc hd hqn (wpAny_bind (wpAny_pure (wpAny_pure ⟨quiet_isub,codeAny_builtin entry_isub ?_⟩))))
  unfold Builtin.«object.__init_subclass__»
  refine wpAny_ite_true rfl ?_
  exact wpAny_pure H
end
end
noncomputable abbrev kObj (kc N:Addr) (k0 k2 k3:Value):Obj:=excClassObj "K" "cmp_to_key.<locals>.K" kc N [.type "object"] [.type "object"] false ["obj"] [] false none none (some k0) none (some k2) (some k3) (some (.bool false)) "object.__new__"
noncomputable abbrev mdObj (kc:Addr) (t:Tok):Obj:={ cls:=.type "member_descriptor",data:=.fields #[.str "obj" t, .ref kc, .builtin "proto.slot", .builtin "proto.slot#set", .int 0 0] }
set_option maxHeartbeats 4000000 in
theorem tn {w:World}{A:Around}{E:Value → Shared → Prop}{Q:PySem.Fin → Shared → Prop}{h:Heap}{g:Array GenState}{d:Drawn}{t:Nat}{os:OsState}{bt ns sl fi f1 f2 f3 f4 f5 st:Addr}{ep n:Nat}{tk so:Tok}{H:Nat → Int}{T:Nat → Tok}{xm:Str}{tm tf:Tok}{nf:Int}
  (hfn:∀ x ∈ [fi,f1,f2,f3,f4,f5], ∃ o,h.get? x = some o ∧ o.cls = .type "function") (hst:∃ o,h.get? st = some o ∧ o.cls = .type "tuple")
  (hb:h.get? bt = some { cls:=.type "tuple",data:=.seq #[.type "object"] })
  (hsl:h.get? sl = some { cls:=.type "list",data:=.seq #[.str "obj" so] n }) (hsys:(ns == sysModules) = false)
  (hn:h.get? ns = some { cls:=.type "dict",data:=.dict (clsEs H T (.str xm tm) (.int nf tf) sl fi f1 f2 f3 f4 f5 st) ep }) (hd:A.depth < recursionLimit) (hu:A.units + 64 < cLine) (hh:A.handled = none) {o2:Obj}(h2:h.get? 2 = some o2) (hn2:nsLook "thirdparty.any" o2 = pure none)
  (hQ:∀ a md N ls h1 h2 t1 t2 t3 hh1 hh2 m,Mem h h1 [] [(md,mdObj a t),(a,kObj a N (.ref bt) (.str "K" tk) (.str "cmp_to_key.<locals>.K" (T 21))),(N,dictObj (kEs H T (.str xm tm) (.int nf tf) sl fi f1 f2 f3 f4 f5 st ++ [ent hh1 "obj" t1 (.ref md),ent hh2 "__doc__" t2 .none]) 3),(ls,{ cls:=.type "list",data:=.seq #[.str "obj" so] m })] →
    (∀ y o,h1.get? y = some o → h2.get? y = some o) → Q (.done (.ret (.ref a))) ⟨h2,g,d,t3,os⟩) :
  wpAny (model prog w) A (Builtin.«type.__new__» ⟨[.type "type", .str "K" tk, .ref bt, .ref ns],[]⟩) Q E ⟨h,g,d,t,os⟩:=by
  have s1:isSubtype (.type "tuple") (.type "tuple") = pure true:=by rw [isSubtype_type]; kernel_rfl
  have s2:isSubtype (.type "dict") (.type "dict") = pure true:=by rw [isSubtype_type]; kernel_rfl
  have s3:isSubtype (.type "type") (.type "type") = pure true:=by rw [isSubtype_type]; kernel_rfl
  have s4:isSubtype (.type "object") (.type "object") = pure true:=by rw [isSubtype_type]; kernel_rfl
  have t1:isType (.type "object") = pure true:=by kernel_rfl
  have t2:typeOf (.type "object") = pure (.type "type"):=by kernel_rfl
  have i1:typeLookup (.type "dict") "__iter__" = pure (some (.builtin "dict.__iter__")):=by rw [typeLookup_type,builtinLookup_eq_fast]; kernel_rfl
  unfold Builtin.«type.__new__»
  wp_delta
  refine kdq (fun P hP=>wpAny_pure hP) ?_
  wp_delta
  refine kdq (v:=true) (fun P hP=>wpAny_isInstance (T := "tuple") ⟨_,hb,rfl⟩ s1 hP) ?_
  refine wpAny_ite_false rfl ?_
  wp_delta
  refine kdq (v:=true) (fun P hP=>wpAny_isInstance (T := "dict") ⟨_,hn,rfl⟩ s2 hP) ?_
  refine wpAny_ite_false rfl ?_
  wp_delta
  refine kdq (fun P hP=>wpAny_seqItems hb rfl hP) ?_
  wp_delta
  refine wpAny_ite_false rfl ?_
  repeat (first | with_reducible refine wpAny_of_eq (by assumption) ?_ | with_reducible refine wpAny_pure ?_ | with_reducible refine wb ?_ | with_reducible refine bq_i ?_ | refine wpAny_ite_false rfl ?_ | refine wpAny_ite_true rfl ?_ | wp_delta)
  refine wpAny_ite_false (by rw [hsys]; rfl) ?_
  repeat (first | with_reducible refine wpAny_of_eq (by assumption) ?_ | with_reducible refine wpAny_pure ?_ | with_reducible refine wb ?_ | with_reducible refine bq_i ?_ | (with_reducible refine wpAny_load hn ?_) | (with_reducible refine wpAny_loadPart hn ?_) | refine wpAny_ite_false rfl ?_ | refine wpAny_ite_true rfl ?_ | wp_delta)
  refine wpAny_holding (slots_read hsl hd hu hh fun ls m h D=>?_)
  repeat (first | with_reducible refine wpAny_of_eq (by assumption) ?_ | with_reducible refine wpAny_pure ?_ | with_reducible refine wb ?_ | with_reducible refine bq_i ?_ | refine wpAny_ite_false rfl ?_ | refine wpAny_ite_true rfl ?_ | wp_delta)
  have q1:=p_hook
  have q2:=p_lin
  have q3:=p_made
  have q4:=p_weak
  have q5:=p_dict
  have q6:=p_ext
  refine khs D rfl fun N h D=>?_
  repeat (first | with_reducible (first | refine z0 (by assumption) ?_ | refine z1 ?_ | refine wb ?_ | refine bq_i ?_ | refine z2 ?_ | refine z3 ?_ | refine z4 ?_ | refine z5 ?_ | refine ka6 ?_ | refine ka9 ?_ | refine ka2 ?_ | refine y0 D (by kernel_rfl!) ?_ | refine y1 D (by kernel_rfl!) ?_ | refine y2 D (by kernel_rfl!) ?_ | refine try_ ?_) | refine z6 rfl ?_ | refine z7 rfl ?_ | refine z6 (by kernel_rfl!) ?_ | refine z7 (by kernel_rfl!) ?_ | (fail_if_success with_reducible refine sa (by constructor) ?_); wp_delta)
  refine kcf [] D (r:=some (.str "cmp_to_key.<locals>.K" (T 21))) (by kernel_rfl!) ?_
  repeat (first | with_reducible (first | refine z0 (by assumption) ?_ | refine z1 ?_ | refine wb ?_ | refine bq_i ?_ | refine z2 ?_ | refine z3 ?_ | refine z4 ?_ | refine z5 ?_ | refine ka6 ?_ | refine ka9 ?_ | refine ka2 ?_ | refine y0 D (by kernel_rfl!) ?_ | refine y1 D (by kernel_rfl!) ?_ | refine y2 D (by kernel_rfl!) ?_ | refine try_ ?_) | refine z6 rfl ?_ | refine z7 rfl ?_ | refine z6 (by kernel_rfl!) ?_ | refine z7 (by kernel_rfl!) ?_ | (fail_if_success with_reducible refine sa (by constructor) ?_); wp_delta)
  refine kcf [] D (r:=some (.str "cmp_to_key.<locals>.K" (T 21))) (by kernel_rfl!) ?_
  repeat (first | with_reducible (first | refine z0 (by assumption) ?_ | refine z1 ?_ | refine wb ?_ | refine bq_i ?_ | refine z2 ?_ | refine z3 ?_ | refine z4 ?_ | refine z5 ?_ | refine ka6 ?_ | refine ka9 ?_ | refine ka2 ?_ | refine y0 D (by kernel_rfl!) ?_ | refine y1 D (by kernel_rfl!) ?_ | refine y2 D (by kernel_rfl!) ?_ | refine try_ ?_) | refine z6 rfl ?_ | refine z7 rfl ?_ | refine z6 (by kernel_rfl!) ?_ | refine z7 (by kernel_rfl!) ?_ | (fail_if_success with_reducible refine sa (by constructor) ?_); wp_delta)
  refine khs D rfl fun a h D=>?_
  repeat (first | with_reducible (first | refine z0 (by assumption) ?_ | refine z1 ?_ | refine wb ?_ | refine bq_i ?_ | refine z2 ?_ | refine z3 ?_ | refine z4 ?_ | refine z5 ?_ | refine ka6 ?_ | refine ka9 ?_ | refine ka2 ?_ | refine y0 D (by kernel_rfl!) ?_ | refine y1 D (by kernel_rfl!) ?_ | refine y2 D (by kernel_rfl!) ?_ | refine try_ ?_) | refine z6 rfl ?_ | refine z7 rfl ?_ | refine z6 (by kernel_rfl!) ?_ | refine z7 (by kernel_rfl!) ?_ | (fail_if_success with_reducible refine sa (by constructor) ?_); wp_delta)
  refine kbe [] D (by decide) rfl fun h D=>?_
  repeat (first | with_reducible (first | refine z0 (by assumption) ?_ | refine z1 ?_ | refine wb ?_ | refine bq_i ?_ | refine z2 ?_ | refine z3 ?_ | refine z4 ?_ | refine z5 ?_ | refine ka6 ?_ | refine ka9 ?_ | refine ka2 ?_ | refine y0 D (by kernel_rfl!) ?_ | refine y1 D (by kernel_rfl!) ?_ | refine y2 D (by kernel_rfl!) ?_ | refine try_ ?_) | refine z6 rfl ?_ | refine z7 rfl ?_ | refine z6 (by kernel_rfl!) ?_ | refine z7 (by kernel_rfl!) ?_ | (fail_if_success with_reducible refine sa (by constructor) ?_); wp_delta)
  refine kbe [] D (by decide) rfl fun h D=>?_
  repeat (first | with_reducible (first | refine z0 (by assumption) ?_ | refine z1 ?_ | refine wb ?_ | refine bq_i ?_ | refine z2 ?_ | refine z3 ?_ | refine z4 ?_ | refine z5 ?_ | refine ka6 ?_ | refine ka9 ?_ | refine ka2 ?_ | refine y0 D (by kernel_rfl!) ?_ | refine y1 D (by kernel_rfl!) ?_ | refine y2 D (by kernel_rfl!) ?_ | refine try_ ?_) | refine z6 rfl ?_ | refine z7 rfl ?_ | refine z6 (by kernel_rfl!) ?_ | refine z7 (by kernel_rfl!) ?_ | (fail_if_success with_reducible refine sa (by constructor) ?_); wp_delta)
  refine kbe [] D (by decide) rfl fun h D=>?_
  repeat (first | with_reducible (first | refine z0 (by assumption) ?_ | refine z1 ?_ | refine wb ?_ | refine bq_i ?_ | refine z2 ?_ | refine z3 ?_ | refine z4 ?_ | refine z5 ?_ | refine ka6 ?_ | refine ka9 ?_ | refine ka2 ?_ | refine y0 D (by kernel_rfl!) ?_ | refine y1 D (by kernel_rfl!) ?_ | refine y2 D (by kernel_rfl!) ?_ | refine try_ ?_) | refine z6 rfl ?_ | refine z7 rfl ?_ | refine z6 (by kernel_rfl!) ?_ | refine z7 (by kernel_rfl!) ?_ | (fail_if_success with_reducible refine sa (by constructor) ?_); wp_delta)
  refine wm_nsDelTo [_] D (o':=dictObj (kEs H T (.str xm tm) (.int nf tf) sl fi f1 f2 f3 f4 f5 st) 1) (by kernel_rfl!) (by kernel_rfl!) rfl fun h D=>?_
  repeat (first | with_reducible (first | refine z0 (by assumption) ?_ | refine z1 ?_ | refine wb ?_ | refine bq_i ?_ | refine z2 ?_ | refine z3 ?_ | refine z4 ?_ | refine z5 ?_ | refine ka6 ?_ | refine ka9 ?_ | refine ka2 ?_ | refine y0 D (by kernel_rfl!) ?_ | refine y1 D (by kernel_rfl!) ?_ | refine y2 D (by kernel_rfl!) ?_ | refine try_ ?_) | refine z6 rfl ?_ | refine z7 rfl ?_ | refine z6 (by kernel_rfl!) ?_ | refine z7 (by kernel_rfl!) ?_ | (fail_if_success with_reducible refine sa (by constructor) ?_); wp_delta)
  refine wpAny_of_eq (a:=[.type "object"]) (by kernel_rfl!) ?_
  repeat (first | with_reducible (first | refine z0 (by assumption) ?_ | refine z1 ?_ | refine wb ?_ | refine bq_i ?_ | refine z2 ?_ | refine z3 ?_ | refine z4 ?_ | refine z5 ?_ | refine ka6 ?_ | refine ka9 ?_ | refine ka2 ?_ | refine y0 D (by kernel_rfl!) ?_ | refine y1 D (by kernel_rfl!) ?_ | refine y2 D (by kernel_rfl!) ?_ | refine try_ ?_) | refine z6 rfl ?_ | refine z7 rfl ?_ | refine z6 (by kernel_rfl!) ?_ | refine z7 (by kernel_rfl!) ?_ | (fail_if_success with_reducible refine sa (by constructor) ?_); wp_delta)
  refine any_as [.type "object"] (filter_self a) ?_
  repeat (first | with_reducible (first | refine z0 (by assumption) ?_ | refine z1 ?_ | refine wb ?_ | refine bq_i ?_ | refine z2 ?_ | refine z3 ?_ | refine z4 ?_ | refine z5 ?_ | refine ka6 ?_ | refine ka9 ?_ | refine ka2 ?_ | refine y0 D (by kernel_rfl!) ?_ | refine y1 D (by kernel_rfl!) ?_ | refine y2 D (by kernel_rfl!) ?_ | refine try_ ?_) | refine z6 rfl ?_ | refine z7 rfl ?_ | refine z6 (by kernel_rfl!) ?_ | refine z7 (by kernel_rfl!) ?_ | (fail_if_success with_reducible refine sa (by constructor) ?_); wp_delta)
  refine kf2 [] D rfl rfl rfl fun h D=>?_
  repeat (first | with_reducible (first | refine z0 (by assumption) ?_ | refine z1 ?_ | refine wb ?_ | refine bq_i ?_ | refine z2 ?_ | refine z3 ?_ | refine z4 ?_ | refine z5 ?_ | refine ka6 ?_ | refine ka9 ?_ | refine ka2 ?_ | refine y0 D (by kernel_rfl!) ?_ | refine y1 D (by kernel_rfl!) ?_ | refine y2 D (by kernel_rfl!) ?_ | refine try_ ?_) | refine z6 rfl ?_ | refine z7 rfl ?_ | refine z6 (by kernel_rfl!) ?_ | refine z7 (by kernel_rfl!) ?_ | (fail_if_success with_reducible refine sa (by constructor) ?_); wp_delta)
  refine kbe [] D (by decide) rfl fun h D=>?_
  repeat (first | with_reducible (first | refine z0 (by assumption) ?_ | refine z1 ?_ | refine wb ?_ | refine bq_i ?_ | refine z2 ?_ | refine z3 ?_ | refine z4 ?_ | refine z5 ?_ | refine ka6 ?_ | refine ka9 ?_ | refine ka2 ?_ | refine y0 D (by kernel_rfl!) ?_ | refine y1 D (by kernel_rfl!) ?_ | refine y2 D (by kernel_rfl!) ?_ | refine try_ ?_) | refine z6 rfl ?_ | refine z7 rfl ?_ | refine z6 (by kernel_rfl!) ?_ | refine z7 (by kernel_rfl!) ?_ | (fail_if_success with_reducible refine sa (by constructor) ?_); wp_delta)
  refine wm_slotAt [] D (v:=some (.builtin "object.__new__")) (by kernel_rfl!) ?_
  repeat (first | with_reducible (first | refine z0 (by assumption) ?_ | refine z1 ?_ | refine wb ?_ | refine bq_i ?_ | refine z2 ?_ | refine z3 ?_ | refine z4 ?_ | refine z5 ?_ | refine ka6 ?_ | refine ka9 ?_ | refine ka2 ?_ | refine y0 D (by kernel_rfl!) ?_ | refine y1 D (by kernel_rfl!) ?_ | refine y2 D (by kernel_rfl!) ?_ | refine try_ ?_) | refine z6 rfl ?_ | refine z7 rfl ?_ | refine z6 (by kernel_rfl!) ?_ | refine z7 (by kernel_rfl!) ?_ | (fail_if_success with_reducible refine sa (by constructor) ?_); wp_delta)
  refine khr (r1:=none) (r:=some (.builtin "object.__new__")) (kbl (n0:=[]) D) rfl rfl rfl (kbl (n0:=[_]) D) (by kernel_rfl!) (by kernel_rfl!) ?_
  repeat (first | with_reducible (first | refine z0 (by assumption) ?_ | refine z1 ?_ | refine wb ?_ | refine bq_i ?_ | refine z2 ?_ | refine z3 ?_ | refine z4 ?_ | refine z5 ?_ | refine ka6 ?_ | refine ka9 ?_ | refine ka2 ?_ | refine y0 D (by kernel_rfl!) ?_ | refine y1 D (by kernel_rfl!) ?_ | refine y2 D (by kernel_rfl!) ?_ | refine try_ ?_) | refine z6 rfl ?_ | refine z7 rfl ?_ | refine z6 (by kernel_rfl!) ?_ | refine z7 (by kernel_rfl!) ?_ | (fail_if_success with_reducible refine sa (by constructor) ?_); wp_delta)
  refine wpAny_fresh' ?_
  repeat (first | with_reducible (first | refine z0 (by assumption) ?_ | refine z1 ?_ | refine wb ?_ | refine bq_i ?_ | refine z2 ?_ | refine z3 ?_ | refine z4 ?_ | refine z5 ?_ | refine ka6 ?_ | refine ka9 ?_ | refine ka2 ?_ | refine y0 D (by kernel_rfl!) ?_ | refine y1 D (by kernel_rfl!) ?_ | refine y2 D (by kernel_rfl!) ?_ | refine try_ ?_) | refine z6 rfl ?_ | refine z7 rfl ?_ | refine z6 (by kernel_rfl!) ?_ | refine z7 (by kernel_rfl!) ?_ | (fail_if_success with_reducible refine sa (by constructor) ?_); wp_delta)
  refine khs D rfl fun md h D=>?_
  repeat (first | with_reducible (first | refine z0 (by assumption) ?_ | refine z1 ?_ | refine wb ?_ | refine bq_i ?_ | refine z2 ?_ | refine z3 ?_ | refine z4 ?_ | refine z5 ?_ | refine ka6 ?_ | refine ka9 ?_ | refine ka2 ?_ | refine y0 D (by kernel_rfl!) ?_ | refine y1 D (by kernel_rfl!) ?_ | refine y2 D (by kernel_rfl!) ?_ | refine try_ ?_) | refine z6 rfl ?_ | refine z7 rfl ?_ | refine z6 (by kernel_rfl!) ?_ | refine z7 (by kernel_rfl!) ?_ | (fail_if_success with_reducible refine sa (by constructor) ?_); wp_delta)
  refine wpAny_loadPart' (kbl (n0:=[_,_]) D) ?_
  repeat (first | with_reducible (first | refine z0 (by assumption) ?_ | refine z1 ?_ | refine wb ?_ | refine bq_i ?_ | refine z2 ?_ | refine z3 ?_ | refine z4 ?_ | refine z5 ?_ | refine ka6 ?_ | refine ka9 ?_ | refine ka2 ?_ | refine y0 D (by kernel_rfl!) ?_ | refine y1 D (by kernel_rfl!) ?_ | refine y2 D (by kernel_rfl!) ?_ | refine try_ ?_) | refine z6 rfl ?_ | refine z7 rfl ?_ | refine z6 (by kernel_rfl!) ?_ | refine z7 (by kernel_rfl!) ?_ | (fail_if_success with_reducible refine sa (by constructor) ?_); wp_delta)
  refine kh0 [_,_] D (o':=fun hh=>dictObj (kEs H T (.str xm tm) (.int nf tf) sl fi f1 f2 f3 f4 f5 st ++ [ent hh "obj" (t + 1) (.ref md)]) 2) rfl (by kernel_rfl!) (by kernel_rfl!) (fun _=>rfl) fun hh1 h D=>?_
  repeat (first | with_reducible (first | refine z0 (by assumption) ?_ | refine z1 ?_ | refine wb ?_ | refine bq_i ?_ | refine z2 ?_ | refine z3 ?_ | refine z4 ?_ | refine z5 ?_ | refine ka6 ?_ | refine ka9 ?_ | refine ka2 ?_ | refine y0 D (by kernel_rfl!) ?_ | refine y1 D (by kernel_rfl!) ?_ | refine y2 D (by kernel_rfl!) ?_ | refine try_ ?_) | refine z6 rfl ?_ | refine z7 rfl ?_ | refine z6 (by kernel_rfl!) ?_ | refine z7 (by kernel_rfl!) ?_ | (fail_if_success with_reducible refine sa (by constructor) ?_); wp_delta)
  refine for_as [.type "object"] rfl ?_
  repeat (first | with_reducible (first | refine z0 (by assumption) ?_ | refine z1 ?_ | refine wb ?_ | refine bq_i ?_ | refine z2 ?_ | refine z3 ?_ | refine z4 ?_ | refine z5 ?_ | refine ka6 ?_ | refine ka9 ?_ | refine ka2 ?_ | refine y0 D (by kernel_rfl!) ?_ | refine y1 D (by kernel_rfl!) ?_ | refine y2 D (by kernel_rfl!) ?_ | refine try_ ?_) | refine z6 rfl ?_ | refine z7 rfl ?_ | refine z6 (by kernel_rfl!) ?_ | refine z7 (by kernel_rfl!) ?_ | (fail_if_success with_reducible refine sa (by constructor) ?_); wp_delta)
  refine kf2 [_] D rfl rfl rfl fun h D=>?_
  repeat (first | with_reducible (first | refine z0 (by assumption) ?_ | refine z1 ?_ | refine wb ?_ | refine bq_i ?_ | refine z2 ?_ | refine z3 ?_ | refine z4 ?_ | refine z5 ?_ | refine ka6 ?_ | refine ka9 ?_ | refine ka2 ?_ | refine y0 D (by kernel_rfl!) ?_ | refine y1 D (by kernel_rfl!) ?_ | refine y2 D (by kernel_rfl!) ?_ | refine try_ ?_) | refine z6 rfl ?_ | refine z7 rfl ?_ | refine z6 (by kernel_rfl!) ?_ | refine z7 (by kernel_rfl!) ?_ | (fail_if_success with_reducible refine sa (by constructor) ?_); wp_delta)
  refine kbe [_] D (by decide) rfl fun h D=>?_
  repeat (first | with_reducible (first | refine z0 (by assumption) ?_ | refine z1 ?_ | refine wb ?_ | refine bq_i ?_ | refine z2 ?_ | refine z3 ?_ | refine z4 ?_ | refine z5 ?_ | refine ka6 ?_ | refine ka9 ?_ | refine ka2 ?_ | refine y0 D (by kernel_rfl!) ?_ | refine y1 D (by kernel_rfl!) ?_ | refine y2 D (by kernel_rfl!) ?_ | refine try_ ?_) | refine z6 rfl ?_ | refine z7 rfl ?_ | refine z6 (by kernel_rfl!) ?_ | refine z7 (by kernel_rfl!) ?_ | (fail_if_success with_reducible refine sa (by constructor) ?_); wp_delta)
  refine kh0 [_,_] D (o':=fun hh=>dictObj (kEs H T (.str xm tm) (.int nf tf) sl fi f1 f2 f3 f4 f5 st ++ [ent hh1 "obj" (t + 1) (.ref md),ent hh "__doc__" (t + 1 + 1) .none]) 3) rfl (by kernel_rfl!) (by kernel_rfl!) (fun _=>rfl) fun hh2 h D=>?_
  repeat (first | with_reducible (first | refine z0 (by assumption) ?_ | refine z1 ?_ | refine wb ?_ | refine bq_i ?_ | refine z2 ?_ | refine z3 ?_ | refine z4 ?_ | refine z5 ?_ | refine ka6 ?_ | refine ka9 ?_ | refine ka2 ?_ | refine y0 D (by kernel_rfl!) ?_ | refine y1 D (by kernel_rfl!) ?_ | refine y2 D (by kernel_rfl!) ?_ | refine try_ ?_) | refine z6 rfl ?_ | refine z7 rfl ?_ | refine z6 (by kernel_rfl!) ?_ | refine z7 (by kernel_rfl!) ?_ | (fail_if_success with_reducible refine sa (by constructor) ?_); wp_delta)
  refine kcf [_,_] D (r:=some (.ref f3)) (by kernel_rfl!) ?_
  repeat (first | with_reducible (first | refine z0 (by assumption) ?_ | refine z1 ?_ | refine wb ?_ | refine bq_i ?_ | refine z2 ?_ | refine z3 ?_ | refine z4 ?_ | refine z5 ?_ | refine ka6 ?_ | refine ka9 ?_ | refine ka2 ?_ | refine y0 D (by kernel_rfl!) ?_ | refine y1 D (by kernel_rfl!) ?_ | refine y2 D (by kernel_rfl!) ?_ | refine try_ ?_) | refine z6 rfl ?_ | refine z7 rfl ?_ | refine z6 (by kernel_rfl!) ?_ | refine z7 (by kernel_rfl!) ?_ | (fail_if_success with_reducible refine sa (by constructor) ?_); wp_delta)
  refine kcf [_,_] D (r:=some .none) (by kernel_rfl!) ?_
  repeat (first | with_reducible (first | refine z0 (by assumption) ?_ | refine z1 ?_ | refine wb ?_ | refine bq_i ?_ | refine z2 ?_ | refine z3 ?_ | refine z4 ?_ | refine z5 ?_ | refine ka6 ?_ | refine ka9 ?_ | refine ka2 ?_ | refine y0 D (by kernel_rfl!) ?_ | refine y1 D (by kernel_rfl!) ?_ | refine y2 D (by kernel_rfl!) ?_ | refine try_ ?_) | refine z6 rfl ?_ | refine z7 rfl ?_ | refine z6 (by kernel_rfl!) ?_ | refine z7 (by kernel_rfl!) ?_ | (fail_if_success with_reducible refine sa (by constructor) ?_); wp_delta)
  refine for_as [.type "object"] rfl ?_
  repeat (first | with_reducible (first | refine z0 (by assumption) ?_ | refine z1 ?_ | refine wb ?_ | refine bq_i ?_ | refine z2 ?_ | refine z3 ?_ | refine z4 ?_ | refine z5 ?_ | refine ka6 ?_ | refine ka9 ?_ | refine ka2 ?_ | refine y0 D (by kernel_rfl!) ?_ | refine y1 D (by kernel_rfl!) ?_ | refine y2 D (by kernel_rfl!) ?_ | refine try_ ?_) | refine z6 rfl ?_ | refine z7 rfl ?_ | refine z6 (by kernel_rfl!) ?_ | refine z7 (by kernel_rfl!) ?_ | (fail_if_success with_reducible refine sa (by constructor) ?_); wp_delta)
  refine kdd [_,_] D rfl ?_
  repeat (first | with_reducible (first | refine z0 (by assumption) ?_ | refine z1 ?_ | refine wb ?_ | refine bq_i ?_ | refine z2 ?_ | refine z3 ?_ | refine z4 ?_ | refine z5 ?_ | refine ka6 ?_ | refine ka9 ?_ | refine ka2 ?_ | refine y0 D (by kernel_rfl!) ?_ | refine y1 D (by kernel_rfl!) ?_ | refine y2 D (by kernel_rfl!) ?_ | refine try_ ?_) | refine z6 rfl ?_ | refine z7 rfl ?_ | refine z6 (by kernel_rfl!) ?_ | refine z7 (by kernel_rfl!) ?_ | (fail_if_success with_reducible refine sa (by constructor) ?_); wp_delta)
  refine kjt (fun e he P hP=>?_) ?_
  · obtain ⟨⟨x,u,hk⟩, -⟩:=kEs_mem (fun _=>True) trivial trivial trivial (fun _ _=>trivial) trivial trivial trivial e he
    show wpAny _ _ (asStr? e.key >>= _) _ _ _
    rw [hk]
    exact wpAny_bind (wpAny_pure (wpAny_pure hP))
  repeat (first | with_reducible (first | refine z0 (by assumption) ?_ | refine z1 ?_ | refine wb ?_ | refine bq_i ?_ | refine z2 ?_ | refine z3 ?_ | refine z4 ?_ | refine z5 ?_ | refine ka6 ?_ | refine ka9 ?_ | refine ka2 ?_ | refine y0 D (by kernel_rfl!) ?_ | refine y1 D (by kernel_rfl!) ?_ | refine y2 D (by kernel_rfl!) ?_ | refine try_ ?_) | refine z6 rfl ?_ | refine z7 rfl ?_ | refine z6 (by kernel_rfl!) ?_ | refine z7 (by kernel_rfl!) ?_ | (fail_if_success with_reducible refine sa (by constructor) ?_); wp_delta)
  refine kdd [_,_] D rfl ?_
  repeat (first | with_reducible (first | refine z0 (by assumption) ?_ | refine z1 ?_ | refine wb ?_ | refine bq_i ?_ | refine z2 ?_ | refine z3 ?_ | refine z4 ?_ | refine z5 ?_ | refine ka6 ?_ | refine ka9 ?_ | refine ka2 ?_ | refine y0 D (by kernel_rfl!) ?_ | refine y1 D (by kernel_rfl!) ?_ | refine y2 D (by kernel_rfl!) ?_ | refine try_ ?_) | refine z6 rfl ?_ | refine z7 rfl ?_ | refine z6 (by kernel_rfl!) ?_ | refine z7 (by kernel_rfl!) ?_ | (fail_if_success with_reducible refine sa (by constructor) ?_); wp_delta)
  refine kjt (fun e he P hP=>?_) ?_
  · obtain ⟨⟨x,u,hk⟩,hu1,hu2⟩:=kEs_mem (fun v=>Unheld v ∧ NoSet (model prog w) A ⟨h,g,d,t + 1 + 1 + 1,os⟩ v) ⟨fun _ _=>rfl,nos_str⟩ ⟨fun _ _=>rfl,nos_int⟩ ⟨fun _ _=>rfl,ki2 (D.old _ _ hsl rfl) rfl⟩ (fun x hx=>let ⟨o,e,c⟩:=hfn x hx; ⟨fun _ _=>rfl,ki2 (D.old _ _ e (by rw [show away [] x = true from rfl,Bool.or_true])) c⟩) ⟨fun _ _=>rfl,nos_none⟩ (let ⟨o,e,c⟩:=hst; ⟨fun _ _=>rfl,ki2 (D.old _ _ e (by rw [show away [] st = true from rfl,Bool.or_true])) c⟩) ⟨fun _ _=>rfl,ki2 (kbl (n0:=[]) D) rfl⟩ e he
    dsimp only
    rw [hk]
    refine wpAny_ite_false (by rw [hu1]; rfl) ?_
    exact wpAny_bind (hu2 _ _ (wpAny_pure hP))
  repeat (first | with_reducible (first | refine z0 (by assumption) ?_ | refine z1 ?_ | refine wb ?_ | refine bq_i ?_ | refine z2 ?_ | refine z3 ?_ | refine z4 ?_ | refine z5 ?_ | refine ka6 ?_ | refine ka9 ?_ | refine ka2 ?_ | refine y0 D (by kernel_rfl!) ?_ | refine y1 D (by kernel_rfl!) ?_ | refine y2 D (by kernel_rfl!) ?_ | refine try_ ?_) | refine z6 rfl ?_ | refine z7 rfl ?_ | refine z6 (by kernel_rfl!) ?_ | refine z7 (by kernel_rfl!) ?_ | (fail_if_success with_reducible refine sa (by constructor) ?_); wp_delta)
  refine kgg (kbl (n0:=[_]) D) rfl rfl fun h' hso hk=>?_
  repeat (first | with_reducible (first | refine z0 (by assumption) ?_ | refine z1 ?_ | refine wb ?_ | refine bq_i ?_ | refine z2 ?_ | refine z3 ?_ | refine z4 ?_ | refine z5 ?_ | refine ka6 ?_ | refine ka9 ?_ | refine ka2 ?_ | refine y0 D (by kernel_rfl!) ?_ | refine y1 D (by kernel_rfl!) ?_ | refine y2 D (by kernel_rfl!) ?_ | refine try_ ?_) | refine z6 rfl ?_ | refine z7 rfl ?_ | refine z6 (by kernel_rfl!) ?_ | refine z7 (by kernel_rfl!) ?_ | (fail_if_success with_reducible refine sa (by constructor) ?_); wp_delta)
  refine attr_isub hso (lk_opaque (hk _ _ (D.old _ _ h2 (by rw [show away [] 2 = true from rfl,Bool.or_true]))) hn2) (hk _ _ (kbl (n0:=[_]) D)) rfl rfl ?_
  repeat (first | with_reducible (first | refine z0 (by assumption) ?_ | refine z1 ?_ | refine wb ?_ | refine bq_i ?_ | refine z2 ?_ | refine z3 ?_ | refine z4 ?_ | refine z5 ?_ | refine ka6 ?_ | refine ka9 ?_ | refine ka2 ?_ | refine y0 D (by kernel_rfl!) ?_ | refine y1 D (by kernel_rfl!) ?_ | refine y2 D (by kernel_rfl!) ?_ | refine try_ ?_) | refine z6 rfl ?_ | refine z7 rfl ?_ | refine z6 (by kernel_rfl!) ?_ | refine z7 (by kernel_rfl!) ?_ | (fail_if_success with_reducible refine sa (by constructor) ?_); wp_delta)
  refine call_isub (Heap.get?_push_size _ rfl) (Heap.get?_push_of_some _ (hk _ _ (kbl (n0:=[_]) D))) rfl rfl rfl ?_
  repeat (first | with_reducible (first | refine z0 (by assumption) ?_ | refine z1 ?_ | refine wb ?_ | refine bq_i ?_ | refine z2 ?_ | refine z3 ?_ | refine z4 ?_ | refine z5 ?_ | refine ka6 ?_ | refine ka9 ?_ | refine ka2 ?_ | refine y0 D (by kernel_rfl!) ?_ | refine y1 D (by kernel_rfl!) ?_ | refine y2 D (by kernel_rfl!) ?_ | refine try_ ?_) | refine z6 rfl ?_ | refine z7 rfl ?_ | refine z6 (by kernel_rfl!) ?_ | refine z7 (by kernel_rfl!) ?_ | (fail_if_success with_reducible refine sa (by constructor) ?_); wp_delta)
  refine hQ a md N ls _ _ (t + 1) (t + 1 + 1) _ hh1 hh2 m ?_ (fun y o e=>Heap.get?_push_of_some _ (hk y o e))
  exact Eq.mp (congrArg (fun l=>Mem _ _ [] l) (by kernel_rfl!)) D
section
section
variable {w:World}{A:Around}{E:Value → Shared → Prop}{h:Heap}{g:Array GenState}{d:Drawn}{t:Nat}{os:OsState}{bt ns:Addr}{tk:Tok}
theorem tt_mro:mroOf (.type "type") = pure [.type "type", .type "object"]:=by rw [mroOf_type]; kernel_rfl
theorem tt_made:Bind.madeBy (.type "type") = pure (some "type.__new__"):=madeBy_type tt_mro (by rw [typeLookup_type,builtinLookup_eq_fast]; kernel_rfl) (by decide +kernel)
theorem tt_can:((Manifest.find? "type").bind (·.mro.findSome? fun t=>(Manifest.find? t).bind fun b=>if b.noNew then some true else if b.attrs.any (·.1 == "__new__") then some false else none)).getD false = false:=by decide +kernel
theorem tt_check:checkTypeCall "type" ⟨[.str "K" tk, .ref bt, .ref ns],[]⟩ = pure ():=by kernel_rfl
theorem tt_sub:isSubtype (.type "type") (.type "type") = pure true:=by rw [isSubtype_type]; kernel_rfl
theorem tt_new:checkBuiltinCall "type.__new__" ⟨[.type "type", .str "K" tk, .ref bt, .ref ns],[]⟩ = pure ():=by kernel_rfl
theorem tt_entry:entryFor table "type.__new__" = some Builtin.«type.__new__»:=entryFor_of_tree (by kernel_rfl)
theorem tt_plain:plainId "type.__new__" = true:=by decide +kernel
theorem tt_slot:Slot "type" "__init__" "type.__init__" := .of (owner := "type") (n := "__init__") (by rw [typeLookup_type,builtinLookup_eq_fast]; kernel_rfl) (by decide +kernel) (by decide +kernel) (by decide +kernel)
  (by first | exact .inl (by decide +kernel) | exact .inr (by decide +kernel)) (by rw [isSubtype_type]; kernel_rfl)
theorem tt_ientry:entryFor table "type.__init__" = some Builtin.«type.__init__»:=entryFor_of_tree (by kernel_rfl)
theorem tt_iargs {a:Addr} : argsOk "type.__init__" ⟨[.ref a, .str "K" tk, .ref bt, .ref ns],[]⟩:=by unfold argsOk; kernel_rfl
theorem call_type3 {Q:Value → Shared → Prop}
    (hnew:wpAny (model prog w) A.in1.in1 (Builtin.«type.__new__» ⟨[.type "type", .str "K" tk, .ref bt, .ref ns],[]⟩) (fun fin s'=>∃ a o,fin = .done (.ret (.ref a)) ∧ s'.heap.get? a = some o ∧ o.cls = .type "type" ∧ Q (.ref a) s') E ⟨h,g,d,t,os⟩) :
    wpAny (model prog w) A (call (.type "type") [.str "K" tk, .ref bt, .ref ns]) Q E ⟨h,g,d,t,os⟩:=by
  refine wpAny_call (codeAny_of_tree ?_)
  show wpAny _ _ (callAny (.type "type") _) _ _ _
  refine wpAny_pure ⟨Code.quiet_builtin _ (by decide +kernel),codeAny_builtin F.entry_type_call ?_⟩
  rw [Around.under_plain (weight_type_call_type "type" _ []) rfl]
  have q1:=tt_mro
  have q2:=tt_made
  have q3:=tt_can
  have q4:=tt_check (tk:=tk) (bt:=bt) (ns:=ns)
  unfold Builtin.«type.__call__»
  repeat (first | with_reducible refine wpAny_holding ?_ | refine wpAny_ite_false (by kernel_rfl!) ?_ | refine wpAny_ite_true (by kernel_rfl!) ?_ | ((fail_if_success with_reducible refine sa .d4 ?_); wp_step))
  refine wpAny_call (codeAny_call_builtin tt_plain tt_entry (wpAny_of_eq tt_new (wpAny_mono hnew (fun fin s' hf=>?_) fun _ _ z=>z)))
  obtain ⟨a,o,rfl,ha,hc,hq⟩:=hf
  have hT:s'.TypeIs (.ref a) "type" := ⟨o,ha,hc⟩
  refine wpAny_bind (wpAny_isInstance hT tt_sub ?_)
  refine wpAny_ite_false rfl ?_
  refine wpAny_bind (wpAny_holding (wpAny_callSpecial?_slot hT tt_slot (wpAny_call_entry tt_slot hT tt_ientry ?_ tt_iargs)))
  unfold Builtin.«type.__init__»
  refine wpAny_ite_false rfl ?_
  refine wpAny_ite_false rfl ?_
  refine wpAny_pure ⟨_,rfl, ?_⟩
  refine wpAny_ite_false rfl ?_
  exact wpAny_pure hq
end
end
section
structure CB (hb:Heap) (ns c P:Addr) (ps:Array Value) (fs:List (Addr × Obj)) (es:List DictEntry) (ep:Nat) (h:Heap):Prop where
  keep:∀ b o,hb.get? b = some o → h.get? b = some o
  nsb:hb.get? ns = none
  Pb:hb.get? P = none
  fs:∀ p ∈ fs,h.get? p.1 = some p.2 ∧ p.1 ≠ ns ∧ p.1 ≠ P ∧ hb.get? p.1 = none
  dict:h.get? ns = some (dictObj es ep)
  hd:CodeHd h c P
  tab:h.get? P = some (tabObj ps)
  tri:TriplesOk ps.toList
inductive CodeO (o:Obj) (q:Str):Prop
  | mk (vs:Array Value) (t:Tok) (e:o.data = .fields vs) (e1:vs[1]? = some (.str q t)):CodeO o q
section
variable {M:Model}{A:Around}{E:Value → Shared → Prop}{hb h:Heap}{g:Array GenState}{d:Drawn}{t:Nat}{os:OsState}{ns c P:Addr}{ps:Array Value}{fs:List (Addr × Obj)}{es:List DictEntry}{ep:Nat}
theorem CB.nsP (C:CB hb ns c P ps fs es ep h):ns ≠ P:=fun q=>by
  have:=C.dict
  rw [q,C.tab] at this; cases this
theorem CB.grow {h':Heap}(C:CB hb ns c P ps fs es ep h) (k:∀ b o,h.get? b = some o → h'.get? b = some o):CB hb ns c P ps fs es ep h' :=
  ⟨fun b o e=>k b o (C.keep b o e),C.nsb,C.Pb,fun p hp=>⟨k _ _ (C.fs p hp).1,(C.fs p hp).2⟩,k _ _ C.dict,C.hd.keeps k,k _ _ C.tab,C.tri⟩
theorem CB.add {a:Addr}{o:Obj}(C:CB hb ns c P ps fs es ep h) (ha:h.get? a = some o) (h1:a ≠ ns) (h2:a ≠ P) (h3:hb.get? a = none):CB hb ns c P ps ((a,o) :: fs) es ep h :=
  ⟨C.keep,C.nsb,C.Pb,fun p hp=>by
    rcases List.mem_cons.mp hp with rfl | hp
    · exact ⟨ha,h1,h2,h3⟩
    · exact C.fs p hp,C.dict,C.hd,C.tab,C.tri⟩
theorem CB.fresh (C:CB hb ns c P ps fs es ep h) {a:Addr}(n:h.get? a = none):hb.get? a = none:=by
  cases q:hb.get? a with
  | none=>rfl
  | some o=>rw [C.keep _ _ q] at n; cases n
theorem CB.push {o:Obj}(C:CB hb ns c P ps fs es ep h) (hf:o.isFreed = false):CB hb ns c P ps ((h.objs.size,o) :: fs) es ep (h.push o) :=
  (C.grow fun b o e=>Heap.get?_push_of_some _ e).add (Heap.get?_push_size _ hf) (Nat.ne_of_gt (Heap.lt_size C.dict)) (Nat.ne_of_gt (Heap.lt_size C.tab)) (C.fresh (Heap.get?_none_of_le (Nat.le_refl _)))
theorem kck {h':Heap}{a:Addr}(x:CodeHd h c P) (k:∀ b o,b ≠ a → h.get? b = some o → h'.get? b = some o) (hc:c ≠ a):CodeHd h' c P :=
  let ⟨o,vs,file,tf,flags,tg,inF,text,tt,e,r⟩:=x; ⟨o,vs,file,tf,flags,tg,inF,text,tt,k _ _ hc e,r⟩
theorem CB.c_ns (C:CB hb ns c P ps fs es ep h):c ≠ ns:=fun q=>by
  obtain ⟨o,vs,file,tf,flags,tg,inF,text,tt,e,ec,_⟩:=C.hd
  rw [q,C.dict] at e; cases e; exact absurd ec (by simp)
theorem CB.c_P (C:CB hb ns c P ps fs es ep h):c ≠ P:=by
  obtain ⟨o,vs,file,tf,flags,tg,inF,text,tt,e,ec,_,_,_,_,_,_,_,r⟩:=C.hd
  exact r
theorem CB.dictTo {h':Heap}{es':List DictEntry}{ep':Nat}(C:CB hb ns c P ps fs es ep h) (hs:Heap.SameBut ns h h') (hg:h'.get? ns = some (dictObj es' ep')):CB hb ns c P ps fs es' ep' h' :=
  ⟨fun b o e=>(hs.2 b fun q=>by rw [q,C.nsb] at e; cases e).trans (C.keep b o e),C.nsb,C.Pb,fun p hp=>⟨(hs.2 _ (C.fs p hp).2.1).trans (C.fs p hp).1,(C.fs p hp).2⟩,hg,
    kck C.hd (fun b o hb e=>(hs.2 b hb).trans e) C.c_ns,(hs.2 _ (Ne.symm C.nsP)).trans C.tab,C.tri⟩
theorem cb_set {name:Str}{v:Value}{es':Int → Tok → List DictEntry}{ep':Nat}{Q:Unit → Shared → Prop}(C:CB hb ns c P ps fs es ep h) (hk:aRefKeyMayBeTheName name es.toArray = false)
    (he:(fun hh tk=>Obj.putName name hh (.str name tk) v (dictObj es ep)) = fun hh tk=>dictObj (es' hh tk) ep') (H:∀ hh h',CB hb ns c P ps fs (es' hh t) ep' h' → Q () ⟨h',g,d,t + 1,os⟩):wpAny M A (nsSet ns name v) Q E ⟨h,g,d,t,os⟩:=by
  unfold nsSet
  refine wpAny_bind (m:=strHash name) (wpAny_bind (wpAny_askSetting (wpAny_pure ?_)))
  refine wpAny_bind (wpAny_mkText (wpAny_bind (wpAny_loadPart C.dict ?_)))
  refine wpAny_ite_false (by rw [hk]; rfl) ?_
  generalize (if name.cps.isEmpty = true then (0:Int) else _) = hh
  refine wpAny_updatePart C.dict (H hh _ (C.dictTo (Heap.SameBut.update ..) ?_))
  rw [← congrFun (congrFun he hh) t]
  refine Heap.get?_update_self _ C.dict ?_
  rw [congrFun (congrFun he hh) t]; rfl
theorem kim {env:Env}{name:Str}{v:Value}{es':Int → Tok → List DictEntry}{ep':Nat}{Q:Unit → Shared → Prop}(C:CB hb ns c P ps fs es ep h) (hl:env.locals = ns) (hk:aRefKeyMayBeTheName name es.toArray = false)
    (he:(fun hh tk=>Obj.putName name hh (.str name tk) v (dictObj es ep)) = fun hh tk=>dictObj (es' hh tk) ep') (H:∀ hh h',CB hb ns c P ps fs (es' hh t) ep' h' → Q () ⟨h',g,d,t + 1,os⟩)
    (hs:storeName env name v = localSet env name v:=by rfl):wpAny M A (storeName env name v) Q E ⟨h,g,d,t,os⟩:=by
  rw [hs]
  unfold localSet
  rw [hl]
  refine wpAny_bind (wpAny_load C.dict ?_)
  exact wpAny_ite_true rfl (cb_set C hk he H)
theorem khg {env:Env}{name:Str}{v:Value}{Q:Unit → Shared → Prop}(C:CB hb ns c P ps fs es ep h) (hl:env.locals = ns) (hk:aRefKeyMayBeTheName name es.toArray = false)
    (he:(fun hh tk=>Obj.putName name hh (.str name tk) v (dictObj es ep)) = fun hh tk=>dictObj (es ++ [ent hh name tk v]) (ep + 1)) (H:∀ hh h',CB hb ns c P ps fs (es ++ [ent hh name t v]) (ep + 1) h' → Q () ⟨h',g,d,t + 1,os⟩)
    (hs:storeName env name v = localSet env name v:=by rfl):wpAny M A (storeName env name v) Q E ⟨h,g,d,t,os⟩:=kim C hl hk he H hs
theorem khh {env:Env}{name qual:Str}{params:Arguments}{body:List Stmt}{scope:Scope}{pos:Pos}{clos:List (Str × Addr)}{mg:Str → Option Value}{Q:Flow → Shared → Prop}(C:CB hb ns c P ps fs es ep h)
    (hl:env.locals = ns) (hge:env.globals = mainGlobals) (hcode:env.code = .ref c) (hg:hb.Ns mainGlobals mg) (hbm:hb.BuiltinsAt mg P) (hgP:mainGlobals ≠ P) (hcl:closureFor scope env = pure clos) (hq:qualnameIn env name name = qual)
    (hnf:codeAmong pos ps.toList = none) (hk:aRefKeyMayBeTheName name es.toArray = false) (he:∀ f,(fun hh tk=>Obj.putName name hh (.str name tk) (.ref f) (dictObj es ep)) = fun hh tk=>dictObj (es ++ [ent hh name tk (.ref f)]) (ep + 1))
    (H:∀ f c' oc ctv doc hh tk tk' h',CodeO oc qual → CB hb ns c P (ps ++ #[rawInt pos.line,rawInt pos.col, .ref c']) ((f,fnMade name qual params body scope clos doc ((mg "__name__").getD .none) c' ctv) :: (c',oc) :: fs) (es ++ [ent hh name tk (.ref f)]) (ep + 1) h' → Q .next ⟨h',g,d,tk',os⟩)
    (hda:defaultsOf params env = ([],[]):=by rfl) (han:(match params with | ⟨po,a,va,ko,_,kwa,_⟩=>annotationsOf (a ++ po ++ va.toList ++ ko ++ kwa.toList) env) = []:=by rfl) (hs:∀ v,storeName env name v = localSet env name v:=by intro _; rfl) :
    wpAny M A (exec (.FunctionDef name params body [] none [] scope none name pos) env) Q E ⟨h,g,d,t,os⟩:=by
  rw [arm_exec_FunctionDef]
  unfold defStmt
  refine wpAny_ite_false rfl ?_
  refine wpAny_bind (m:=evalAll []) (wpAny_pure (wpAny_bind (wpAny_standAt (wpAny_bind (wpAny_holding ?_)))))
  rw [hda]
  refine wpAny_bind (m:=evalAll []) (wpAny_pure (wpAny_bind (m:=holding [] (evalAllOpt [])) (wpAny_holding (wpAny_pure (wpAny_holding ?_)))))
  obtain ⟨po,a,va,ko,kd,kwa,dl⟩:=params
  dsimp only at han ⊢
  rw [han,hq]
  refine wpAny_bind (m:=evalNamed []) (wpAny_pure ?_)
  refine makeFunction_K hcl hge (hg.keeps C.keep) hcode C.hd C.tab C.tri hnf hgP (let ⟨bm,o,a1,a2,a3,a4,a5,a6⟩:=hbm; ⟨bm,o,a1,a2,a3,a4,C.keep _ _ a5,a6⟩) fun c' ctv doc h' tk hx hge' hlt hrec htab=>?_
  refine wpAny_bind (m:=decorate [] _) (wpAny_pure (wpAny_bind (wpAny_standAt ?_)))
  obtain ⟨c2,oc,vs,tq,e,hoc,hod,hoq⟩:=hrec
  cases e
  have ne1:c' ≠ ns:=Nat.ne_of_gt (Nat.lt_of_lt_of_le (Heap.lt_size C.dict) hge')
  have ne2:c' ≠ P:=Nat.ne_of_gt (Nat.lt_of_lt_of_le (Heap.lt_size C.tab) hge')
  have C1:CB hb ns c P (ps ++ #[rawInt pos.line,rawInt pos.col, .ref c']) ((c',oc) :: fs) es ep h':=by
    refine CB.add ⟨fun b o e=>hx b o (fun q=>by rw [q,C.Pb] at e; cases e) (C.keep b o e),C.nsb,C.Pb,fun p hp=>⟨hx _ _ (C.fs p hp).2.2.1 (C.fs p hp).1,(C.fs p hp).2⟩,hx _ _ C.nsP C.dict,kck C.hd hx C.c_P,htab, ?_⟩ hoc ne1 ne2 (C.fresh (Heap.get?_none_of_le hge'))
    rw [show (ps ++ #[rawInt pos.line,rawInt pos.col,Value.ref c']).toList = ps.toList ++ [rawInt pos.line,rawInt pos.col, .ref c'] by simp]
    exact TriplesOk_snoc _ _ _ _ C.tri
  have C2:=C1.push (o:=fnMade name qual ⟨po,a,va,ko,kd,kwa,dl⟩ body scope clos doc ((mg "__name__").getD .none) c' ctv) rfl
  refine wpAny_bind (m:=bindName env name _) ?_
  unfold bindName
  refine wpAny_bind (wpAny_holding (wpAny_point (wpAny_bind (kim C2 hl hk (he _) (fun hh h2 C3=>wpAny_point (wpAny_pure (H _ _ _ _ _ _ _ _ _ ⟨vs,tq,hod,hoq⟩ C3))) (hs _)))))
theorem list_one {s:Shared}{x:Str}{k:Nat}{p1 p2:Pos}{env:Env}{Q:Value → Shared → Prop}(H:Q (.ref s.heap.objs.size) { s with heap:=s.heap.push { cls:=.type "list",data:=.seq #[.str x s.toks] },toks:=s.toks + 1 }) :
    wpAny M A (eval (.List [.Constant (.str x) k p1] p2) env) Q E s:=by
  show wpAny _ A (do standAt p2; newList (← spliced [(false,eval (.Constant (.str x) k p1) env)])) Q E s
  exact wpAny_bind (wpAny_standAt (wpAny_bind (spliced_cons (Constant_str (spliced_nil (wpAny_newObj_type H (by size_fits)))))))
end
end
section
noncomputable def kBody (w:World):List Stmt:=match (KF w).lookup 28 with
  | some ⟨_,_, .func fd,_⟩=>(match fd.body with
    | .stmts b=>b
    | _=>[])
  | _=>[]
noncomputable def clsBody (w:World):List Stmt:=match kBody w with
  | .ClassDef _ _ _ b _ _ _ _ _ _ _ :: _=>b
  | _=>[]
noncomputable def clsScope (w:World):Scope:=match kBody w with
  | .ClassDef _ _ _ _ _ _ sc _ _ _ _ :: _=>sc
  | _=>default
noncomputable def defsOf:List Stmt → List (Arguments × List Stmt × Scope)
  | []=>[]
  | .FunctionDef _ ar b _ _ _ sc _ _ _ :: r=>(ar,b,sc) :: defsOf r
  | _ :: r=>defsOf r
noncomputable def meth (w:World) (k:Nat):Arguments × List Stmt × Scope:=(defsOf (clsBody w)).getD k default
inductive KMeth (w:World) (fs:List (Addr × Obj)) (f:Addr) (k:Nat) (name q:Str) (clos:List (Str × Addr)):Prop
  | mk (c':Addr) (oc:Obj) (ctv doc pm:Value) (m1:(f,fnMade name q (meth w k).1 (meth w k).2.1 (meth w k).2.2 clos doc pm c' ctv) ∈ fs) (m2:(c',oc) ∈ fs) (r:CodeO oc q):KMeth w fs f k name q clos
noncomputable abbrev clsEnv (w:World) (ns c cc fr:Addr):Env:={ scope:=clsScope w,locals:=ns,globals:=mainGlobals,qual := "cmp_to_key.<locals>.K.",code:=.ref c,frame:=some fr,builtins:=builtinsNs,cells:=[("mycmp",cc)] }
noncomputable abbrev bodyEs (H:Nat → Int) (T:Nat → Tok) (vm vf:Value) (sl fi f1 f2 f3 f4 f5:Addr):List DictEntry:=[ent (H 0) "__module__" (T 0) vm,ent (H 1) "__qualname__" (T 1) (.str "cmp_to_key.<locals>.K" (T 21)),ent (H 2) "__firstlineno__" (T 2) vf,ent (H 3) "__slots__" (T 3) (.ref sl),ent (H 4) "__init__" (T 4) (.ref fi),ent (H 5) "__lt__" (T 5) (.ref f1),ent (H 6) "__gt__" (T 6) (.ref f2),ent (H 7) "__eq__" (T 7) (.ref f3),ent (H 8) "__le__" (T 8) (.ref f4),ent (H 9) "__ge__" (T 9) (.ref f5),ent (H 10) "__hash__" (T 10) .none]
section
variable {w:World}{A:Around}{E:Value → Shared → Prop}{hb h:Heap}{g:Array GenState}{d:Drawn}{t:Nat}{os:OsState}{ns c P cc fr:Addr}{ep:Nat}{mg:Str → Option Value}
theorem khf {sc:Scope}(h:(sc.names.all fun p=>p.2 != .free || p.1 == ("mycmp" : Str)) = true) {env:Env}(he:env.cells = [(("mycmp" : Str),cc)]) {r:List (Str × Addr)}(hr:clFrom [(("mycmp" : Str),cc)] sc.names [] = r):closureFor sc env = pure r:=by
  rw [← hr, ← he]
  refine kbt fun x hx=>?_
  have:=List.all_eq_true.mp h _ hx
  have e:x = ("mycmp" : Str):=by simpa using this
  rw [he,e]; rfl
set_option maxHeartbeats 4000000 in
theorem cls_body {Q:Flow → Shared → Prop}{h0 h1 h2:Int}{t0 t1 t2 t3:Tok}{v0 vf:Value}(C:CB hb ns c P #[] [] [ent h0 "__module__" t0 v0,ent h1 "__qualname__" t1 (.str "cmp_to_key.<locals>.K" t3),ent h2 "__firstlineno__" t2 vf] 3 h)
    (hg:hb.Ns mainGlobals mg) (hbm:hb.BuiltinsAt mg P) (hgP:mainGlobals ≠ P)
    (hQ:∀ h' ps fs tk sl so fi f1 f2 f3 f4 f5 H T tm,(sl,{ cls:=.type "list",data:=.seq #[.str "obj" so] }) ∈ fs → KMeth w fs fi 0 "__init__" "cmp_to_key.<locals>.K.__init__" [] → KMeth w fs f1 1 "__lt__" "cmp_to_key.<locals>.K.__lt__" [("mycmp",cc)] → KMeth w fs f2 2 "__gt__" "cmp_to_key.<locals>.K.__gt__" [("mycmp",cc)] →
      KMeth w fs f3 3 "__eq__" "cmp_to_key.<locals>.K.__eq__" [("mycmp",cc)] → KMeth w fs f4 4 "__le__" "cmp_to_key.<locals>.K.__le__" [("mycmp",cc)] → KMeth w fs f5 5 "__ge__" "cmp_to_key.<locals>.K.__ge__" [("mycmp",cc)] →
      CB hb ns c P ps fs (bodyEs H T (.str "cpy313.functools" tm) vf sl fi f1 f2 f3 f4 f5) 11 h' → Q .next ⟨h',g,d,tk,os⟩) :
    wpAny (model prog w) A (execs (clsBody w) (clsEnv w ns c cc fr)) Q E ⟨h,g,d,t,os⟩:=by
  refine wpAny_execs_cons (wpAny_Assign_Name (Constant_str ?_))
  refine kim C rfl (by kernel_rfl!) (es':=fun hh tk=>[ent h0 "__module__" t0 (.str "cpy313.functools" t),ent h1 "__qualname__" t1 (.str "cmp_to_key.<locals>.K" t3),ent h2 "__firstlineno__" t2 vf]) (ep':=3) (by kernel_rfl!) (fun hm h C=>?_)
  refine wpAny_execs_cons (wpAny_Assign_Name ?_)
  refine list_one ?_
  refine khg (C.push rfl) rfl (by kernel_rfl!) (by kernel_rfl!) (fun hs h C=>?_)
  refine wpAny_execs_cons (khh C rfl rfl rfl hg hbm hgP (qual := "cmp_to_key.<locals>.K.__init__") (clos:=[]) (khf (by decide) rfl rfl) (by kernel_rfl!) (by kernel_rfl!) (by kernel_rfl!) (fun _=>by kernel_rfl!) fun fi c0 o0 ct0 d0 hh0 tt0 tk0 h O0 C=>?_)
  refine wpAny_execs_cons (khh C rfl rfl rfl hg hbm hgP (qual := "cmp_to_key.<locals>.K.__lt__") (clos:=[("mycmp",cc)]) (khf (by decide) rfl rfl) (by kernel_rfl!) (by kernel_rfl!) (by kernel_rfl!) (fun _=>by kernel_rfl!) fun f1 c1 o1 ct1 d1 hh1 tt1 tk1 h O1 C=>?_)
  refine wpAny_execs_cons (khh C rfl rfl rfl hg hbm hgP (qual := "cmp_to_key.<locals>.K.__gt__") (clos:=[("mycmp",cc)]) (khf (by decide) rfl rfl) (by kernel_rfl!) (by kernel_rfl!) (by kernel_rfl!) (fun _=>by kernel_rfl!) fun f2 c2 o2 ct2 d2 hh2 tt2 tk2 h O2 C=>?_)
  refine wpAny_execs_cons (khh C rfl rfl rfl hg hbm hgP (qual := "cmp_to_key.<locals>.K.__eq__") (clos:=[("mycmp",cc)]) (khf (by decide) rfl rfl) (by kernel_rfl!) (by kernel_rfl!) (by kernel_rfl!) (fun _=>by kernel_rfl!) fun f3 c3 o3 ct3 d3 hh3 tt3 tk3 h O3 C=>?_)
  refine wpAny_execs_cons (khh C rfl rfl rfl hg hbm hgP (qual := "cmp_to_key.<locals>.K.__le__") (clos:=[("mycmp",cc)]) (khf (by decide) rfl rfl) (by kernel_rfl!) (by kernel_rfl!) (by kernel_rfl!) (fun _=>by kernel_rfl!) fun f4 c4 o4 ct4 d4 hh4 tt4 tk4 h O4 C=>?_)
  refine wpAny_execs_cons (khh C rfl rfl rfl hg hbm hgP (qual := "cmp_to_key.<locals>.K.__ge__") (clos:=[("mycmp",cc)]) (khf (by decide) rfl rfl) (by kernel_rfl!) (by kernel_rfl!) (by kernel_rfl!) (fun _=>by kernel_rfl!) fun f5 c5 o5 ct5 d5 hh5 tt5 tk5 h O5 C=>?_)
  refine wpAny_execs_cons (wpAny_Assign_Name (wpAny_pure ?_))
  refine khg C rfl (by kernel_rfl!) (by kernel_rfl!) (fun hz h C=>?_)
  refine wpAny_execs_nil ?_
  refine hQ h _ _ _ _ (t + 1 + 1) fi f1 f2 f3 f4 f5 (fun i=>[h0,h1,h2,hs,hh0,hh1,hh2,hh3,hh4,hh5,hz].getD i 0) (fun i=>[t0,t1,t2,t + 1 + 1 + 1,tt0,tt1,tt2,tt3,tt4,tt5,tk5].getD i t3) t (List.mem_of_getElem? (i:=12) rfl)
    ⟨c0,o0,ct0,d0,(mg "__name__").getD .none,List.mem_of_getElem? (i:=10) (by kernel_rfl!),List.mem_of_getElem? (i:=11) rfl,O0⟩
    ⟨c1,o1,ct1,d1,(mg "__name__").getD .none,List.mem_of_getElem? (i:=8) (by kernel_rfl!),List.mem_of_getElem? (i:=9) rfl,O1⟩
    ⟨c2,o2,ct2,d2,(mg "__name__").getD .none,List.mem_of_getElem? (i:=6) (by kernel_rfl!),List.mem_of_getElem? (i:=7) rfl,O2⟩
    ⟨c3,o3,ct3,d3,(mg "__name__").getD .none,List.mem_of_getElem? (i:=4) (by kernel_rfl!),List.mem_of_getElem? (i:=5) rfl,O3⟩
    ⟨c4,o4,ct4,d4,(mg "__name__").getD .none,List.mem_of_getElem? (i:=2) (by kernel_rfl!),List.mem_of_getElem? (i:=3) rfl,O4⟩
    ⟨c5,o5,ct5,d5,(mg "__name__").getD .none,List.mem_of_getElem? (i:=0) (by kernel_rfl!),List.mem_of_getElem? (i:=1) rfl,O5⟩
    (Eq.mp (congrArg (fun l=>CB hb ns c P _ _ l _ h) (by kernel_rfl!)) C)
end
end
section
section
variable {w:World}{A:Around}{E:Value → Shared → Prop}{h:Heap}{g:Array GenState}{d:Drawn}{t:Nat}{os:OsState}{bt:Addr}{tk:Tok}
noncomputable abbrev prepBound:Obj:={ cls:=.type "builtin_function_or_method",data:=.fields #[.builtin "type.__prepare__", .type "type"] }
theorem type_prep:typeOf (.builtin "type.__prepare__") = pure (.type "classmethod_descriptor"):=by show builtinType _ = _; rw [builtinType_eq_fast]; kernel_rfl
theorem owner_prep:(kfb_private% "ownerAndName") "type.__prepare__" = ("type", "__prepare__"):=by first | decide +kernel | kernel_rfl
theorem type_tt:isType (.type "type") = pure true:=by first | rfl | kernel_rfl
theorem find_prep:findCls [] (.type "type") (.type "type") "__prepare__" = some (.get (.builtin "classmethod_descriptor.__get__") (.builtin "type.__prepare__") .none (.type "type")):=by kernel_rfl
theorem get_prep {M:Model}{P:Fin → Shared → Prop}(H:P (.done (.ret (.ref h.objs.size))) ⟨h.push prepBound,g,d,t,os⟩) :
    wpAny M A (Builtin.«classmethod_descriptor.__get__» ⟨[.builtin "type.__prepare__", .none, .type "type"],[]⟩) P E ⟨h,g,d,t,os⟩:=by
  unfold Builtin.«classmethod_descriptor.__get__»
  refine wpAny_bind (wpAny_of_eq (a:=(.builtin "type.__prepare__",none,some (.type "type"))) (by first | rfl | kernel_rfl) ?_)
  simp only [owner_prep]
  refine wpAny_bind (wpAny_of_eq (a:=.type "type") rfl ?_)
  refine wpAny_bind (wpAny_of_eq type_tt ?_)
  refine wpAny_ite_false rfl ?_
  refine wpAny_bind (wpAny_of_eq tt_sub ?_)
  refine wpAny_ite_false rfl ?_
  exact wpAny_bind (wpAny_newObj_type (wpAny_pure H))
theorem stub_tt:opaqueClassAbove (.type "type") = pure none:=by unfold opaqueClassAbove; dsimp only; rw [show Manifest.isStub "type" = false by decide +kernel]; rfl
theorem tyof_tt:typeOf (.type "type") = pure (.type "type"):=by kernel_rfl
theorem run_prep {Q:Fin → Shared → Prop}(H:Q (.done (.ret (.ref h.objs.size))) ⟨h.push prepBound,g,d,t,os⟩):wpAny (model prog w) A (CFound.get (.builtin "classmethod_descriptor.__get__") (.builtin "type.__prepare__") .none (.type "type")).run Q E ⟨h,g,d,t,os⟩:=by
  show wpAny _ _ (do ret (← holding [Value.builtin "type.__prepare__"] (call (.builtin "classmethod_descriptor.__get__") [.builtin "type.__prepare__", .none, .type "type"]))) _ _ _
  refine wpAny_bind (wpAny_holding (wpAny_call_entry KFB.slot_get (show Shared.TypeIs ⟨h,g,d,t,os⟩ (.builtin "type.__prepare__") "classmethod_descriptor" from type_prep) KFB.entry_get (get_prep ⟨_,rfl, ?_⟩) (KFB.args_get _ _ _)))
  exact wpAny_pure H
theorem tga_prep {Q:Fin → Shared → Prop}(H:Q (.done (.ret (.ref h.objs.size))) ⟨h.push prepBound,g,d,t,os⟩):wpAny (model prog w) A (Builtin.«type.__getattribute__» ⟨[.type "type", .str "__prepare__" tk],[]⟩) Q E ⟨h,g,d,t,os⟩ :=
  tga_run (K:=[]) (c:=.type "type") (mc:=.type "type") (name := "__prepare__") (r:=.get (.builtin "classmethod_descriptor.__get__") (.builtin "type.__prepare__") .none (.type "type")) (fun a o e=>by cases e) (Looks.of_pure stub_tt) (Looks.of_pure tyof_tt) find_prep (run_prep H)
set_option maxHeartbeats 400000 in
theorem attr_prep {Q:Option Value → Shared → Prop}(H:Q (some (.ref h.objs.size)) ⟨h.push prepBound,g,d,t + 1,os⟩):wpAny (model prog w) A (getAttr? (.type "type") "__prepare__") Q E ⟨h,g,d,t,os⟩:=by
  have ht:=tyof_tt
  have hga:typeLookup (.type "type") "__getattribute__" = pure (some (.builtin "type.__getattribute__")):=KF.slot_tga.lookup
  have hhook:hookBefore (.type "type") = pure none:=by kernel_rfl
  have lt:Looks (model prog w) h (typeOf (.type "type")) (.type "type"):=Looks.of_pure ht
  unfold getAttr? getAttrBy?
  refine wpAny_bind (wpAny_mkText (wpAny_bind (wpAny_attempt ?_)))
  unfold getAttrBy
  refine wpAny_holding (wpAny_bind (wpAny_of_eq ht (wpAny_bind (wpAny_of_eq hga ?_))))
  dsimp only
  refine wpAny_ite_false (by kernel_rfl!) ?_
  unfold getAttrByItsOwn
  refine wpAny_bind (wpAny_of_eq hhook (wpAny_bind (wpAny_attempt (wpAny_holding ?_))))
  unfold callGetattribute
  refine wpAny_ite_false rfl ?_
  unfold boundAndCalled
  rw [KF.slot_tga.bind]
  refine wpAny_bind (wpAny_pure ?_)
  show wpAny _ _ (call (.builtin "type.__getattribute__") [.type "type", .str _ t]) _ _ _
  refine wpAny_call (codeAny_call_builtin KF.slot_tga.plain KF.entry_tga ?_)
  refine @check_slot (model prog w) _ _ ⟨h,g,d,t + 1,os⟩ "type.__getattribute__" "type" "__getattribute__" (.type "type") [.str _ t] [] _ (by decide +kernel) (by decide +kernel) (lt.andThen (Looks.of_pure tt_sub)) (KF.args_tga (.type "type") (.str _ t)) ?_
  refine tga_prep ?_
  exact wpAny_pure (wpAny_pure H)
theorem entry_prep:entryFor table "type.__prepare__" = some Builtin.«type.__prepare__»:=entryFor_of_tree (by kernel_rfl)
theorem quiet_prep {as:Args} : (Code.builtin "type.__prepare__" as).quiet = true:=Code.quiet_builtin _ (by decide +kernel)
theorem check_prep {v1 v2:Value} : checkBoundCall "type.__prepare__" ⟨[.type "type",v1,v2],[]⟩ = pure ():=by first | kernel_rfl | rfl
theorem call_prep {x:Addr}{v1 v2:Value}{Q:Value → Shared → Prop}(hx:h.get? x = some prepBound) (H:Q (.ref h.objs.size) ⟨h.push (dictObj [] 0),g,d,t,os⟩):wpAny (model prog w) A (call (.ref x) [v1,v2]) Q E ⟨h,g,d,t,os⟩:=by
  refine wpAny_call (codeAny_of_tree ?_)
  show wpAny _ A.in1 (load x >>= _) _ _ _
  refine wpAny_bind (wpAny_load hx ?_)
  refine wpAny_ite_true rfl ?_
  refine wpAny_ite_true rfl ?_
  refine wpAny_bind (wpAny_of_eq check_prep (wpAny_bind (wpAny_pure (wpAny_pure ⟨quiet_prep,codeAny_builtin entry_prep ?_⟩))))
  unfold Builtin.«type.__prepare__»
  exact wpAny_bind (wpAny_newObj_type (wpAny_pure H))
end
end
section
section
variable {M:Model}{A:Around}{E:Value → Shared → Prop}{s:Shared}
theorem classCodeX {env:Env}{c P:Addr}{pos:Pos}{l:Nat}{n q:Str}{sc:Scope}{Q:Value → Shared → Prop}(hc:env.code = .ref c) (C:CodeHd s.heap c P) (hP:s.heap.get? P = some (tabObj #[]))
    (hQ:∀ c' P' h' tk,(∀ b o,b ≠ P → s.heap.get? b = some o → h'.get? b = some o) → s.heap.objs.size ≤ c' → s.heap.objs.size ≤ P' → (∃ ps,h'.get? P = some (tabObj ps)) → CodeHd h' c' P' → h'.get? P' = some (tabObj #[]) → Q (.ref c') { s with heap:=h',toks:=tk }) :
    wpAny M A (classCode env pos l n q sc) Q E s:=by
  obtain ⟨o,vs,file,tf,flags,tg,inF,text,tt,ho,_,hd,_,h11,h2,h7,h9,h10,hne⟩:=id C
  unfold classCode codeAt
  rw [hc,if_neg (show ¬ ((Value.ref c == Value.none) = true) from Bool.false_ne_true)]
  refine wpAny_bind (wpAny_fieldsOf ho hd ?_)
  rw [h11]
  refine wpAny_bind (wpAny_fieldsOf hP rfl ?_)
  rw [h2,h7,h9,h10]
  refine wpAny_bind (wpAny_newCodeX fun c' P' h' tk hk hc' hP' hcode' htab' hrec'=>?_)
  have hop':=hk _ _ hP
  refine wpAny_bind (wpAny_updateFieldsOfTheText hop' rfl ?_)
  have hget:=Heap.get?_update_self (h:=h') (fun o=>Obj.mapFields (fun vs=>if (codeAmong pos vs.toList).isSome = true then vs else vs ++ #[rawInt pos.line,rawInt pos.col, .ref c']) o) hop' rfl
  have hcP:c' ≠ P:=Nat.ne_of_gt (Nat.lt_of_lt_of_le (Heap.lt_size hP) hc')
  have hPP:P' ≠ P:=Nat.ne_of_gt (Nat.lt_of_lt_of_le (Heap.lt_size hP) hP')
  refine wpAny_bind (wpAny_fieldsOf hget rfl ?_)
  have e:codeAmong pos ((#[]:Array Value) ++ #[rawInt pos.line,rawInt pos.col,Value.ref c']).toList = some (.ref c'):=codeAmong_snoc (pos:=pos) (c:=.ref c') (l:=[]) trivial rfl
  refine (show wpAny _ _ (match codeAmong pos ((#[]:Array Value) ++ #[rawInt pos.line,rawInt pos.col,Value.ref c']).toList with | some c=>pure c | none=>unsupported "internal:code-record") _ _ _ from ?_)
  rw [e]
  have C':=kck (CodeHd.of hcode' htab') (h':=h'.update P (fun o=>Obj.mapFields (fun vs=>if (codeAmong pos vs.toList).isSome = true then vs else vs ++ #[rawInt pos.line,rawInt pos.col, .ref c']) o)) (fun b o hb e=>(Heap.SameBut.update ..).extBut b o hb e) hcP
  exact wpAny_pure (hQ c' P' _ _ (fun b o hb e=>(Heap.SameBut.update ..).extBut b o hb (hk b o e)) hc' hP' ⟨_,hget⟩ C' ((Heap.SameBut.update ..).extBut _ _ hPP htab'.2))
end
section
variable {w:World}{M:Model}{A:Around}{E:Value → Shared → Prop}{h h0:Heap}{g:Array GenState}{d:Drawn}{t:Nat}{os:OsState}
noncomputable abbrev Up (h0 h:Heap):Prop:=∀ b o,h0.get? b = some o → h.get? b = some o
theorem Up.none (k:Up h0 h) {a:Addr}(n:h.get? a = none):h0.get? a = none:=by
  cases q:h0.get? a with
  | none=>rfl
  | some o=>rw [k _ _ q] at n; cases n
theorem wx_alloc {o:Obj}{Q:Addr → Shared → Prop}(k:Up h0 h) (hf:o.isFreed = false) (H:∀ a h',Up h h' → Up h0 h' → h.get? a = none → h0.get? a = none → h'.get? a = some o → Q a ⟨h',g,d,t,os⟩):wpAny M A (alloc o) Q E ⟨h,g,d,t,os⟩ :=
  have u:Up h (h.push o):=fun b o' e=>Heap.get?_push_of_some _ e
  have n:h.get? h.objs.size = none:=Heap.get?_none_of_le (Nat.le_refl _)
  wpAny_alloc (H _ _ u (fun b o' e=>u b o' (k b o' e)) n (k.none n) (Heap.get?_push_size _ hf))
theorem wx_nsGet {a:Addr}{o:Obj}{name:Str}{r:Option Value}{Q:Option Value → Shared → Prop}(e:h.get? a = some o) (hr:nsLook name o = pure r) (H:Q r ⟨h,g,d,t,os⟩):wpAny M A (nsGet a name) Q E ⟨h,g,d,t,os⟩:=wpAny_bind (wpAny_loadPart e (wpAny_of_eq hr H))
theorem wx_new {T:String}{data:Data}{Q:Value → Shared → Prop}(k:Up h0 h) (hf:({ cls:=.type T,data } : Obj).isFreed = false) (H:∀ a h',Up h h' → Up h0 h' → h.get? a = none → h0.get? a = none → h'.get? a = some { cls:=.type T,data } → Q (.ref a) ⟨h',g,d,t,os⟩) (hd:sizeOk data:=by size_fits) :
    wpAny M A (newObj (.type T) data) Q E ⟨h,g,d,t,os⟩ :=
  have u:Up h (h.push { cls:=.type T,data }):=fun b o' e=>Heap.get?_push_of_some _ e
  have n:h.get? h.objs.size = none:=Heap.get?_none_of_le (Nat.le_refl _)
  wpAny_newObj_type (H _ _ u (fun b o' e=>u b o' (k b o' e)) n (k.none n) (Heap.get?_push_size _ hf)) hd
theorem kkb {vs:List Value}{Q:Value → Shared → Prop}(k:Up h0 h) (H:∀ a h',Up h h' → Up h0 h' → h.get? a = none → h0.get? a = none → h'.get? a = some { cls:=.type "tuple",data:=.seq vs.toArray } → Q (.ref a) ⟨h',g,d,t,os⟩) (hd:sizeOk (.seq vs.toArray):=by size_fits) :
    wpAny M A (newTuple vs) Q E ⟨h,g,d,t,os⟩:=wx_new k rfl H hd
theorem kfq {vs:List Value}{Q:Value → Shared → Prop}(k:Up h0 h) (H:∀ a h',Up h h' → Up h0 h' → h.get? a = none → h0.get? a = none → h'.get? a = some { cls:=.type "tuple",data:=.seq vs.toArray } → Q (.ref a) ⟨h',g,d,t,os⟩) :
    wpAny M A (newTextTuple vs) Q E ⟨h,g,d,t,os⟩ :=
  have u:Up h (h.push { cls:=.type "tuple",data:=.seq vs.toArray }):=fun b o' e=>Heap.get?_push_of_some _ e
  have n:h.get? h.objs.size = none:=Heap.get?_none_of_le (Nat.le_refl _)
  wpAny_newTextTuple (H _ _ u (fun b o' e=>u b o' (k b o' e)) n (k.none n) (Heap.get?_push_size _ rfl))
theorem wx_prep {Q:Option Value → Shared → Prop}(k:Up h0 h) (H:∀ x h' t',Up h h' → Up h0 h' → h'.get? x = some prepBound → Q (some (.ref x)) ⟨h',g,d,t',os⟩):wpAny (model prog w) A (getAttr? (.type "type") "__prepare__") Q E ⟨h,g,d,t,os⟩ :=
  have u:Up h (h.push prepBound):=fun b o' e=>Heap.get?_push_of_some _ e
  attr_prep (H _ _ _ u (fun b o' e=>u b o' (k b o' e)) (Heap.get?_push_size _ rfl))
theorem kkc {x:Addr}{v1 v2:Value}{kw:List (Str × Value)}{Q:Value → Shared → Prop}(k:Up h0 h) (hx:h.get? x = some prepBound) (hkw:kw = []) (H:∀ a h',Up h h' → Up h0 h' → h.get? a = none → h0.get? a = none → h'.get? a = some (dictObj [] 0) → Q (.ref a) ⟨h',g,d,t,os⟩):wpAny (model prog w) A (call (.ref x) [v1,v2] kw) Q E ⟨h,g,d,t,os⟩:=by
  subst hkw
  have u:Up h (h.push (dictObj [] 0)):=fun b o' e=>Heap.get?_push_of_some _ e
  have n:h.get? h.objs.size = none:=Heap.get?_none_of_le (Nat.le_refl _)
  exact call_prep hx (H _ _ u (fun b o' e=>u b o' (k b o' e)) n (k.none n) (Heap.get?_push_size _ rfl))
end
inductive StB:{α:Type} → Sem α → Prop
  | e1 {env:Env}{pos:Pos}{l:Nat}{n q:Str}{sc:Scope} : StB (classCode env pos l n q sc)
  | e2 {a b:Addr} : StB (builtinsFor a b)
  | e3 {sc:Scope}{env:Env} : StB (closureFor sc env)
  | e4 {n:Nat} : StB (enterFrame n)
  | e5 {env:Env}{x:Str}{v:Value} : StB (storeName env x v)
  | e6 {env:Env}{x:Str} : StB (loadName env x)
  | e7 {c:Code}{o:Option Value} : StB (run c o)
  | e8 {v:Value}{n:Str} : StB (getAttr? v n)
  | e9 {v:Value}{dt:Data}{o:Option Addr} : StB (newObj v dt o)
  | f1 {v:Value}{dt:Data}{o:Option Addr} : StB (newObjAsIs v dt o)
  | f2 {v:Value}{n:Str} : StB (specialOf v n)
  | f3 {α:Type}{m:Sem α}{k:Value → Sem Unit} : StB (m.onRaise k)
  | f4 {n q:Str}{g:List Value}{kw:List (Str × Value)}{b:List Stmt}{sc:Scope}{st:List Str}{fl:Nat}{env:Env}{p:Pos}{tp:Option Value} : StB (buildClass n q g kw b sc st fl env p tp)
  | c1 {a:Addr}{n:Str} : StB (nsGet a n)
  | c2 {a:Addr}{n:Str}{v:Value} : StB (nsSet a n v)
  | c8 {a:Addr}{p:Option Value} : StB (dictEntries a p)
  | c9 {o:Obj} : StB (alloc o)
  | d1 {α β:Type}{l:List α}{f:α → β → Sem (ForInStep β)}{b:β} : StB (forIn l b f)
  | d3 {α β:Type}{l:Array α}{f:α → β → Sem (ForInStep β)}{b:β} : StB (forIn l b f)
  | d4 {f:Value}{vs:List Value}{kw:List (Str × Value)} : StB (call f vs kw)
  | d5 {v:Value}{n:Str}{pl:Bool} : StB (getAttr v n pl)
theorem sb {M:Model}{A:Around}{E:Value → Shared → Prop}{α:Type}{m:Sem α}{Q:α → Shared → Prop}{s:Shared}(_:StB m) (h:wpAny M A m Q E s):wpAny M A m Q E s:=h
end
noncomputable def clsStat (w:World):List Str:=match kBody w with
  | .ClassDef _ _ _ _ _ _ _ _ _ st _ :: _=>st
  | _=>[]
inductive KM (w:World) (h:Heap) (as:List Addr) (f:Addr) (k:Nat) (name q:Str) (clos:List (Str × Addr)):Prop
  | mk (c':Addr) (oc:Obj) (ctv doc pm:Value) (m1:f ∈ as) (m2:c' ∈ as) (e1:h.get? f = some (fnMade name q (meth w k).1 (meth w k).2.1 (meth w k).2.2 clos doc pm c' ctv)) (e2:h.get? c' = some oc) (r:CodeO oc q):KM w h as f k name q clos
theorem KM.keep {w:World}{h h':Heap}{as:List Addr}{f:Addr}{k:Nat}{name q:Str}{clos:List (Str × Addr)}(x:KM w h as f k name q clos) (kp:∀ a ∈ as, ∀ o,h.get? a = some o → h'.get? a = some o):KM w h' as f k name q clos :=
  let ⟨c',oc,ctv,doc,pm,m1,m2,e1,e2,r⟩:=x; ⟨c',oc,ctv,doc,pm,m1,m2,kp _ m1 _ e1,kp _ m2 _ e2,r⟩
inductive KTell (w:World) (cc kc:Addr) (as:List Addr) (h:Heap):Prop
  | mk (N md fi f1 f2 f3 f4 f5 sl st:Addr) (v1 v2 v3:Value) (t:Tok) (H:Nat → Int) (T:Nat → Tok) (vm vf:Value) (h1 h2:Int) (t1 t2:Tok) (m1:kc ∈ as) (m2:N ∈ as) (m3:md ∈ as) (e1:h.get? kc = some (kObj kc N v1 v2 v3)) (e2:h.get? N = some (dictObj (kEs H T vm vf sl fi f1 f2 f3 f4 f5 st ++ [ent h1 "obj" t1 (.ref md),ent h2 "__doc__" t2 .none]) 3)) (e3:h.get? md = some (mdObj kc t))
    (q0:KM w h as fi 0 "__init__" "cmp_to_key.<locals>.K.__init__" []) (q1:KM w h as f1 1 "__lt__" "cmp_to_key.<locals>.K.__lt__" [("mycmp",cc)]) (q2:KM w h as f2 2 "__gt__" "cmp_to_key.<locals>.K.__gt__" [("mycmp",cc)])
    (q3:KM w h as f3 3 "__eq__" "cmp_to_key.<locals>.K.__eq__" [("mycmp",cc)]) (q4:KM w h as f4 4 "__le__" "cmp_to_key.<locals>.K.__le__" [("mycmp",cc)]) (q5:KM w h as f5 5 "__ge__" "cmp_to_key.<locals>.K.__ge__" [("mycmp",cc)]):KTell w cc kc as h
theorem KTell.keep {w:World}{cc kc:Addr}{as:List Addr}{h h':Heap}(x:KTell w cc kc as h) (kp:∀ a ∈ as, ∀ o,h.get? a = some o → h'.get? a = some o):KTell w cc kc as h' :=
  let ⟨N,md,fi,f1,f2,f3,f4,f5,sl,st,v1,v2,v3,t,H,T,vm,vf,h1,h2,t1,t2,m1,m2,m3,e1,e2,e3,q0,q1,q2,q3,q4,q5⟩:=x
  ⟨N,md,fi,f1,f2,f3,f4,f5,sl,st,v1,v2,v3,t,H,T,vm,vf,h1,h2,t1,t2,m1,m2,m3,kp _ m1 _ e1,kp _ m2 _ e2,kp _ m3 _ e3,q0.keep kp,q1.keep kp,q2.keep kp,q3.keep kp,q4.keep kp,q5.keep kp⟩
theorem dict_cls {h:Heap}{ns st sl fi f1 f2 f3 f4 f5:Addr}{H:Nat → Int}{T:Nat → Tok}{vm vf:Value}{hst:Int}{ts:Tok}{ep:Nat}(e:h.get? ns = some (dictObj (bodyEs H T vm vf sl fi f1 f2 f3 f4 f5 ++ [ent hst "__static_attributes__" ts (.ref st)]) ep)) :
    ∃ H' T',h.get? ns = some { cls:=.type "dict",data:=.dict (clsEs H' T' vm vf sl fi f1 f2 f3 f4 f5 st) ep } :=
  ⟨fun i=>if i = 11 then hst else H i,fun i=>if i = 11 then ts else T i,e.trans (by kernel_rfl)⟩
set_option maxHeartbeats 4000000 in
theorem build_k {w:World}{A:Around}{E:Value → Shared → Prop}{Q:Value → Shared → Prop}{h:Heap}{g:Array GenState}{d:Drawn}{t:Nat}{os:OsState}{env:Env}{cc:Addr}{pos:Pos}{nf:Nat}{mg:Str → Option Value}{o2:Obj}{vn:Value}
  (hge:env.globals = mainGlobals) (hcode:env.code = .ref 27) (hcl:closureFor (clsScope w) env = pure [(("mycmp" : Str),cc)]) (C27:CodeHd h 27 23) (h23:h.get? 23 = some (tabObj #[]))
  (hg:h.Ns mainGlobals mg) (hnm:mg "__name__" = some vn) (hbm:∀ P,P ≠ 4 → h.BuiltinsAt mg P) (hlim:h.NoLimit) (hs2:h.get? 2 = some o2) (hn2:nsLook "thirdparty.any" o2 = pure none)
  (hsm:∃ o,h.get? sysModules = some o) (rm:Room A 3)
  (hQ:∀ kc as h' tk,(∀ b o,b ≠ 23 → h.get? b = some o → h'.get? b = some o) → (∃ ps,h'.get? 23 = some (tabObj ps)) → (∀ a ∈ as,h.get? a = none) → KTell w cc kc as h' → Q (.ref kc) ⟨h',g,d,tk,os⟩) :
  wpAny (model prog w) A (buildClass "K" "cmp_to_key.<locals>.K" [.type "object"] [] (clsBody w) (clsScope w) (clsStat w) nf env pos none) Q E ⟨h,g,d,t,os⟩:=by
  obtain ⟨bm,ob,b1,b2,b3,b4,b5,b6,b7,b8⟩:=hbm 23 (by decide)
  have t1:isType (.type "object") = pure true:=by kernel_rfl
  have t2:typeOf (.type "object") = pure (.type "type"):=by kernel_rfl
  have t3:=type_tt
  have t4:=tt_sub
  unfold buildClass
  have k0:Up h h:=fun _ _ e=>e
  refine wb (kkb k0 fun bt h1 u1 k1 nbt nbt0 ebt=>?_)
  repeat (first | with_reducible (first | refine z0 (by assumption) ?_ | refine z1 ?_ | refine wb ?_ | refine bq_i ?_ | refine z2 ?_ | refine z3 ?_ | refine z4 ?_ | refine z5 ?_ | refine ka6 ?_ | refine ka9 ?_ | refine ka2 ?_) | refine z6 rfl ?_ | refine z7 rfl ?_ | refine z6 (by kernel_rfl!) ?_ | refine z7 (by kernel_rfl!) ?_ | (fail_if_success with_reducible refine sb (by first | constructor | (constructor; constructor))  ?_); wp_delta)
  refine for_as [.type "object"] rfl ?_
  repeat (first | with_reducible (first | refine z0 (by assumption) ?_ | refine z1 ?_ | refine wb ?_ | refine bq_i ?_ | refine z2 ?_ | refine z3 ?_ | refine z4 ?_ | refine z5 ?_ | refine ka6 ?_ | refine ka9 ?_ | refine ka2 ?_) | refine z6 rfl ?_ | refine z7 rfl ?_ | refine z6 (by kernel_rfl!) ?_ | refine z7 (by kernel_rfl!) ?_ | (fail_if_success with_reducible refine sb (by first | constructor | (constructor; constructor))  ?_); wp_delta)
  refine wx_prep k1 fun x h2 t2 u2 k2 ex=>?_
  repeat (first | with_reducible (first | refine z0 (by assumption) ?_ | refine z1 ?_ | refine wb ?_ | refine bq_i ?_ | refine z2 ?_ | refine z3 ?_ | refine z4 ?_ | refine z5 ?_ | refine ka6 ?_ | refine ka9 ?_ | refine ka2 ?_) | refine z6 rfl ?_ | refine z7 rfl ?_ | refine z6 (by kernel_rfl!) ?_ | refine z7 (by kernel_rfl!) ?_ | (fail_if_success with_reducible refine sb (by first | constructor | (constructor; constructor))  ?_); wp_delta)
  refine kkc k2 ex rfl fun ns h3 u3 k3 nns nns0 ens=>?_
  repeat (first | with_reducible (first | refine z0 (by assumption) ?_ | refine z1 ?_ | refine wb ?_ | refine bq_i ?_ | refine z2 ?_ | refine z3 ?_ | refine z4 ?_ | refine z5 ?_ | refine ka6 ?_ | refine ka9 ?_ | refine ka2 ?_) | refine z6 rfl ?_ | refine z7 rfl ?_ | refine z6 (by kernel_rfl!) ?_ | refine z7 (by kernel_rfl!) ?_ | (fail_if_success with_reducible refine sb (by first | constructor | (constructor; constructor))  ?_); wp_delta)
  have hns:(ns == sysModules) = false:=beq_eq_false_iff_ne.mpr fun q=>by obtain ⟨om,em⟩:=hsm; rw [q] at nns0; rw [em] at nns0; cases nns0
  refine wpAny_ite_false (by rw [hns]; rfl) ?_
  repeat (first | with_reducible (first | refine z0 (by assumption) ?_ | refine z1 ?_ | refine wb ?_ | refine bq_i ?_ | refine z2 ?_ | refine z3 ?_ | refine z4 ?_ | refine z5 ?_ | refine ka6 ?_ | refine ka9 ?_ | refine ka2 ?_) | refine z6 rfl ?_ | refine z7 rfl ?_ | refine z6 (by kernel_rfl!) ?_ | refine z7 (by kernel_rfl!) ?_ | (fail_if_success with_reducible refine sb (by first | constructor | (constructor; constructor))  ?_); wp_delta)
  refine wpAny_specialOf ⟨_,ens,rfl⟩ F.slot_dict_getitem.lookup ?_
  repeat (first | with_reducible (first | refine z0 (by assumption) ?_ | refine z1 ?_ | refine wb ?_ | refine bq_i ?_ | refine z2 ?_ | refine z3 ?_ | refine z4 ?_ | refine z5 ?_ | refine ka6 ?_ | refine ka9 ?_ | refine ka2 ?_) | refine z6 rfl ?_ | refine z7 rfl ?_ | refine z6 (by kernel_rfl!) ?_ | refine z7 (by kernel_rfl!) ?_ | (fail_if_success with_reducible refine sb (by first | constructor | (constructor; constructor))  ?_); wp_delta)
  refine classCodeX hcode (C27.keeps k3) (k3 _ _ h23) fun c P h4 t4 kx hcge hPge h23' Chd hPtab=>?_
  repeat (first | with_reducible (first | refine z0 (by assumption) ?_ | refine z1 ?_ | refine wb ?_ | refine bq_i ?_ | refine z2 ?_ | refine z3 ?_ | refine z4 ?_ | refine z5 ?_ | refine ka6 ?_ | refine ka9 ?_ | refine ka2 ?_) | refine z6 rfl ?_ | refine z7 rfl ?_ | refine z6 (by kernel_rfl!) ?_ | refine z7 (by kernel_rfl!) ?_ | (fail_if_success with_reducible refine sb (by first | constructor | (constructor; constructor))  ?_); wp_delta)
  have hideN:∀ {a:Addr},h.get? a = none → (h.hide 23).get? a = none:=fun {a} n=>by cases q:(h.hide 23).get? a with | none=>rfl | some o=>rw [Heap.of_hide q] at n; cases n
  have ns23:ns ≠ 23:=fun q=>by rw [q,h23] at nns0; cases nns0
  have u4:Up (h.hide 23) h4:=fun b o e=>kx b o (fun q=>by rw [q,Heap.hide_self] at e; cases e) (k3 b o (Heap.of_hide e))
  have hgb:(h.hide 23).Ns mainGlobals mg:=ns_at hg fun o e=>(Heap.hide_ne h (by decide)).trans e
  have b5':(h.hide 23).get? bm = some ob:=(Heap.hide_ne h b4).trans b5
  rw [hge]
  refine wpAny_builtinsFor (hgb.keeps u4) b1 b2 (u4 _ _ b5') b6 b7 b8 ?_
  repeat (first | with_reducible (first | refine z0 (by assumption) ?_ | refine z1 ?_ | refine wb ?_ | refine bq_i ?_ | refine z2 ?_ | refine z3 ?_ | refine z4 ?_ | refine z5 ?_ | refine ka6 ?_ | refine ka9 ?_ | refine ka2 ?_) | refine z6 rfl ?_ | refine z7 rfl ?_ | refine z6 (by kernel_rfl!) ?_ | refine z7 (by kernel_rfl!) ?_ | (fail_if_success with_reducible refine sb (by first | constructor | (constructor; constructor))  ?_); wp_delta)
  refine wpAny_nsGet (hgb.keeps u4) ?_
  rw [hnm]
  repeat (first | with_reducible (first | refine z0 (by assumption) ?_ | refine z1 ?_ | refine wb ?_ | refine bq_i ?_ | refine z2 ?_ | refine z3 ?_ | refine z4 ?_ | refine z5 ?_ | refine ka6 ?_ | refine ka9 ?_ | refine ka2 ?_) | refine z6 rfl ?_ | refine z7 rfl ?_ | refine z6 (by kernel_rfl!) ?_ | refine z7 (by kernel_rfl!) ?_ | (fail_if_success with_reducible refine sb (by first | constructor | (constructor; constructor))  ?_); wp_delta)
  refine wx_alloc u4 rfl fun fr h5 u5 k5 nfr nfr0 efr=>?_
  have nP:h.get? P = none:=k3.none (Heap.get?_none_of_le hPge)
  have uh:Up ((h5.hide ns).hide P) h5:=fun b o e=>Heap.of_hide (Heap.of_hide e)
  have uhb:∀ b o,b ≠ 23 → h.get? b = some o → ((h5.hide ns).hide P).get? b = some o:=fun b o hb e=>(Heap.hide_ne _ fun q=>by rw [q,nP] at e; cases e).trans ((Heap.hide_ne _ fun q=>by rw [q,nns0] at e; cases e).trans (k5 _ _ ((Heap.hide_ne h hb).trans e)))
  have C:CB ((h5.hide ns).hide P) ns c P #[] [] [] 0 h5:=⟨uh,(by cases q:((h5.hide ns).hide P).get? ns with | none=>rfl | some o=>have:=Heap.of_hide q; rw [Heap.hide_self] at this; cases this),Heap.hide_self _ _,(fun p hp=>by cases hp),u5 _ _ (kx _ _ ns23 ens),Chd.keeps u5,u5 _ _ hPtab,trivial⟩
  have hgb5:((h5.hide ns).hide P).Ns mainGlobals mg:=ns_at hg fun o e=>uhb _ o (by decide) e
  repeat (first | with_reducible (first | refine z0 (by assumption) ?_ | refine z1 ?_ | refine wb ?_ | refine bq_i ?_ | refine z2 ?_ | refine z3 ?_ | refine z4 ?_ | refine z5 ?_ | refine ka6 ?_ | refine ka9 ?_ | refine ka2 ?_) | refine z6 rfl ?_ | refine z7 rfl ?_ | refine z6 (by kernel_rfl!) ?_ | refine z7 (by kernel_rfl!) ?_ | (fail_if_success with_reducible refine sb (by first | constructor | (constructor; constructor))  ?_); wp_delta)
  refine wpAny_enterFrame (let ⟨mc,hm,e⟩:=hlim; ⟨mc,ns_at hm fun o q=>k5 _ _ ((Heap.hide_ne h (by decide)).trans q),e⟩) rm.lt ?_
  repeat (first | with_reducible (first | refine z0 (by assumption) ?_ | refine z1 ?_ | refine wb ?_ | refine bq_i ?_ | refine z2 ?_ | refine z3 ?_ | refine z4 ?_ | refine z5 ?_ | refine ka6 ?_ | refine ka9 ?_ | refine ka2 ?_) | refine z6 rfl ?_ | refine z7 rfl ?_ | refine z6 (by kernel_rfl!) ?_ | refine z7 (by kernel_rfl!) ?_ | (fail_if_success with_reducible refine sb (by first | constructor | (constructor; constructor))  ?_); wp_delta)
  rw [show (("cmp_to_key.<locals>.K" : Str) ++ ("." : Str)) = ("cmp_to_key.<locals>.K." : Str) from by kernel_rfl!]
  refine wpAny_onRaise ?_
  refine wb ?_
  unfold loadName
  repeat (first | with_reducible (first | refine z0 (by assumption) ?_ | refine z1 ?_ | refine wb ?_ | refine bq_i ?_ | refine z2 ?_ | refine z3 ?_ | refine z4 ?_ | refine z5 ?_ | refine ka6 ?_ | refine ka9 ?_ | refine ka2 ?_) | refine z6 rfl ?_ | refine z7 rfl ?_ | refine z6 (by kernel_rfl!) ?_ | refine z7 (by kernel_rfl!) ?_ | (fail_if_success with_reducible refine sb (by first | constructor | (constructor; constructor))  ?_); wp_delta)
  refine wpAny_load C.dict ?_
  repeat (first | with_reducible (first | refine z0 (by assumption) ?_ | refine z1 ?_ | refine wb ?_ | refine bq_i ?_ | refine z2 ?_ | refine z3 ?_ | refine z4 ?_ | refine z5 ?_ | refine ka6 ?_ | refine ka9 ?_ | refine ka2 ?_) | refine z6 rfl ?_ | refine z7 rfl ?_ | refine z6 (by kernel_rfl!) ?_ | refine z7 (by kernel_rfl!) ?_ | (fail_if_success with_reducible refine sb (by first | constructor | (constructor; constructor))  ?_); wp_delta)
  refine wx_nsGet C.dict (r:=none) (by kernel_rfl!) ?_
  repeat (first | with_reducible (first | refine z0 (by assumption) ?_ | refine z1 ?_ | refine wb ?_ | refine bq_i ?_ | refine z2 ?_ | refine z3 ?_ | refine z4 ?_ | refine z5 ?_ | refine ka6 ?_ | refine ka9 ?_ | refine ka2 ?_) | refine z6 rfl ?_ | refine z7 rfl ?_ | refine z6 (by kernel_rfl!) ?_ | refine z7 (by kernel_rfl!) ?_ | (fail_if_success with_reducible refine sb (by first | constructor | (constructor; constructor))  ?_); wp_delta)
  refine wpAny_nsGet (hgb.keeps k5) ?_
  rw [hnm]
  repeat (first | with_reducible (first | refine z0 (by assumption) ?_ | refine z1 ?_ | refine wb ?_ | refine bq_i ?_ | refine z2 ?_ | refine z3 ?_ | refine z4 ?_ | refine z5 ?_ | refine ka6 ?_ | refine ka9 ?_ | refine ka2 ?_) | refine z6 rfl ?_ | refine z7 rfl ?_ | refine z6 (by kernel_rfl!) ?_ | refine z7 (by kernel_rfl!) ?_ | (fail_if_success with_reducible refine sb (by first | constructor | (constructor; constructor))  ?_); wp_delta)
  refine khg C rfl (by kernel_rfl!) (by kernel_rfl!) (fun hm h6 C=>?_) (by kernel_rfl!)
  repeat (first | with_reducible (first | refine z0 (by assumption) ?_ | refine z1 ?_ | refine wb ?_ | refine bq_i ?_ | refine z2 ?_ | refine z3 ?_ | refine z4 ?_ | refine z5 ?_ | refine ka6 ?_ | refine ka9 ?_ | refine ka2 ?_) | refine z6 rfl ?_ | refine z7 rfl ?_ | refine z6 (by kernel_rfl!) ?_ | refine z7 (by kernel_rfl!) ?_ | (fail_if_success with_reducible refine sb (by first | constructor | (constructor; constructor))  ?_); wp_delta)
  refine khg C rfl (by kernel_rfl!) (by kernel_rfl!) (fun hq h7 C=>?_) (by kernel_rfl!)
  repeat (first | with_reducible (first | refine z0 (by assumption) ?_ | refine z1 ?_ | refine wb ?_ | refine bq_i ?_ | refine z2 ?_ | refine z3 ?_ | refine z4 ?_ | refine z5 ?_ | refine ka6 ?_ | refine ka9 ?_ | refine ka2 ?_) | refine z6 rfl ?_ | refine z7 rfl ?_ | refine z6 (by kernel_rfl!) ?_ | refine z7 (by kernel_rfl!) ?_ | (fail_if_success with_reducible refine sb (by first | constructor | (constructor; constructor))  ?_); wp_delta)
  refine khg C rfl (by kernel_rfl!) (by kernel_rfl!) (fun hl h8 C=>?_) (by kernel_rfl!)
  repeat (first | with_reducible (first | refine z0 (by assumption) ?_ | refine z1 ?_ | refine wb ?_ | refine bq_i ?_ | refine z2 ?_ | refine z3 ?_ | refine z4 ?_ | refine z5 ?_ | refine ka6 ?_ | refine ka9 ?_ | refine ka2 ?_) | refine z6 rfl ?_ | refine z7 rfl ?_ | refine z6 (by kernel_rfl!) ?_ | refine z7 (by kernel_rfl!) ?_ | (fail_if_success with_reducible refine sb (by first | constructor | (constructor; constructor))  ?_); wp_delta)
  have hbmP:((h5.hide ns).hide P).BuiltinsAt mg P:=⟨bm,ob,b1,b2,b3,(fun q=>by rw [q,nP] at b5; cases b5),uhb _ _ b4 b5,b6,b7,b8⟩
  have hgP:mainGlobals ≠ P:=fun q=>by obtain ⟨o,es,ep,e,_⟩:=hg; rw [q,nP] at e; cases e
  refine wpAny_run (codeAny_of_tree ?_)
  refine wb (m:=blockStart (clsBody w) _) (wpAny_of_eq (a:=()) (by kernel_rfl!) ?_)
  refine wb (wpAny_onRaise (cls_body C hgb5 hbmP hgP fun h9 ps fs tk9 sl so fi f1 f2 f3 f4 f5 H T tm msl q0 q1 q2 q3 q4 q5 C=>?_))
  repeat (first | with_reducible (first | refine z0 (by assumption) ?_ | refine z1 ?_ | refine wb ?_ | refine bq_i ?_ | refine z2 ?_ | refine z3 ?_ | refine z4 ?_ | refine z5 ?_ | refine ka6 ?_ | refine ka9 ?_ | refine ka2 ?_) | refine z6 rfl ?_ | refine z7 rfl ?_ | refine z6 (by kernel_rfl!) ?_ | refine z7 (by kernel_rfl!) ?_ | (fail_if_success with_reducible refine sb (by first | constructor | (constructor; constructor))  ?_); wp_delta)
  refine wpAny_onRaise (wb (wpAny_mkStrs fun vs=>bq_i (wb (kfq C.keep fun st h10 u10 k10 nst nst0 est=>?_))))
  have C:=(C.grow u10).add est (fun q=>by rw [q,C.dict] at nst; cases nst) (fun q=>by rw [q,C.tab] at nst; cases nst) nst0
  refine wb (khg C rfl (by kernel_rfl!) (by kernel_rfl!) (fun hst h11 C=>?_) (by kernel_rfl!))
  repeat (first | with_reducible (first | refine z0 (by assumption) ?_ | refine z1 ?_ | refine wb ?_ | refine bq_i ?_ | refine z2 ?_ | refine z3 ?_ | refine z4 ?_ | refine z5 ?_ | refine ka6 ?_ | refine ka9 ?_ | refine ka2 ?_) | refine z6 rfl ?_ | refine z7 rfl ?_ | refine z6 (by kernel_rfl!) ?_ | refine z7 (by kernel_rfl!) ?_ | (fail_if_success with_reducible refine sb (by first | constructor | (constructor; constructor))  ?_); wp_delta)
  obtain ⟨H',T',e12⟩:=dict_cls C.dict
  have fnof:∀ {f k n q cl},KMeth w fs f k n q cl → ∃ o,h11.get? f = some o ∧ o.cls = .type "function" := fun ⟨c',oc,ctv,doc,pm,m1,_,_⟩=>⟨_,(C.fs _ (.tail _ m1)).1,rfl⟩
  have bt3:=u3 _ _ (u2 _ _ ebt)
  have bt23:bt ≠ 23:=fun q=>by rw [q,h23] at nbt; cases nbt
  have hbt5:((h5.hide ns).hide P).get? bt = some { cls:=.type "tuple",data:=.seq #[.type "object"] }:=(Heap.hide_ne _ fun q=>by rw [q,Heap.get?_none_of_le hPge] at bt3; cases bt3).trans ((Heap.hide_ne _ fun q=>by have e:=u2 _ _ ebt; rw [q,nns] at e; cases e).trans (u5 _ _ (kx _ _ bt23 bt3)))
  refine call_type3 (tn (fun x hx=>?_) ⟨_,(C.fs _ (.head _)).1,rfl⟩ (C.keep _ _ hbt5) (C.fs _ (.tail _ msl)).1 hns e12 rm.in1.in1.lt rm.in1.in1.cl rm.handled (C.keep _ _ (uhb _ _ (by decide) hs2)) hn2 fun a md N ls hA hB t1 t2 t3 hh1 hh2 m D uB=>?_)
  · simp only [List.mem_cons,List.mem_nil_iff,or_false] at hx
    rcases hx with rfl | rfl | rfl | rfl | rfl | rfl
    · exact fnof q0
    · exact fnof q1
    · exact fnof q2
    · exact fnof q3
    · exact fnof q4
    · exact fnof q5
  refine ⟨a,_,rfl,uB _ _ (D.at 1 _ _ rfl),rfl, ?_⟩
  repeat (first | with_reducible (first | refine z0 (by assumption) ?_ | refine z1 ?_ | refine wb ?_ | refine bq_i ?_ | refine z2 ?_ | refine z3 ?_ | refine z4 ?_ | refine z5 ?_ | refine ka6 ?_ | refine ka9 ?_ | refine ka2 ?_) | refine z6 rfl ?_ | refine z7 rfl ?_ | refine z6 (by kernel_rfl!) ?_ | refine z7 (by kernel_rfl!) ?_ | (fail_if_success with_reducible refine sb (by first | constructor | (constructor; constructor))  ?_); wp_delta)
  have up11:∀ b o,h11.get? b = some o → hB.get? b = some o:=fun b o e=>uB b o (D.old b o e (by rw [show away [] b = true from rfl,Bool.or_true]))
  have km:∀ {f k n q cl},KMeth w fs f k n q cl → KM w hB (a :: N :: md :: fs.map (·.1)) f k n q cl:=fun ⟨c',oc,ctv,doc,pm,m1,m2,co⟩=>⟨c',oc,ctv,doc,pm, .tail _ (.tail _ (.tail _ (List.mem_map.mpr ⟨_,m1,rfl⟩))), .tail _ (.tail _ (.tail _ (List.mem_map.mpr ⟨_,m2,rfl⟩))),up11 _ _ (C.fs _ (.tail _ m1)).1,up11 _ _ (C.fs _ (.tail _ m2)).1,co⟩
  obtain ⟨ps4,e23⟩:=h23'
  have e235:((h5.hide ns).hide P).get? 23 = some (tabObj ps4):=(Heap.hide_ne _ fun q=>by rw [← q,h23] at nP; cases nP).trans ((Heap.hide_ne _ (Ne.symm ns23)).trans (u5 _ _ e23))
  have nb:∀ b,((h5.hide ns).hide P).get? b = none → h.get? b = none:=fun b n=>by
    cases q:h.get? b with
    | none=>rfl
    | some o =>
      by_cases z:b = 23
      · rw [z,e235] at n; cases n
      · rw [uhb b o z q] at n; cases n
  refine hQ a (a :: N :: md :: fs.map (·.1)) hB _ (fun b o hb e=>up11 _ _ (C.keep _ _ (uhb b o hb e))) ⟨ps4,up11 _ _ (C.keep _ _ e235)⟩ (fun x hx=>nb x ?_) ⟨N,md,fi,f1,f2,f3,f4,f5,sl,st,_,_,_,_,H',T',_,_,hh1,hh2,t1,t2, .head _, .tail _ (.head _), .tail _ (.tail _ (.head _)),uB _ _ (D.at 1 _ _ rfl),uB _ _ (D.at 2 _ _ rfl),uB _ _ (D.at 0 _ _ rfl),km q0,km q1,km q2,km q3,km q4,km q5⟩
  rcases List.mem_cons.mp hx with rfl | hx
  · exact C.fresh (D.nw _ (.tail _ (.head _))).2
  rcases List.mem_cons.mp hx with rfl | hx
  · exact C.fresh (D.nw _ (.tail _ (.tail _ (.head _)))).2
  rcases List.mem_cons.mp hx with rfl | hx
  · exact C.fresh (D.nw _ (.head _)).2
  obtain ⟨p,hp,rfl⟩:=List.mem_map.mp hx
  exact (C.fs p (.tail _ hp)).2.2.2
end Mine
end
section
open PySem PySem.W PyProof.Rows PySem.Calls PySem.Spec
set_option maxRecDepth 100000
namespace Mine
section
section
variable {w:World}{h₀:Heap}{n:Nat}{sc:Scope}{ω ω':Owns}{σ σ':List Var}
end
section
variable {h₀:Heap}{sc:Scope}{env:Env}{X:List Addr}{s0 s:Shared}{ω:Owns}{σ σ':List Var}
theorem St.store_loc {M:Model}{A:Around}{x:Str}{d:D}{v:Value}{Q:Unit → Shared → Prop}{E:Value → Shared → Prop}
    (S:St h₀ sc env X s0 ω σ s) (U:Upd σ x .loc d σ') (hv:R X s.heap v d) (h:∀ s',Grow X s X s' → St h₀ sc env X s0 ω σ' s' → (∀ b,b ≠ env.locals → s'.heap.get? b = s.heap.get? b) → Q () s'):wpAny M A (storeName env x v) Q E s:=by
  obtain ⟨e₀,he₀,q₀⟩:=List.mem_map.mp U.there
  have hn₀:e₀.name = x:=congrArg Prod.fst q₀
  have hk₀:e₀.kind = .loc:=congrArg Prod.snd q₀
  have hvar:=S.var he₀
  rw [hn₀,hk₀] at hvar
  have same:∀ e ∈ σ',e.name ≠ x → e ∈ σ:=fun e he hne=>(U.mem S.nd he).elim (fun q=>absurd (by rw [q]) hne) (·.1)
  have here:∀ e ∈ σ',e.name = x → e = ⟨x, .loc,some d⟩:=fun e he hne=>(U.mem S.nd he).elim id (fun q=>absurd hne q.2)
  have hl:env.kindOf x = some .local:=by
    simp only [varOk,Bool.and_eq_true,beq_iff_eq] at hvar
    unfold Env.kindOf; rw [S.scope]; exact hvar.1.1
  obtain ⟨m,hm,hmv⟩:=S.ns
  refine wpAny_storeName_local hl hm (fun h' hn' hs'=>h _ (.of_turn S.locX hs') ?_ fun b hb=>hs'.2 b hb) (by rw [S.kind]; rfl)
  obtain ⟨t1,t2,t3⟩:=S.turn (tk:=s.toks + 1) S.locX S.new hs' (kb7 hm)
  refine ⟨by rw [U.names]; exact S.ok,S.scope,S.glob,S.blt,t1,t2,S.gi0,⟨_,hn',fun e he hek d' hd'=>?_⟩,fun e he hek=>?_,S.inj,S.locX,S.new,fun e he hek=>?_,
    kdc hs' (let ⟨o,_,_,e,_⟩:=hn'; ⟨o,e⟩) S.alive,S.tabX,ki0 S.owns S.locX hs' (kba S.owns hm)⟩
  · by_cases q:e.name = x
    · have:=here e he q
      subst this
      simp only [Option.some.injEq] at hd'
      subst hd'
      exact ⟨v,by simp,t3 _ _ hv⟩
    · obtain ⟨v',h1,h2⟩:=hmv e (same e he q) hek d' hd'
      exact ⟨v',by simp only [q,if_false]; exact h1,t3 _ _ h2⟩
  · have hne:e.name ≠ x:=fun q=>hek (by rw [here e he q])
    obtain ⟨c,ov,h1,h2,h3,h4⟩:=S.cell e (same e he hne) hek
    refine ⟨c,ov,h1,kaf h2 fun o q=>(hs'.2 _ (kdb h2 hm)).trans q,h3,fun d' hd'=>?_⟩
    obtain ⟨v',e1,e2⟩:=h4 d' hd'
    exact ⟨v',e1,t3 _ _ e2⟩
  · have hne:e.name ≠ x:=fun q=>by have:=here e he q; rw [this] at hek; cases hek
    exact S.newc e (same e he hne) hek
theorem kc7 {h:Heap}{a t:Addr}{m:Str → Option Value}{ps:Array Value}(x:h.Ns a m) (e:h.get? t = some (tabObj ps)):t ≠ a:=fun z=>by
  obtain ⟨o',es,ep,g,hd,_⟩:=x
  rw [← z,e] at g; cases g; cases hd
end
end
section
section
variable {w:World}{h₀:Heap}{n:Nat}{sc:Scope}{env:Env}{X:List Addr}{s0 s:Shared}{ω:Owns}{σ:List Var}{t:Addr}
theorem kfx {h:Heap}{ps:Array Value}(e:h.get? t = some (tabObj ps)):¬ ∃ its,h.IsList t its ∨ h.IsTuple t its:=fun ⟨its,q⟩=>by
  rcases q with ⟨o,g,c,_⟩ | ⟨o,g,c,_⟩ <;> (rw [e] at g; cases g; cases c)
theorem kf4 {h:Heap}{q:Str}(e:h.get? t = some (tabObj #[])):¬ h.CodeRec (.ref t) q:=fun ⟨c,o,vs,u,e1,g,hd,r⟩=>by
  cases e1
  rw [e] at g; cases g
  cases hd
  cases r
theorem kg4 {h:Heap}{a b:Addr}(n:h.get? b = none):(h.hide a).get? b = none:=by
  cases q:(h.hide a).get? b with
  | none=>rfl
  | some o=>rw [Heap.of_hide q] at n; cases n
theorem St.hide1 (S:St h₀ sc env X s0 ω σ s) (hT:t ≠ Tb) (h0:h₀.get? t = none) (e:s.heap.get? t = some (tabObj #[])):St h₀ sc env (t :: X) { s0 with heap:=s0.heap.hide t } ω σ s:=by
  have wk:∀ {v d},R X s.heap v d → R (t :: X) s.heap v d:=fun r=>r.weakS fun a ha q=>by
    rcases List.mem_cons.mp ha with rfl | ha
    · exact absurd q (kfx e)
    · exact ha
  have wkA:∀ {v d},RAll X s.heap v d → RAll (t :: X) s.heap v d:=fun r=>r.weakS fun a ha q=>by
    rcases List.mem_cons.mp ha with rfl | ha
    · exact absurd q (kfx e)
    · exact ha
  refine ⟨S.ok,S.scope,S.glob,S.blt, ?_,S.gi,⟨fun b o q=>?_, ?_,S.gi.off⟩, ?_,fun x hx hk=>?_,S.inj, .tail _ S.locX,kg4 S.new,fun x hx hk c hc=>kg4 (S.newc x hx hk c hc),fun a ha=>?_, .tail _ S.tabX,⟨S.owns.nd,fun p hp=>?_⟩⟩
  · obtain ⟨h',tk,q,k⟩:=S.base
    exact ⟨h',tk,q.trans rfl,fun b o hb e'=>k b o hb (Heap.of_hide e')⟩
  · exact (Heap.hide_ne _ fun z=>by rw [z,h0] at q; cases q).trans (S.gi0.keep b o q)
  · obtain ⟨ps,q,x⟩:=S.gi0.tab
    refine ⟨ps,(Heap.hide_ne _ (Ne.symm hT)).trans q, ?_⟩
    rcases x with x | ⟨c',hne,e1,c,o,vs,u,e2,g,r⟩
    · exact .inl x
    · cases e2
      refine .inr ⟨_,hne,e1,_,o,vs,u,rfl,(Heap.hide_ne _ fun z=>?_).trans g,r⟩
      have g':=S.base.get hne g
      exact kf4 (q:=tourQual) e (z ▸ ⟨_,o,vs,u,rfl,g',r⟩)
  · obtain ⟨m,hm,hv⟩:=S.ns
    exact ⟨m,hm,fun x hx hk d hd=>let ⟨v,h1,h2⟩:=hv x hx hk d hd; ⟨v,h1,wk h2⟩⟩
  · obtain ⟨c,ov,h1,h2,h3,h4⟩:=S.cell x hx hk
    exact ⟨c,ov,h1,h2, .tail _ h3,fun d hd=>let ⟨v,q1,q2⟩:=h4 d hd; ⟨v,q1,wk q2⟩⟩
  · rcases List.mem_cons.mp ha with rfl | ha
    · exact ⟨_,e⟩
    · exact S.alive a ha
  · obtain ⟨h1,h2,h3⟩:=S.owns.is p hp
    refine ⟨.tail _ h1,kg4 h2, ?_⟩
    obtain ⟨a,c⟩:=p
    cases c with
    | lst ds=>obtain ⟨vs,q1,q2⟩:=h3; exact ⟨vs,q1,wkA q2⟩
    | obj o=>exact h3
theorem St.nxT (S:St h₀ sc env X s0 [] σ s) (ht:t ∈ X) (h0:s0.heap.get? t = none) (e:s.heap.get? t = some (tabObj #[])) {h':Heap}{tk:Nat}(k:∀ b o,b ≠ t → s.heap.get? b = some o → h'.get? b = some o) (ha:∃ o,h'.get? t = some o)   : St h₀ sc env X s0 [] σ { s with heap:=h',toks:=tk }:=by
  have wk:∀ {v d},R X s.heap v d → R X h' v d:=fun r=>r.keep fun b o hb q=>k b o (fun z=>hb (z ▸ ht)) q
  have wkA:∀ {v d},RAll X s.heap v d → RAll X h' v d:=fun r=>r.keep fun b o hb q=>k b o (fun z=>hb (z ▸ ht)) q
  have hTt:Tb ≠ t:=fun z=>by obtain ⟨ps,q,_⟩:=S.gi0.tab; rw [z,h0] at q; cases q
  have up0:∀ b o,s0.heap.get? b = some o → b ≠ t:=fun b o q z=>by rw [z,h0] at q; cases q
  refine ⟨S.ok,S.scope,S.glob,S.blt, ?_,⟨fun b o q=>k b o (up0 b o (S.gi0.keep b o q)) (S.gi.keep b o q), ?_,S.gi.off⟩,S.gi0, ?_,fun x hx hk=>?_,S.inj,S.locX,S.new,S.newc,fun a ha'=>?_,S.tabX,⟨S.owns.nd,fun p hp=>?_⟩⟩
  · obtain ⟨h1,tk1,q,k1⟩:=S.base
    subst q
    exact ⟨h',tk,rfl,fun b o hb e'=>k b o (up0 b o e') (k1 b o hb e')⟩
  · obtain ⟨ps,q,x⟩:=S.gi.tab
    refine ⟨ps,k _ _ hTt q, ?_⟩
    rcases x with x | ⟨c',hne,e1,c,o,vs,u,e2,g,r⟩
    · exact .inl x
    · cases e2
      exact .inr ⟨_,hne,e1,_,o,vs,u,rfl,k _ _ (fun z=>kf4 (q:=tourQual) e (z ▸ ⟨_,o,vs,u,rfl,g,r⟩)) g,r⟩
  · obtain ⟨m,hm,hv⟩:=S.ns
    refine ⟨m,ns_at hm fun o q=>k _ _ (fun z=>?_) q,fun x hx hk d hd=>let ⟨v,h1,h2⟩:=hv x hx hk d hd; ⟨v,h1,wk h2⟩⟩
    obtain ⟨o',es,ep,g,hd,_⟩:=hm
    rw [z,e] at g; cases g; cases hd
  · obtain ⟨c,ov,h1,h2,h3,h4⟩:=S.cell x hx hk
    refine ⟨c,ov,h1,kaf h2 fun o q=>k _ _ (fun z=>?_) q,h3,fun d hd=>let ⟨v,q1,q2⟩:=h4 d hd; ⟨v,q1,wk q2⟩⟩
    obtain ⟨o',g,hd⟩:=h2
    rw [z,e] at g; cases g; cases hd
  · by_cases z:a = t
    · exact z ▸ ha
    · obtain ⟨o,q⟩:=S.alive a ha'
      exact ⟨o,k a o z q⟩
  · cases hp
theorem args_false {M:Model}{A:Around}{E:Value → Shared → Prop}{s:Shared}{f:Value}{x:Sem Value}{rest:List (Bool × Sem Value)}{Q:Args → Shared → Prop}
    (h:wpAny M A (spliced ((false,x) :: rest)) (fun vs s'=>Q ⟨vs,[]⟩ s') E s):wpAny M A (evalArgs f false ((false,x) :: rest) []) Q E s:=by
  unfold evalArgs
  show wpAny M A (spliced ((false,x) :: rest) >>= _) Q E s
  refine wpAny_bind (wpAny_mono h (fun vs s' h'=>?_) fun _ _ x=>x)
  refine wpAny_holding ?_
  exact wpAny_bind (wpAny_pure (wpAny_bind (wpAny_pure (wpAny_pure h'))))
theorem guard_k {A:Around}{Q:Unit → Shared → Prop}{E:Value → Shared → Prop}(G:Gr w h₀) (S:St h₀ sc env X s0 ω σ s) (H:Q () s):wpAny (model prog w) A (buildClassGuard env) Q E s:=by
  unfold buildClassGuard
  obtain ⟨mb,hb,hbx⟩:=G.b
  rw [S.blt]
  refine wpAny_bind (wpAny_nsGet (hb.keeps S.gi.keep) ?_)
  rw [(hbx ("__build_class__" : Str) (by decide)).trans (show bootBuiltins "__build_class__" = some (.builtin "__build_class__") by kernel_rfl)]
  exact wpAny_pure H
theorem KM.wide {w:World}{h:Heap}{as bs:List Addr}{f:Addr}{k:Nat}{name q:Str}{clos:List (Str × Addr)}(x:KM w h as f k name q clos) (sb:∀ a ∈ as,a ∈ bs):KM w h bs f k name q clos :=
  let ⟨c',oc,ctv,doc,pm,m1,m2,e1,e2,r⟩:=x; ⟨c',oc,ctv,doc,pm,sb _ m1,sb _ m2,e1,e2,r⟩
theorem KTell.wide {w:World}{cc kc a:Addr}{as:List Addr}{h:Heap}(x:KTell w cc kc as h):KTell w cc kc (a :: as) h :=
  let ⟨N,md,fi,f1,f2,f3,f4,f5,sl,st,v1,v2,v3,t,H,T,vm,vf,h1,h2,t1,t2,m1,m2,m3,e1,e2,e3,q0,q1,q2,q3,q4,q5⟩:=x
  have sb:∀ b ∈ as,b ∈ a :: as:=fun _ h=>.tail _ h
  ⟨N,md,fi,f1,f2,f3,f4,f5,sl,st,v1,v2,v3,t,H,T,vm,vf,h1,h2,t1,t2, .tail _ m1, .tail _ m2, .tail _ m3,e1,e2,e3,q0.wide sb,q1.wide sb,q2.wide sb,q3.wide sb,q4.wide sb,q5.wide sb⟩
theorem call_cmp {A:Around}{X:List Addr}{s:Shared}{f:Addr}{Q:Value → Shared → Prop}{E:Value → Shared → Prop}(G:Gr w h₀) (O:Op h₀ X s) (rm:Room A 5) (h0:h₀.get? 23 = none) (e23:s.heap.get? 23 = some (tabObj #[])) (hsm:∃ o,h₀.get? sysModules = some o)
    (hQ:∀ cc kc as h' tk,(∀ b o,b ≠ 23 → b ≠ Tb → s.heap.get? b = some o → h'.get? b = some o) → GI h₀ { s with heap:=h',toks:=tk } → (∃ ps,h'.get? 23 = some (tabObj ps)) → (∀ a ∈ as,s.heap.get? a = none) → cc ∈ as → h'.IsCell cc (some (.ref f)) → KTell w cc kc as h' → Q (.ref kc) { s with heap:=h',toks:=tk }) :
    wpAny (model prog w) A (call (.ref 28) [.ref f]) Q E s:=by
  refine kif (n:=4) (ds:=[.val (.ref f)]) (ds':=[.val (.ref f)]) (vars:=[("mycmp", .own),("K", .loc)]) ⟨⟨_,G.K 28 _ rfl,rfl⟩,rfl,rfl,rfl,rfl,⟨_,_,_,_,rfl,G.K _ _ rfl,rfl,rfl⟩,rfl,rfl,G.lim,by decide +kernel,rfl⟩ (kaa (len1 fun _=>?_)) rm O (.cons (.val _) .nil) fun env X' s₁ s₂ E' n₁ hX rm' hcode hqual S=>?_
  · rfl
  have e23₁:=n₁.1.get (by decide) e23
  have e23₂:=S.base.get (by decide) e23₁
  have S:=S.hide1 (t:=23) (by decide) h0 e23₂
  obtain ⟨mg,hmg⟩:=G.g
  obtain ⟨c0,_,hc0,_⟩:=S.cell ⟨"mycmp", .own,some (.val (.ref f))⟩ (.head _) (fun q=>VK.noConfusion q)
  have hqn:qualnameIn env "K" "K" = "cmp_to_key.<locals>.K" := by
    unfold qualnameIn Env.kindOf
    rw [S.scope,hqual]
    kernel_rfl
  have hcl:closureFor (clsScope w) env = pure [(("mycmp" : Str),c0)]:=by
    rw [kbt (fun x hx=>?_),show clFrom env.cells (clsScope w).names [] = [(("mycmp" : Str),(env.cells.lookup ("mycmp" : Str)).getD 0)] from by kernel_rfl,hc0]
    · rfl
    · have:=List.all_eq_true.mp (show ((clsScope w).names.all fun p=>p.2 != .free || p.1 == ("mycmp" : Str)) = true from by kernel_rfl) _ hx
      have e:x = ("mycmp" : Str):=by simpa using this
      rw [e,hc0]; rfl
  refine wpAny_execs_cons ?_
  rw [arm_exec_ClassDef]
  refine wpAny_bind (m:=evalAll []) (wpAny_pure (wpAny_bind (wpAny_standAt (wpAny_bind (guard_k G S (wpAny_bind (wpAny_holding ?_)))))))
  refine wpAny_bind (args_false (x:=eval _ env) (rest:=[]) (spliced_cons (ka3 (w:=w) (n:=4) (gv_object G) (by decide +kernel) _ env _ _ s₂ rm' S _ _ fun v s₃ n₃ rv=>spliced_nil ?_)))
  have:=rv.val_eq; subst this
  have S:=S.nx n₃
  have e23₃:=n₃.1.get (by decide) e23₂
  refine wpAny_bind (wpAny_standAt (wpAny_holding ?_))
  rw [hqn]
  obtain ⟨hh,g,d,t,os⟩:=s₃
  refine build_k (mg:=mg) (vn:=(findG "__name__" (gEs w)).getD .none) (o2:=_) S.glob hcode hcl ⟨_,_,_,_,_,_,_,_,_,S.gi.keep _ _ (G.K 27 _ rfl),rfl,rfl,rfl,rfl,rfl,rfl,rfl,rfl,by decide⟩ e23₃ (hmg.keeps S.gi.keep) ((mg_at G hmg _).trans (by kernel_rfl)) (fun P hP=>blt_at (P:=P) G hmg S.gi.keep (h3:=Ne.symm hP)) (G.lim.keeps S.gi.keep)
    (S.gi.keep _ _ (G.K 2 _ rfl)) (by kernel_rfl) (let ⟨o,e⟩:=hsm; ⟨o,S.gi.keep _ _ e⟩) (rm'.down (by lia)) fun kc as h' tk kp ⟨ps,e23'⟩ fresh tell=>?_
  have Sn:=S.nxT (t:=23) (.head _) (Heap.hide_self _ _) e23₃ (tk:=tk) kp ⟨_,e23'⟩
  refine wpAny_bind (m:=decorate [] _) (wpAny_pure (wpAny_bind (wpAny_standAt (wpAny_bind (m:=bindName env _ _) ?_))))
  unfold bindName
  refine wpAny_bind (wpAny_holding (wpAny_point (wpAny_bind (Sn.store_loc (σ':=[⟨"mycmp", .own,some (.val (.ref f))⟩,⟨"K", .loc,some (.val (.ref kc))⟩]) (.s .z) (.val (.ref kc)) fun s₄ g₄ S₄ sm₄=>wpAny_point (wpAny_pure ?_)))))
  refine wpAny_execs_cons (wpAny_Return_some (ka0 (w:=w) (h₀:=h₀) (n:=4) (k:=.loc) (d:=.val (.ref kc)) (.s .z) _ env _ _ s₄ rm' S₄ _ _ fun v s₅ n₅ rv5=>?_))
  have:=rv5.val_eq; subst this
  refine ⟨_,rfl, ?_⟩
  have S5:=S₄.nx n₅
  obtain ⟨mL,hmL,_⟩:=Sn.ns
  have e23₅:=n₅.1.get (by decide) ((sm₄ 23 (kc7 hmL e23')).trans e23')
  have kT:Tb ∉ as:=fun hm=>by
    obtain ⟨ps,q,_⟩:=S.gi.tab
    have:=fresh _ hm
    rw [q] at this; cases this
  have kX:∀ a ∈ as, ∀ o,h'.get? a = some o → s₅.heap.get? a = some o:=fun a ha o q=>by
    refine n₅.1.get (fun z=>kT (z ▸ ha)) (g₄.keep a o (fun z=>?_) q)
    obtain ⟨o',q'⟩:=S.alive a z
    rw [fresh a ha] at q'; cases q'
  have up:∀ a o,a ≠ 23 → a ≠ Tb → s.heap.get? a = some o → s₅.heap.get? a = some o:=fun a o h1 h2 q=>S5.base.get h2 ((Heap.hide_ne _ h1).trans (n₁.1.get h2 q))
  have upS:∀ a o,a ≠ Tb → s.heap.get? a = some o → hh.get? a = some o:=fun a o h2 q=>by
    by_cases z:a = 23
    · subst z
      rw [e23] at q; cases q; exact e23₃
    · exact S.base.get h2 ((Heap.hide_ne _ z).trans (n₁.1.get h2 q))
  have fr:∀ a,hh.get? a = none → s.heap.get? a = none:=fun a n=>by
    cases q:s.heap.get? a with
    | none=>rfl
    | some o =>
      by_cases z:a = Tb
      · obtain ⟨ps,q',_⟩:=S.gi.tab
        rw [z,q'] at n; cases n
      · rw [upS a o z q] at n; cases n
  obtain ⟨c1,ov,hc1,hcell,_,hval⟩:=S5.cell ⟨"mycmp", .own,some (.val (.ref f))⟩ (.head _) (fun q=>VK.noConfusion q)
  rw [hc0] at hc1; cases hc1
  obtain ⟨vv,rfl,rv⟩:=hval _ rfl
  have:=rv.val_eq; subst this
  have c0s:s.heap.get? c0 = none:=by
    have:=S.newc ⟨"mycmp", .own,some (.val (.ref f))⟩ (.head _) rfl c0 hc0
    cases q:s.heap.get? c0 with
    | none=>rfl
    | some o =>
      have nT:c0 ≠ Tb:=fun z=>by
        obtain ⟨ps,q',_⟩:=S5.gi.tab
        obtain ⟨oc,qc,hd⟩:=hcell
        rw [z,q'] at qc; cases qc; cases hd
      have n23:c0 ≠ 23:=fun z=>by
        obtain ⟨c2,ov2,hc2,⟨oc,qc,hd⟩,_⟩:=S.cell ⟨"mycmp", .own,some (.val (.ref f))⟩ (.head _) (fun q=>VK.noConfusion q)
        rw [hc0] at hc2; cases hc2
        rw [z,e23₃] at qc; cases qc; cases hd
      have q2:=(Heap.hide_ne _ n23).trans (n₁.1.get nT q)
      rw [this] at q2; cases q2
  obtain ⟨ha,ta,ea,ka⟩:=n₁.1
  obtain ⟨hb,tb,eb,kb⟩:=S5.base
  subst ea
  subst eb
  refine hQ c0 kc (c0 :: as) _ _ (fun a o h1 h2 q=>up a o h1 h2 q) S5.gi ⟨_,e23₅⟩ (fun a ha'=>?_) (.head _) hcell ?_
  · rcases List.mem_cons.mp ha' with rfl | ha'
    · exact c0s
    · exact fr a (fresh a ha')
  · have:=tell.keep kX
    exact this.wide
end
end
theorem lookup_mem {a:Addr}{o:Obj} : ∀ {K:Frag},K.lookup a = some o → (a,o) ∈ K:=by
  intro K
  induction K with
  | nil=>intro e; cases e
  | cons p K ih =>
    intro e
    obtain ⟨b,o'⟩:=p
    rw [List.lookup_cons] at e
    cases q:(a == b) with
    | true =>
      rw [q] at e
      have e1:a = b:=by simpa using q
      have e2:o' = o:=Option.some.inj e
      rw [e1,e2]; exact .head _
    | false=>rw [q] at e; exact .tail _ (ih e)
theorem in_true {h:Heap}{K:Frag}(T:∀ p ∈ K,h.get? p.1 = some p.2):K.In h:=fun a o e=>T _ (lookup_mem e)
theorem kkv {a:Addr}{o:Obj} : ∀ {K:Frag},(a,o) ∈ K → ∃ o',K.lookup a = some o':=by
  intro K
  induction K with
  | nil=>intro m; cases m
  | cons p K ih =>
    intro m
    obtain ⟨b,o'⟩:=p
    rw [List.lookup_cons]
    cases q:(a == b) with
    | true=>exact ⟨_,rfl⟩
    | false =>
      rcases List.mem_cons.mp m with e | m
      · cases e; exact absurd q (by simp)
      · exact ih m
theorem kay {h:Heap}{K:Frag}(T:∀ p ∈ K,h.get? p.1 = some p.2) {a:Addr}{o:Obj}(m:(a,o) ∈ K):K.lookup a = some o:=by
  obtain ⟨o',e⟩:=kkv m
  rw [e, ← T _ m,in_true T _ _ e]
structure KH (K:Frag) (kc md fi f1 f2 f3 f4 f5:Addr):Prop where
  mks:makesIn K kc = true
  init:findIn K (.ref kc) "__init__" = some (some (.ref fi))
  lt:findIn K (.ref kc) "__lt__" = some (some (.ref f1))
  gt:findIn K (.ref kc) "__gt__" = some (some (.ref f2))
  eq:findIn K (.ref kc) "__eq__" = some (some (.ref f3))
  le:findIn K (.ref kc) "__le__" = some (some (.ref f4))
  ge:findIn K (.ref kc) "__ge__" = some (some (.ref f5))
  ne:findIn K (.ref kc) "__ne__" = some (some (.builtin "object.__ne__"))
  pg:plainGet K kc "obj" = true
  hc:isClsIn K kc = true
  ha:findIn K (.ref kc) "obj" = some (some (.ref md))
  hn:specialIn K (.ref md) "__get__" = some (some (.builtin "member_descriptor.__get__"))
  ht:takesIn K (.ref md) = some true
  hp:slotIn K md kc = some 0
  hs:findIn K (.ref kc) "__setattr__" = some (some (.builtin "object.__setattr__"))
  po:plainOver K kc = true
  tk:takerIn K kc "obj" = some (some (.ref md))
  hT:typeIn K (.ref md) = some (.type "member_descriptor")
  fn:∀ f ∈ [fi,f1,f2,f3,f4,f5],typeIn K (.ref f) = some (.type "function")
  sf:selfFirst K kc = true
theorem KH.of {K:Frag}{kc N md fi f1 f2 f3 f4 f5 sl st:Addr}{v1 v2 v3 vm vf:Value}{t t1 t2:Tok}{H:Nat → Int}{T:Nat → Tok}{h1 h2:Int}(L1:K.lookup kc = some (kObj kc N v1 v2 v3)) (L2:K.lookup N = some (dictObj (kEs H T vm vf sl fi f1 f2 f3 f4 f5 st ++ [ent h1 "obj" t1 (.ref md),ent h2 "__doc__" t2 .none]) 3))
    (L3:K.lookup md = some (mdObj kc t)) (L4:∀ f ∈ [fi,f1,f2,f3,f4,f5], ∃ fd,K.lookup f = some { cls:=.type "function",data:=.func fd }):KH K kc md fi f1 f2 f3 f4 f5:=by
  have fnd:∀ {name:Str}{r:Option (Option Value)},alongIn K name [.ref kc, .type "object"] = r → findIn K (.ref kc) name = r:=fun e=>by
    show (match K.lookup kc with | some ⟨_,_, .cls cd,_⟩=>alongIn K _ cd.mro | _=>none) = _; rw [L1]; exact e
  have ow1:∀ {name:Str},ownIn K name (.ref kc) = nsIn K N name:=fun {name}=>by
    show (match K.lookup kc with | some ⟨_,_, .cls cd,_⟩=>nsIn K cd.ns name | _=>none) = _
    rw [L1]
  have own:∀ {name:Str}{r:Option (Option Value)},(match nsIn K N name with | some (some v)=>some (some v) | some none=>alongIn K name [.type "object"] | none=>none) = r → findIn K (.ref kc) name = r:=fun e=>fnd (by
    unfold alongIn; rw [ow1]; exact e)
  have nsr:∀ {name:Str}{r:Option (Option Value)},(match (kEs H T vm vf sl fi f1 f2 f3 f4 f5 st ++ [ent h1 "obj" t1 (.ref md),ent h2 "__doc__" t2 .none]).toArray.toList.find? (·.key.isStr name) with | some e=>some (some e.val) | none=>if (kEs H T vm vf sl fi f1 f2 f3 f4 f5 st ++ [ent h1 "obj" t1 (.ref md),ent h2 "__doc__" t2 .none]).toArray.toList.any (·.refKey) then none else some none) = r → nsIn K N name = r:=fun e=>by
    unfold nsIn; rw [L2]; exact e
  have hc:clsIn K kc = some { name := "K",bases:=[.type "object"],mro:=[.ref kc, .type "object"],ns:=N,qualname := "cmp_to_key.<locals>.K",hasDict:=false,slotNames:=["obj"],subclasses:=[],abstract:=false,collection:=none,hasDel:=false }:=by
    unfold clsIn; rw [L1]
  have tkc:typeIn K (.ref kc) = some (.type "type"):=by show (K.lookup kc).map (·.cls) = _; rw [L1]; rfl
  have tmd:typeIn K (.ref md) = some (.type "member_descriptor"):=by show (K.lookup md).map (·.cls) = _; rw [L3]; rfl
  have hobj:findIn K (.ref kc) "obj" = some (some (.ref md)):=own (by rw [nsr (r:=some (some (.ref md))) (by kernel_rfl)])
  have hset:takesIn K (.ref md) = some true:=by unfold takesIn specialIn; rw [tmd]; kernel_rfl
  refine ⟨?_,own (by rw [nsr (r:=some (some (.ref fi))) (by kernel_rfl)]),own (by rw [nsr (r:=some (some (.ref f1))) (by kernel_rfl)]),own (by rw [nsr (r:=some (some (.ref f2))) (by kernel_rfl)]),own (by rw [nsr (r:=some (some (.ref f3))) (by kernel_rfl)]),own (by rw [nsr (r:=some (some (.ref f4))) (by kernel_rfl)]),
    own (by rw [nsr (r:=some (some (.ref f5))) (by kernel_rfl)]),own (by rw [nsr (r:=some none) (by kernel_rfl)]; kernel_rfl), ?_, ?_,hobj, ?_,hset, ?_,own (by rw [nsr (r:=some none) (by kernel_rfl)]; kernel_rfl), ?_, ?_,tmd, ?_, ?_⟩
  · have hcall:specialIn K (.ref kc) "__call__" = some (some (.builtin "type.__call__")):=by unfold specialIn; rw [tkc]; kernel_rfl
    have hinst:instIn K (.ref kc) (.type "type") = some true:=by unfold instIn; rw [tkc]; kernel_rfl
    unfold makesIn
    rw [L1]
    dsimp only
    rw [hcall,hinst]
    simp
  · unfold plainGet
    rw [own (name := "__getattribute__") (r:=some (some (.builtin "object.__getattribute__"))) (by rw [nsr (r:=some none) (by kernel_rfl)]; kernel_rfl),own (name := "__getattr__") (r:=some none) (by rw [nsr (r:=some none) (by kernel_rfl)]; kernel_rfl)]
    kernel_rfl
  · unfold isClsIn; rw [hc]; rfl
  · unfold specialIn; rw [tmd]; kernel_rfl
  · unfold slotIn recIn
    rw [L3,hc]
    simp
  · unfold plainOver; rw [hc]; kernel_rfl
  · unfold takerIn; rw [hobj,Option.bind_some]; show (takesIn K (.ref md)).map (fun b=>if b = true then some (Value.ref md) else none) = _; rw [hset]; rfl
  · intro f hf
    obtain ⟨fd,e⟩:=L4 f hf
    show (K.lookup f).map (·.cls) = _
    rw [e]; rfl
  · unfold selfFirst; rw [hc]; simp
theorem allc {α:Type}{P:α → Prop}{a:α}{l:List α}(h:P a) (r:∀ x ∈ l,P x):∀ x ∈ a :: l,P x:=List.forall_mem_cons.mpr ⟨h,r⟩
theorem alln {α:Type}{P:α → Prop} : ∀ x ∈ ([]:List α),P x:=fun _ m=>absurd m List.not_mem_nil
inductive KOpen (w:World) (cc kc:Addr) (as:List Addr) (h:Heap):Prop
  | mk (K:Frag) (md fi f1 f2 f3 f4 f5:Addr) (a0:K.In h) (a1:KH K kc md fi f1 f2 f3 f4 f5) (a2:KM w h as fi 0 "__init__" "cmp_to_key.<locals>.K.__init__" []) (a3:KM w h as f1 1 "__lt__" "cmp_to_key.<locals>.K.__lt__" [("mycmp",cc)]) (a4:KM w h as f2 2 "__gt__" "cmp_to_key.<locals>.K.__gt__" [("mycmp",cc)]) (a5:KM w h as f3 3 "__eq__" "cmp_to_key.<locals>.K.__eq__" [("mycmp",cc)]) (a6:KM w h as f4 4 "__le__" "cmp_to_key.<locals>.K.__le__" [("mycmp",cc)]) (a7:KM w h as f5 5 "__ge__" "cmp_to_key.<locals>.K.__ge__" [("mycmp",cc)]):KOpen w cc kc as h
theorem KTell.open {w:World}{cc kc:Addr}{as:List Addr}{h:Heap}(x:KTell w cc kc as h):KOpen w cc kc as h:=by
  obtain ⟨N,md,fi,f1,f2,f3,f4,f5,sl,st,v1,v2,v3,t,H,T,vm,vf,h1,h2,t1,t2,m1,m2,m3,e1,e2,e3,q0,q1,q2,q3,q4,q5⟩:=x
  have fo:∀ {f k n q cl},KM w h as f k n q cl → ∃ fd,h.get? f = some { cls:=.type "function",data:=.func fd }:=fun ⟨_,_,_,_,_,_,_,e,_,_⟩=>⟨_,e⟩
  obtain ⟨d0,g0⟩:=fo q0
  obtain ⟨d1,g1⟩:=fo q1
  obtain ⟨d2,g2⟩:=fo q2
  obtain ⟨d3,g3⟩:=fo q3
  obtain ⟨d4,g4⟩:=fo q4
  obtain ⟨d5,g5⟩:=fo q5
  have TT:∀ p ∈ ([(kc,kObj kc N v1 v2 v3),(N,dictObj (kEs H T vm vf sl fi f1 f2 f3 f4 f5 st ++ [ent h1 "obj" t1 (.ref md),ent h2 "__doc__" t2 .none]) 3),(md,mdObj kc t),(fi,{ cls:=.type "function",data:=.func d0 }),(f1,{ cls:=.type "function",data:=.func d1 }),(f2,{ cls:=.type "function",data:=.func d2 }),(f3,{ cls:=.type "function",data:=.func d3 }),(f4,{ cls:=.type "function",data:=.func d4 }),(f5,{ cls:=.type "function",data:=.func d5 })]:Frag),h.get? p.1 = some p.2:=allc e1 (allc e2 (allc e3 (allc g0 (allc g1 (allc g2 (allc g3 (allc g4 (allc g5 alln))))))))
  refine ⟨_,md,fi,f1,f2,f3,f4,f5,in_true TT,KH.of (kay TT (.head _)) (kay TT (.tail _ (.head _))) (kay TT (.tail _ (.tail _ (.head _)))) ?_,q0,q1,q2,q3,q4,q5⟩
  exact allc ⟨_,kay TT (List.mem_of_getElem? (i:=3) rfl)⟩ (allc ⟨_,kay TT (List.mem_of_getElem? (i:=4) rfl)⟩ (allc ⟨_,kay TT (List.mem_of_getElem? (i:=5) rfl)⟩ (allc ⟨_,kay TT (List.mem_of_getElem? (i:=6) rfl)⟩ (allc ⟨_,kay TT (List.mem_of_getElem? (i:=7) rfl)⟩ (allc ⟨_,kay TT (List.mem_of_getElem? (i:=8) rfl)⟩ alln)))))
section
section
variable {w:World}{h₁:Heap}{n:Nat}
theorem kk6 {A:Around}{E:Value → Shared → Prop}{Q:Env → Shared → Prop}{X:List Addr}{s:Shared}{scope:Scope}{qual:Str}{code:Value}{x y t:Str}{L c:Addr}{tv v u:Value}{dt d1 d2:D}(G:Gr w h₁) (O:Op h₁ X s) (hc:h₁.IsCell c (some tv)) (hR:∀ h Y,R Y h tv dt)
    (r1:R X s.heap v d1) (r2:R X s.heap u d2) (hok:sigOk scope [(t, .ext),(x, .loc),(y, .loc)] = true) (hcell:∀ z ∈ scope.names,z.2 ≠ .cell)
    (hQ:∀ env X' s₂,Nx h₁ s s₂ → (∀ a ∈ X,a ∈ X') → St h₁ scope env X' s [] [⟨t, .ext,some dt⟩,⟨x, .loc,some d1⟩,⟨y, .loc,some d2⟩] s₂ → s₂.heap.NoLimit → Q env s₂) :
    wpAny (model prog w) A (newFunctionEnv scope mainGlobals [(t,c)] [(x,v),(y,u)] qual (some L) code none builtinsNs) Q E s:=by
  have hsig:=hok
  simp only [sigOk,Bool.and_eq_true,beq_iff_eq,decide_eq_true_eq,List.all_eq_true] at hsig
  obtain ⟨⟨hk,hnd⟩,hvar⟩:=hsig
  have hvx:=hvar (x, .loc) (.tail _ (.head _))
  have hvy:=hvar (y, .loc) (.tail _ (.tail _ (.head _)))
  simp only [varOk,Bool.and_eq_true,beq_iff_eq] at hvx hvy
  simp only [List.map_cons,List.map_nil,List.nodup_cons,List.mem_cons,List.not_mem_nil,or_false,not_or] at hnd
  have hxy:x ≠ y:=hnd.2.1
  have szN:s.heap.get? s.heap.objs.size = none:=Heap.get?_none_of_le (Nat.le_refl _)
  refine wpAny_newFunctionEnv hcell (fun z hz=>?_) (fun h₂ hns hsb=>?_) hk
  · rcases List.mem_cons.mp hz with rfl | hz
    · exact hvx.1.1
    · rw [List.mem_singleton.mp hz]; exact hvy.1.1
  have kp:∀ b o,s.heap.get? b = some o → h₂.get? b = some o:=fun b o e=>hsb.extBut b o (Nat.ne_of_lt (Heap.lt_size e)) (Heap.get?_push_of_some _ e)
  have n₂:Nx h₁ s { s with heap:=h₂,toks:=s.toks + 2 }:=.of_keeps O.gi ⟨h₂,_,rfl,kp⟩
  have hcs:=kaf hc fun o e=>O.gi.keep _ _ e
  have subX:∀ a ∈ s.heap.objs.size :: c :: X,(∃ its,s.heap.IsList a its ∨ s.heap.IsTuple a its) → a ∈ X:=fun a ha q=>by
    rcases List.mem_cons.mp ha with z | ha
    · obtain ⟨o,e⟩:=kcy q; rw [z,szN] at e; cases e
    · rcases List.mem_cons.mp ha with z | ha
      · obtain ⟨its,q | q⟩:=q
        · exact absurd q (kbr (z ▸ hcs) _)
        · obtain ⟨o,ho,_,k,hd⟩:=q
          obtain ⟨o',ho',hd'⟩:=hcs
          rw [z,ho'] at ho; cases ho; rw [hd] at hd'; cases hd'
      · exact ha
  have tabX:Tb ∈ s.heap.objs.size :: c :: X:=.tail _ (.tail _ O.tabX)
  refine hQ _ (s.heap.objs.size :: c :: X) _ n₂ (fun a ha=>.tail _ (.tail _ ha)) ?_ ((G.lim.keeps O.gi.keep).fresh _ hsb)
  refine ⟨hok,rfl,rfl,rfl,n₂.1,n₂.2,O.gi,⟨_,hns,fun e he hek d hd=>?_⟩,fun e he hek=>?_,fun a b c₁ h1 h2=>?_, .head _,szN,fun e he hek=>?_,fun a ha=>?_,tabX,⟨List.nodup_nil,fun p hp=>by cases hp⟩⟩
  · rcases List.mem_cons.mp he with rfl | he
    · cases hek
    · rcases List.mem_cons.mp he with rfl | he
      · cases hd
        refine ⟨v, ?_,(r1.weakS subX).nx n₂ tabX⟩
        show ([(x,v),(y,u)]:List (Str × Value)).reverse.lookup x = some v
        have:(x == y) = false:=by simpa using hxy
        simp [List.lookup,this]
      · rw [List.mem_singleton.mp he] at hd ⊢
        cases hd
        refine ⟨u, ?_,(r2.weakS subX).nx n₂ tabX⟩
        show ([(x,v),(y,u)]:List (Str × Value)).reverse.lookup y = some u
        simp [List.lookup]
  · rcases List.mem_cons.mp he with rfl | he
    · refine ⟨c,some tv, ?_,kaf hcs fun o e=>kp _ _ e, .tail _ (.head _),fun d hd=>?_⟩
      · show List.lookup t [(t,c)] = some c
        simp [List.lookup]
      · cases hd
        exact ⟨tv,rfl,hR _ _⟩
    · rcases List.mem_cons.mp he with rfl | he
      · exact absurd rfl hek
      · rw [List.mem_singleton.mp he] at hek; exact absurd rfl hek
  · have h1':List.lookup a [(t,c)] = some c₁:=h1
    have h2':List.lookup b [(t,c)] = some c₁:=h2
    have one:∀ z,List.lookup z [(t,c)] = some c₁ → z = t:=fun z hz=>by
      by_cases q:z = t
      · exact q
      · have:(z == t) = false:=by simpa using q
        simp [List.lookup,this] at hz
    rw [one a h1',one b h2']
  · rcases List.mem_cons.mp he with rfl | he
    · cases hek
    · rcases List.mem_cons.mp he with rfl | he
      · cases hek
      · rw [List.mem_singleton.mp he] at hek; cases hek
  · rcases List.mem_cons.mp ha with q | ha
    · obtain ⟨o,_,_,e,_⟩:=hns; exact ⟨o,q ▸ e⟩
    · rcases List.mem_cons.mp ha with q | ha
      · obtain ⟨o,e,_⟩:=hcs; exact ⟨o,q ▸ kp _ _ e⟩
      · obtain ⟨o,e⟩:=O.al a ha; exact ⟨o,kp _ _ e⟩
theorem clo_def {name qual:Str}{params:Arguments}{scope:Scope}{doc pm ctv tv:Value}{x y t:Str}{f c c':Addr}{dt d1 d2:D}{e:Expr}{pos:Pos}{b:Bool}(G:Gr w h₁)
    (hf:h₁.get? f = some (fnMade name qual params [.Return (some e) pos] scope [(t,c)] doc pm c' ctv)) (hcode:h₁.CodeRec (.ref c') qual) (hc:h₁.IsCell c (some tv)) (hR:∀ h Y,R Y h tv dt)
    (hbind:∀ v u,bindArgs (fnX name qual params [.Return (some e) pos] scope [(t,c)] .none .none doc pm none (.ref c') ctv) ⟨[v,u],[]⟩ = pure [(x,v),(y,u)]) (hok:sigOk scope [(t, .ext),(x, .loc),(y, .loc)] = true)
    (hco:scope.isCoroutine = false) (hgen:scope.isGenerator = false) (hcell:∀ z ∈ scope.names,z.2 ≠ .cell)
    (hev:EV w h₁ n scope [] [⟨t, .ext,some dt⟩,⟨x, .loc,some d1⟩,⟨y, .loc,some d2⟩] e (.bool b)):CallR w h₁ (n + 1) (.ref f) [d1,d2] (.bool b):=fun A X s vs rm O rs Q E hq=>by
  obtain ⟨v,u,rfl,r1,r2⟩:=rs.two
  refine wpAny_call (codeAny_call_function rm.lt (O.gi.keep _ _ hf) rfl hco hgen rfl (hcode.keeps O.gi.keep) ?_)
  rw [hbind v u]
  refine wpAny_pure (kk6 G O hc hR r1 r2 hok hcell fun env X' s₂ n₂ hX S hl=>⟨hl,codeAny_func (wpAny_execs_cons (wpAny_Return_some (hev _ _ _ s _ rm.deeper S _ _ fun v' s' n' r'=>?_)))⟩)
  have:=r'.bool_eq; subst this
  exact hq _ s' (n₂.trans n') (.bool _)
end
end
section
noncomputable abbrev instK (kc dx:Addr) (v:Value):Obj:={ instObj kc dx with slots:=#[some v] }
inductive KInst (h:Heap) (kc x:Addr) (v:Value):Prop
  | mk (dx:Addr) (e1:h.get? x = some (instK kc dx v)) (e2:h.get? dx = some emptyDict):KInst h kc x v
theorem KInst.at' {h:Heap}{kc x:Addr}{v:Value}(i:KInst h kc x v):∃ dx,InstAt h x (instK kc dx v) kc (some emptyDict):=let ⟨dx,e1,e2⟩:=i; ⟨dx,e1,rfl,rfl,e2⟩
theorem KInst.keep {h h':Heap}{kc x:Addr}{v:Value}(i:KInst h kc x v) (k:∀ b o,h.get? b = some o → h'.get? b = some o):KInst h' kc x v:=let ⟨dx,e1,e2⟩:=i; ⟨dx,k _ _ e1,k _ _ e2⟩
section
variable {w:World}{h₁:Heap}{n:Nat}{sc:Scope}{ω:Owns}{σ:List Var}{K:Frag}{kc md fi f1 f2 f3 f4 f5:Addr}(X₁:K.In h₁) (H:KH K kc md fi f1 f2 f3 f4 f5)
include X₁ H
theorem get_obj {A:Around}{s:Shared}{x:Addr}{v:Value}{expr:Bool}{Q:Value → Shared → Prop}{E:Value → Shared → Prop}(gi:GI h₁ s) (i:KInst h₁ kc x v) (hv:handedIn v = true) (hq:Q v { s with toks:=s.toks + 1 }):wpAny (model prog w) A (getAttr (.ref x) "obj" expr) Q E s:=by
  have Xs:=X₁.keeps gi.keep
  obtain ⟨dx,I⟩:=(i.keep gi.keep).at'
  exact get_bind Xs I (plainGet_of H.pg).1 (findObj_data H.hc H.ha H.hn H.ht) (plainGet_of H.pg).2
    (wpAny_call (slot_get (s:={ s with toks:=s.toks + 1 }) Xs I H.hp rfl (handed_on hv hq)))
theorem ev_obj {x:Str}{a:Addr}{v:Value}{xp apos:Pos}(hx:Has σ x .loc (.val (.ref a))) (i:KInst h₁ kc a v) (hv:handedIn v = true):EV w h₁ n sc ω σ (.Attribute (.Name x xp) "obj" apos) (.val v):=fun A env X s0 s rm S Q E hq =>
  Attribute_name (ka0 hx A env X s0 s rm S _ _ fun v' s₁ n₁ rv=>by
    have:=rv.val_eq; subst this
    exact get_obj X₁ H n₁.2 i hv (hq v _ (n₁.trans (.tok n₁.2 _)) (.val v)))
theorem kji {as:List Addr}{f L cc:Addr}{k:Nat}{name q:Str}{op:CmpOp}{x y:Addr}{v u:Value}{z:Int}{b:Bool}(G:Gr w h₁) (m:KM w h₁ as f k name q [("mycmp",cc)])
    (hs:∃ p1 p2 p3 p4 p5 p6 p7 p8 p9 p10,(meth w k).2.1 = [.Return (some (.Compare (.Call (.Name "mycmp" p1) [.Attribute (.Name "self" p2) "obj" p3, .Attribute (.Name "other" p4) "obj" p5] [] p6) [op] [.Constant (.int 0) p10 p7] p8)) p9])
    (hbind:∀ doc pm c' ctv v u,bindArgs (fnX name q (meth w k).1 (meth w k).2.1 (meth w k).2.2 [("mycmp",cc)] .none .none doc pm none (.ref c') ctv) ⟨[v,u],[]⟩ = pure [(("self" : Str),v),(("other" : Str),u)])
    (hok:sigOk (meth w k).2.2 [("mycmp", .ext),("self", .loc),("other", .loc)] = true) (hco:(meth w k).2.2.isCoroutine = false) (hgen:(meth w k).2.2.isGenerator = false) (hcell:∀ z ∈ (meth w k).2.2.names,z.2 ≠ .cell)
    (hc:h₁.IsCell cc (some (.ref L))) (hL:Cal h₁ (.ref L)) (i:KInst h₁ kc x v) (j:KInst h₁ kc y u) (hv:handedIn v = true) (hu:handedIn u = true) (hr:CallR w h₁ n (.ref L) [.val v, .val u] (.int z)) (hop:CmpR w h₁ n op (.int z) (.int 0) b) (hm:∀ i p,behindInMarks op (.Constant (.int 0) i p) = false) :
    CallR w h₁ (n + 1) (.ref f) [.val (.ref x), .val (.ref y)] (.bool b):=by
  obtain ⟨c',oc,ctv,doc,pm,m1,m2,e1,e2,vs,t,hd,hq⟩:=m
  obtain ⟨p1,p2,p3,p4,p5,p6,p7,p8,p9,p10,hs⟩:=hs
  have hb:=hbind doc pm c' ctv
  rw [hs] at e1 hb
  exact clo_def G e1 ⟨_,oc,vs,t,rfl,e2,hd,hq⟩ hc (fun h Y=>.val _) hb hok hco hgen hcell
    (kb8 (ka8 (ka0 .z) hL (.cons rfl (ev_obj X₁ H (.s .z) i hv) (.cons rfl (ev_obj X₁ H (.s (.s .z)) j hu) .nil)) hr) ka7 hop (hm _ _))
end
section
variable {w:World}
end
end
section
theorem Room.clU {A:Around}{n:Nat}(r:Room A n):A.units < cLine:=by have:=r.units; lia
section
variable {w:World}{h₁:Heap}{n:Nat}{K:Frag}{kc md fi f1 f2 f3 f4 f5:Addr}{x y f:Addr}{v u:Value}{b:Bool}
theorem bound_k {A:Around}{X:List Addr}{s:Shared}{name:Str}{Q:Option Value → Shared → Prop}{E:Value → Shared → Prop}(X₁:K.In h₁) (O:Op h₁ X s) (i:KInst h₁ kc x v) (hs:findIn K (.ref kc) name = some (some (.ref f))) (hf:typeIn K (.ref f) = some (.type "function"))
    (rm:Room A n) (hr:CallR w h₁ n (.ref f) [.val (.ref x), .val (.ref y)] (.bool b)) (hq:∀ s',Nx h₁ s s' → Q (some (.bool b)) s'):wpAny (model prog w) A (callSpecialIfBound? (.ref x) name [.ref y]) Q E s:=by
  obtain ⟨dx,I⟩:=(i.keep O.gi.keep).at'
  refine ifBound_K (X₁.keeps O.gi.keep) I hs (beq_iff_eq.mpr hf) (hr A X s _ rm O (.cons (.val _) (.cons (.val _) .nil)) _ _ fun v' s' n' r'=>?_)
  have:=r'.bool_eq; subst this
  exact hq s' n'
theorem rich_k {A:Around}{s:Shared}{op:CmpOp}{Q:Value → Shared → Prop}{E:Value → Shared → Prop}(hu:A.units < cLine) (gi:GI h₁ s) (i:KInst h₁ kc x v) (j:KInst h₁ kc y u)
    (one:wpAny (model prog w) A (callSpecialIfBound? (.ref x) (cmpInfo op).2.1 [.ref y]) (fun r s'=>r = some (.bool b) ∧ Q (.bool b) s') E s):wpAny (model prog w) A (richCompare op (.ref x) (.ref y)) Q E s:=by
  obtain ⟨dx,I⟩:=(i.keep gi.keep).at'
  obtain ⟨dy,J⟩:=(j.keep gi.keep).at'
  have one':wpAny (model prog w) A (tryCompare (.ref x) (cmpInfo op).2.1 (.ref y)) (fun r s'=>r = some (.bool b) ∧ Q (.bool b) s') E s:=by
    unfold tryCompare
    refine wpAny_bind (wpAny_mono one (fun r s' hv=>?_) fun _ _ e=>e)
    obtain ⟨rfl,hq⟩:=hv
    exact wpAny_pure ⟨rfl,hq⟩
  unfold richCompare
  simp only [oneThing_ref]
  refine wpAny_holding (wpAny_bind (wpAny_cRoomFor hu ?_))
  refine wpAny_bind (I.type.here (wpAny_bind (J.type.here ?_)))
  rw [show (Value.ref kc != Value.ref kc) = false from by simp]
  simp only [Bool.false_eq_true,if_false]
  refine wpAny_bind (wpAny_pure ?_)
  simp only [Bool.false_eq_true,if_false]
  refine wpAny_bind (wpAny_mono one' (fun r s' z=>?_) fun _ _ e=>e)
  obtain ⟨rfl,hq⟩:=z
  exact wpAny_pure hq
theorem cmp_k {op:CmpOp}(X₁:K.In h₁) (i:KInst h₁ kc x v) (j:KInst h₁ kc y u) (hs:findIn K (.ref kc) (cmpInfo op).2.1 = some (some (.ref f))) (hf:typeIn K (.ref f) = some (.type "function"))
    (hr:CallR w h₁ n (.ref f) [.val (.ref x), .val (.ref y)] (.bool b)) (ho:∀ a c,compareOp op a c = richCompare op a c):CmpR w h₁ n op (.val (.ref x)) (.val (.ref y)) b:=fun A X s va vb rm O ra rb Q E hq=>by
  have:=ra.val_eq; subst this
  have:=rb.val_eq; subst this
  rw [ho]
  exact rich_k rm.clU O.gi i j (bound_k X₁ O i hs hf rm hr fun s' n'=>⟨rfl,hq _ s' n' (.bool _)⟩)
theorem key_lt {A:Around}{X:List Addr}{s:Shared}{Q:Bool → Shared → Prop}{E:Value → Shared → Prop}(X₁:K.In h₁) (H:KH K kc md fi f1 f2 f3 f4 f5) (O:Op h₁ X s) (i:KInst h₁ kc x v) (rm:Room A n) (hr:CallR w h₁ n (.ref f1) [.val (.ref x), .val (.ref y)] (.bool b)) (hq:∀ s',Nx h₁ s s' → Q b s') :
    wpAny (model prog w) A (keyLt' oneType' (.ref x) (.ref y)) Q E s:=by
  rw [keyLt'_oneType,oneLt'_eq]
  simp only [if_true]
  refine wpAny_bind (wpAny_cRoomFor rm.clU ?_)
  refine wpAny_bind (bound_k X₁ O i H.lt (H.fn _ (.tail _ (.head _))) rm hr fun s' n'=>?_)
  exact wpAny_truthy_bool (hq s' n')
theorem one_bind (self:Value):bindSpecial (.builtin "object.__ne__") self = pure (.builtin "object.__ne__",[self]):=F.cmp_object.ne.bind self
theorem cmp_ne (X₁:K.In h₁) (H:KH K kc md fi f1 f2 f3 f4 f5) (i:KInst h₁ kc x v) (j:KInst h₁ kc y u) (hr:CallR w h₁ n (.ref f3) [.val (.ref x), .val (.ref y)] (.bool b)):CmpR w h₁ (n + 1) .NotEq (.val (.ref x)) (.val (.ref y)) (!b):=fun A X s va vb rm O ra rb Q E hq=>by
  have:=ra.val_eq; subst this
  have:=rb.val_eq; subst this
  show wpAny _ A (richCompare .NotEq (.ref x) (.ref y)) Q E s
  have Xs:=X₁.keeps O.gi.keep
  obtain ⟨dx,I⟩:=(i.keep O.gi.keep).at'
  refine rich_k (b:=!b) rm.clU O.gi i j ?_
  show wpAny _ A (callSpecialIfBound? (.ref x) "__ne__" [.ref y]) _ E s
  have body:wpAny (model prog w) A (call (.builtin "object.__ne__") ([.ref x] ++ [.ref y])) (fun r s'=>r = .bool (!b) ∧ Q (.bool (!b)) s') E s:=by
    refine wpAny_call (codeAny_call_builtin F.cmp_object.ne.plain F.cmpEntry_ne (@check_slot (model prog w) _ _ s "object.__ne__" "object" "__ne__" (.ref x) [.ref y] [] _ F.cmpKind_ne F.cmpSplit_ne (I.type.andThen ((makes_of Xs H.mks).top)) (F.cmpArgs_ne _ _) ?_))
    unfold Builtin.«object.__ne__»
    refine wpAny_bind (wpAny_pure (a:=(Value.ref x,[Value.ref y])) (wpAny_bind (wpAny_cRoomFor rm.in1.clU (wpAny_bind (bound_k X₁ O i H.eq (H.fn _ (.tail _ (.tail _ (.tail _ (.head _))))) rm.in1 hr fun s' n'=>?_)))))
    exact wpAny_bind (wpAny_truthy_bool (wpAny_pure ⟨rfl,hq _ s' n' (.bool _)⟩))
  simp only [callSpecialIfBound?,bindSpecialIfBound?]
  refine wpAny_holding (wpAny_bind (wpAny_bind (wpAny_bind (I.type.here ((looks_findIn Xs H.ne).here ?_)))))
  refine wpAny_bind (wpAny_askSetting (wpAny_ite ?_))
  have fin:wpAny (model prog w) A (call (.builtin "object.__ne__") ([.ref x] ++ [.ref y]) >>= fun v=>pure (some v)) (fun r s'=>r = some (.bool (!b)) ∧ Q (.bool (!b)) s') E s:=wpAny_bind (wpAny_mono body (fun r s' h'=>wpAny_pure ⟨by rw [h'.1],h'.2⟩) fun _ _ h'=>h')
  rw [one_bind]
  split
  · exact wpAny_bind (wpAny_pure (wpAny_pure (by exact fin)))
  · exact wpAny_tryCatch (wpAny_bind (wpAny_pure (wpAny_pure (by exact fin))))
end
end
end Mine
end
section
open PySem PySem.W PyProof.Rows PySem.Calls PySem.Spec Builtin Builtin.ObjectAttr Builtin.Getset_descriptor
set_option maxRecDepth 100000
namespace Mine
section
theorem Room.underT {A:Around}{n:Nat}{a:Addr}{rest:List Value}{kw:List (Str × Value)}(r:Room A (n + 1)):Room (A.under (.builtin "type.__call__" ⟨.ref a :: rest,kw⟩)) n:=by
  have h1:(Code.builtin "type.__call__" ⟨.ref a :: rest,kw⟩).weight = 1:=by kernel_rfl
  have h2:(Code.builtin "type.__call__" ⟨.ref a :: rest,kw⟩).cUnits = 1:=by kernel_rfl
  exact ⟨by have:=r.depth; show A.depth + (Code.builtin "type.__call__" _).weight + n < _; rw [h1]; lia,by have:=r.units; show A.units + (Code.builtin "type.__call__" _).cUnits + 64 * n + 64 < _; rw [h2]; lia,r.handled⟩
theorem meth_init {w:World} : ∃ p1 p2 p3 p4,(meth w 0).2.1 = [.Assign [.Attribute (.Name "self" p1) "obj" p2] (.Name "obj" p3) p4]:=⟨_,_,_,_,rfl⟩
noncomputable def KNew (h h':Heap) (kc x:Addr) (v:Value):Prop:=∃ dx,h.get? x = none ∧ h.get? dx = none ∧ h'.get? x = some (instK kc dx v) ∧ h'.get? dx = some emptyDict
theorem KNew.inst {h h':Heap}{kc x:Addr}{v:Value}(i:KNew h h' kc x v):KInst h' kc x v:=let ⟨dx,_,_,e1,e2⟩:=i; ⟨dx,e1,e2⟩
section
variable {w:World}{h₁:Heap}{n:Nat}{K:Frag}{kc md fi f1 f2 f3 f4 f5:Addr}
theorem slot_fill {A:Around}{s:Shared}{x dx:Addr}{v:Value}{R:Result → Shared → Prop}(Xs:K.In s.heap) (hp:slotIn K md kc = some 0) (I:InstAt s.heap x (instObj kc dx) kc (some emptyDict))
    (h:R (.ok (.ret .none)) { s with heap:=s.heap.update x fun o=>{ o with slots:=(o.slots ++ Array.replicate (0 + 1 - o.slots.size) none).setIfInBounds 0 (some v) } }) :
    codeAny (model prog w) A (.call (.builtin "member_descriptor.__set__") ⟨[.ref md, .ref x,v],[]⟩) R s:=by
  obtain ⟨n,tn,owner,behind,tb,d,sl,cd,ho,hc,hm,hb,e⟩:=slot_of Xs hp
  obtain ⟨hh,g,dr,t,os⟩:=s
  have L0:=I.type (M:=model prog w)
  have L1:=looks_mroIn (M:=model prog w) Xs hm
  have L2:Looks (model prog w) hh (Slots.slotNamesOf (.ref kc)) cd.slotNames:=(looks_clsIn Xs hc).andThen .now
  have hx:=I.at_
  dsimp only at ho hx L0 L1
  have f0:=looks_field (M:=model prog w) ho 0 (v:=.str n tn) rfl
  have f1:=looks_field (M:=model prog w) ho 1 (v:=owner) rfl
  have f3:=looks_field (M:=model prog w) ho 3 (v:=.builtin "proto.slot#set") rfl
  have f4:=looks_field (M:=model prog w) ho 4 (v:=.int behind tb) rfl
  refine codeAny_call_builtin KF.slot_mset.plain KF.entry_mset (KF.slot_mset.check _ _ _ _ _ _ _ _ ⟨_,ho,rfl⟩ (KF.args_mset _ _ _) ?_)
  unfold Builtin.«member_descriptor.__set__» descrSet descrStoreThrough descrCheckInstance descrNameAndClass isInstance
  have f5:Looks (model prog w) hh (descrItself (.ref md)) [.ref md]:=((Looks.ld (part:=none) ho).andThen .now).andThen (Looks.of_pure (by kernel_rfl))
  repeat lk
  refine ⟨Code.quiet_builtin _ (by decide +kernel),codeAny_builtin KF.entry_slotset ?_⟩
  unfold Builtin.«proto.slot#set» Slots.target
  repeat lk
  rw [if_neg hb]
  refine wpAny_pure (wpAny_bind ?_)
  unfold setSlotAt
  dsimp only
  rw [← e,if_neg (by rw [sizeLine_eq]; lia)]
  exact wpAny_updatePart hx (wpAny_pure h)
theorem inst_new {A:Around}{X:List Addr}{s:Shared}{v:Value}{as:List Addr}{q:Str}{Q:Value → Shared → Prop}{E:Value → Shared → Prop}(G:Gr w h₁) (X₁:K.In h₁) (H:KH K kc md fi f1 f2 f3 f4 f5) (m:KM w h₁ as fi 0 "__init__" q []) (O:Op h₁ X s) (rm:Room A 3)
    (hQ:∀ x h' tk,(∀ b o,s.heap.get? b = some o → h'.get? b = some o) → KNew s.heap h' kc x v → Q (.ref x) { s with heap:=h',toks:=tk }):wpAny (model prog w) A (call (.ref kc) [v]) Q E s:=by
  obtain ⟨c',oc,ctv,doc,pm,m1,m2,e1,e2,vs,t,hd,hq⟩:=m
  obtain ⟨p1,p2,p3,p4,hs⟩:=meth_init (w:=w)
  rw [hs] at e1
  obtain ⟨hh,g,d,tk,os⟩:=s
  have Xs:=X₁.keeps O.gi.keep
  refine wpAny_call (make_core (makes_of Xs H.mks) (looks_findIn Xs H.init) (fun self=>bind_fn Xs self (H.fn _ (.head _))) (.inl rfl) ?_)
  have k:∀ b o,hh.get? b = some o → ((hh.push emptyDict).push (instObj kc hh.objs.size)).get? b = some o:=fun b o e=>Heap.get?_push_of_some _ (Heap.get?_push_of_some _ e)
  have hx:((hh.push emptyDict).push (instObj kc hh.objs.size)).get? (hh.objs.size + 1) = some (instObj kc hh.objs.size):=by heap_get
  have hdx:((hh.push emptyDict).push (instObj kc hh.objs.size)).get? hh.objs.size = some emptyDict:=by heap_get
  refine codeAny_call_function rm.underT.lt (k _ _ (O.gi.keep _ _ e1)) rfl rfl rfl rfl ⟨_,oc,vs,t,rfl,k _ _ (O.gi.keep _ _ e2),hd,hq⟩ ?_
  have hb:bindArgs (fnX "__init__" q (meth w 0).1 [.Assign [.Attribute (.Name "self" p1) "obj" p2] (.Name "obj" p3) p4] (meth w 0).2.2 [] .none .none doc pm none (.ref c') ctv) ⟨[.ref (hh.objs.size + 1),v],[]⟩ = pure [(("self" : Str), .ref (hh.objs.size + 1)),(("obj" : Str),v)]:=by kernel_rfl
  rw [hb]
  refine wpAny_pure (wpAny_newFunctionEnv (fun z hz=>by have:=List.all_eq_true.mp (show ((meth w 0).2.2.names.all fun z=>z.2 != .cell) = true by kernel_rfl) z hz; simpa using this) (fun z hz=>?_) (fun h₂ hns hsb=>⟨(G.lim.keeps fun b o e=>k b o (O.gi.keep b o e)).fresh _ hsb, ?_⟩) rfl)
  · rcases List.mem_cons.mp hz with rfl | hz
    · kernel_rfl
    · rw [List.mem_singleton.mp hz]; kernel_rfl
  have kp:∀ b o,((hh.push emptyDict).push (instObj kc hh.objs.size)).get? b = some o → h₂.get? b = some o:=fun b o e=>hsb.extBut b o (Nat.ne_of_lt (Heap.lt_size e)) (Heap.get?_push_of_some _ e)
  have X2:K.In h₂:=fun a o e=>kp _ _ (k _ _ (Xs a o e))
  have hx2:=kp _ _ hx
  have hdx2:=kp _ _ hdx
  have I2:InstAt h₂ (hh.objs.size + 1) (instObj kc hh.objs.size) kc (some emptyDict):=⟨hx2,rfl,rfl,hdx2⟩
  have xN:hh.get? (hh.objs.size + 1) = none:=Heap.get?_none_of_le (Nat.le_succ _)
  refine codeAny_func (wpAny_execs_cons (plainObj_wpAny_Assign_Attribute (wpAny_Name (wpAny_loadName_local rfl (by kernel_rfl) hns (v:=v) (by rfl) (wpAny_Name (wpAny_loadName_local rfl (by kernel_rfl) hns (v:=.ref (hh.objs.size + 1)) (by rfl) ?_) rfl)) rfl) rfl))
  refine set_plain X2 I2 H.hs (osa_descr KF.slot_mset X2 I2 H.po H.tk H.hT (slot_fill X2 H.hp I2 (wpAny_execs_nil ?_)))
  refine ⟨rfl,hQ _ _ _ (fun b o e=>?_) ⟨hh.objs.size,xN,Heap.get?_none_of_le (Nat.le_refl _), ?_, ?_⟩⟩
  · rw [Heap.get?_update_ne _ _ _ _ (fun z=>by rw [z,xN] at e; cases e)]
    exact kp _ _ (k _ _ e)
  · exact Heap.get?_update_self _ hx2 rfl
  · rw [Heap.get?_update_ne _ _ _ _ (Nat.ne_of_lt (Nat.lt_succ_self _))]
    exact hdx2
end
end
end Mine
end
section
open PySem PySem.W PyProof.Rows PySem.Calls PySem.Spec
set_option maxRecDepth 100000
namespace Mine
section
inductive KUse (w:World) (h:Heap) (L kc:Addr):Prop
  | mk (cc:Addr) (as:List Addr) (k:KTell w cc kc as h) (c:h.IsCell cc (some (.ref L))):KUse w h L kc
theorem KUse.keep {w:World}{h h':Heap}{L kc:Addr}(x:KUse w h L kc) (k:∀ b o,h.get? b = some o → h'.get? b = some o):KUse w h' L kc:=let ⟨cc,as,e1,e2⟩:=x; ⟨cc,as,e1.keep fun b _ o e=>k b o e,kaf e2 fun o e=>k _ o e⟩
section
variable {w:World}{h₁:Heap}{n:Nat}
theorem CmpR.up {op:CmpOp}{a b:D}{c:Bool}(h:CmpR w h₁ n op a b c):CmpR w h₁ (n + 1) op a b c:=fun A X s va vb rm=>h A X s va vb (rm.down (Nat.le_succ _))
theorem k_new {A:Around}{X:List Addr}{s:Shared}{L kc:Addr}{v:Value}{Q:Value → Shared → Prop}{E:Value → Shared → Prop}(G:Gr w h₁) (k:KUse w h₁ L kc) (O:Op h₁ X s) (rm:Room A 3)
    (hQ:∀ x h' tk,(∀ b o,s.heap.get? b = some o → h'.get? b = some o) → KNew s.heap h' kc x v → Q (.ref x) { s with heap:=h',toks:=tk }):wpAny (model prog w) A (call (.ref kc) [v]) Q E s:=by
  obtain ⟨cc,as,tell,_⟩:=k
  obtain ⟨K,md,fi,f1,f2,f3,f4,f5,X₁,H,m,_⟩:=tell.open
  exact inst_new G X₁ H m O rm hQ
theorem k_ops {L kc x y:Addr}{v u:Value}{z:Int}(G:Gr w h₁) (k:KUse w h₁ L kc) (hL:Cal h₁ (.ref L)) (i:KInst h₁ kc x v) (j:KInst h₁ kc y u) (hv:handedIn v = true) (hu:handedIn u = true) (hr:CallR w h₁ n (.ref L) [.val v, .val u] (.int z)) :
    (CmpR w h₁ (n + 2) .Lt (.val (.ref x)) (.val (.ref y)) (decide (z < 0)) ∧ CmpR w h₁ (n + 2) .LtE (.val (.ref x)) (.val (.ref y)) (decide (z ≤ 0)) ∧ CmpR w h₁ (n + 2) .Eq (.val (.ref x)) (.val (.ref y)) (z == 0) ∧
      CmpR w h₁ (n + 2) .NotEq (.val (.ref x)) (.val (.ref y)) (!(z == 0)) ∧ CmpR w h₁ (n + 2) .GtE (.val (.ref x)) (.val (.ref y)) (decide (0 ≤ z)) ∧ CmpR w h₁ (n + 2) .Gt (.val (.ref x)) (.val (.ref y)) (decide (0 < z))) ∧
    ∀ A X s (Q:Bool → Shared → Prop) E,Op h₁ X s → Room A (n + 1) → (∀ s',Nx h₁ s s' → Q (decide (z < 0)) s') → wpAny (model prog w) A (keyLt' oneType' (.ref x) (.ref y)) Q E s:=by
  obtain ⟨cc,as,tell,hc⟩:=k
  obtain ⟨K,md,fi,f1,f2,f3,f4,f5,X₁,H,m,m1,m2,m3,m4,m5⟩:=tell.open
  have cells:∀ {l:List (Str × NameKind)},(l.all fun z=>z.2 != .cell) = true → ∀ z ∈ l,z.2 ≠ .cell:=fun h z hz=>by
    have:=List.all_eq_true.mp h z hz
    simpa using this
  have r1:=kji (b:=decide (z < 0)) X₁ H G m1 ⟨_,_,_,_,_,_,_,_,_,_,rfl⟩ (fun _ _ _ _ _ _=>by kernel_rfl) (by kernel_rfl) (by kernel_rfl) (by kernel_rfl) (cells (by kernel_rfl)) hc hL i j hv hu hr cmp_lt_int (fun _ _=>rfl)
  have r2:=kji (b:=decide (0 < z)) X₁ H G m2 ⟨_,_,_,_,_,_,_,_,_,_,rfl⟩ (fun _ _ _ _ _ _=>by kernel_rfl) (by kernel_rfl) (by kernel_rfl) (by kernel_rfl) (cells (by kernel_rfl)) hc hL i j hv hu hr khe (fun _ _=>rfl)
  have r3:=kji (b:=(z == 0)) X₁ H G m3 ⟨_,_,_,_,_,_,_,_,_,_,rfl⟩ (fun _ _ _ _ _ _=>by kernel_rfl) (by kernel_rfl) (by kernel_rfl) (by kernel_rfl) (cells (by kernel_rfl)) hc hL i j hv hu hr kb9 (fun _ _=>rfl)
  have r4:=kji (b:=decide (z ≤ 0)) X₁ H G m4 ⟨_,_,_,_,_,_,_,_,_,_,rfl⟩ (fun _ _ _ _ _ _=>by kernel_rfl) (by kernel_rfl) (by kernel_rfl) (by kernel_rfl) (cells (by kernel_rfl)) hc hL i j hv hu hr cmp_le_int (fun _ _=>rfl)
  have r5:=kji (b:=decide (0 ≤ z)) X₁ H G m5 ⟨_,_,_,_,_,_,_,_,_,_,rfl⟩ (fun _ _ _ _ _ _=>by kernel_rfl) (by kernel_rfl) (by kernel_rfl) (by kernel_rfl) (cells (by kernel_rfl)) hc hL i j hv hu hr cmp_ge_int (fun _ _=>rfl)
  have fn:∀ f ∈ [fi,f1,f2,f3,f4,f5],typeIn K (.ref f) = some (.type "function"):=H.fn
  refine ⟨⟨(cmp_k (op:=.Lt) X₁ i j H.lt (H.fn _ (by simp)) r1 fun _ _=>rfl).up,(cmp_k (op:=.LtE) X₁ i j H.le (H.fn _ (by simp)) r4 fun _ _=>rfl).up,(cmp_k (op:=.Eq) X₁ i j H.eq (H.fn _ (by simp)) r3 fun _ _=>rfl).up,cmp_ne X₁ H i j r3,(cmp_k (op:=.GtE) X₁ i j H.ge (H.fn _ (by simp)) r5 fun _ _=>rfl).up,(cmp_k (op:=.Gt) X₁ i j H.gt (H.fn _ (by simp)) r2 fun _ _=>rfl).up⟩, ?_⟩
  exact fun A X s Q E O rm hq=>key_lt X₁ H O i rm r1 hq
end
end
section
theorem GI.but {h₀:Heap}{s:Shared}{h':Heap}{tk:Nat}{a:Addr}{c:String}{xs:Array Value}{n:Nat}(G:GI h₀ s) (hs:Heap.SameBut a s.heap h') (h0:h₀.get? a = none) (hT:a ≠ Tb) (ha:s.heap.get? a = some (seqObj c xs n)):GI h₀ { s with heap:=h',toks:=tk }:=by
  refine ⟨fun b o e=>(hs.2 b fun q=>by rw [q,h0] at e; cases e).trans (G.keep b o e), ?_,G.off⟩
  obtain ⟨ps,e,x⟩:=G.tab
  refine ⟨ps,(hs.2 _ (Ne.symm hT)).trans e, ?_⟩
  rcases x with x | ⟨c',hne,e1,c2,o,vs,t,e2,g,hd,r⟩
  · exact .inl x
  · cases e2
    exact .inr ⟨_,hne,e1,_,o,vs,t,rfl,(hs.2 _ fun q=>by rw [q,ha] at g; cases g; cases hd).trans g,hd,r⟩
theorem KInst.but {h h':Heap}{kc x a:Addr}{v:Value}{xs:Array Value}{n:Nat}(i:KInst h kc x v) (hs:Heap.SameBut a h h') (ha:h.get? a = some (seqObj "list" xs n)):KInst h' kc x v:=by
  obtain ⟨dx,e1,e2⟩:=i
  refine ⟨dx,(hs.2 _ fun z=>?_).trans e1,(hs.2 _ fun z=>?_).trans e2⟩
  · rw [z,ha] at e1
    exact absurd (congrArg Obj.cls (Option.some.inj e1)) (by simp)
  · rw [z,ha] at e2
    exact absurd (congrArg Obj.cls (Option.some.inj e2)) (by simp)
section
variable {w:World}{A:Around}{E:Value → Shared → Prop}{h₂:Heap}{kc a kS:Addr}{vs:List Value}{ks:List Addr}{lt:Nat → Nat → Bool}{s:Shared}{P:PySem.Fin → Shared → Prop}
theorem ks_end {e e1:Nat}{r:Array Nat}(hr:kasRun lt (kas_sort 5) = r) (hk:ks.length = 5) (hv:vs.length = 5) (hok:s.heap.get? kS = some (seqObj "list" (ks.map Value.ref).toArray e)) (hoa:s.heap.get? a = some (seqObj "list" #[] e1)) (hne:kS ≠ a) (hkT:kS ≠ Tb) (haT:a ≠ Tb) (gi:GI h₂ s)
    (inst:∀ x ∈ ks, ∃ v,KInst s.heap kc x v)
    (cmp:∀ i j s' (Q:Bool → Shared → Prop),i < 5 → j < 5 → Nx h₂ s s' → (∀ s'',Nx h₂ s' s'' → Q (lt i j) s'') → wpAny (model prog w) A (keyLt' oneType' (.ref (ks.getD i 0)) (.ref (ks.getD j 0))) Q (fun _ _=>False) s')
    (hP:∀ s3 h' c,Nx h₂ s s3 → (∀ b o,b ≠ kS → b ≠ a → s3.heap.get? b = some o → h'.get? b = some o) → h'.get? a = some (seqObj "list" (r.toList.map fun i=>vs.getD i .none).toArray c) → P (.done (.ret .none)) { s3 with heap:=h' }) :
    wpAny (model prog w) A (ksk_end a false vs.toArray e1 (.ref kS) (ks.map Value.ref).toArray) P E s:=by
  have hsz:(ks.map Value.ref).toArray.size = vs.length:=by rw [List.size_toArray,List.length_map,hk,hv]
  have hzs:((ks.map Value.ref).toArray.zip vs.toArray).size = 5:=by rw [Array.size_zip,hsz,List.size_toArray,Nat.min_self,hv]
  have h2:¬ vs.toArray.size < 2:=by rw [List.size_toArray,hv]; decide
  have item:∀ i,i < 5 → kas_item ((ks.map Value.ref).toArray.zip vs.toArray) i = (.ref (ks.getD i 0),vs.getD i .none):=fun i hi=>by
    have q:i < ((ks.map Value.ref).toArray.zip vs.toArray).size:=by rw [hzs]; exact hi
    have q1:i < ks.length:=by lia
    have q2:i < vs.length:=by lia
    unfold kas_item
    have q3:i < min ks.length vs.length:=by lia
    simp [Array.getD,q1,q2,q3]
  unfold ksk_end
  try dsimp only
  simp only [Bool.false_eq_true,if_false]
  rw [if_neg h2,if_neg h2]
  refine wpAny_bind (kas_kind (T:=.ref kc) (by rw [List.length_map,hk]; decide) (fun v hv'=>?_) (by simp) (by simp) ?_)
  · obtain ⟨x,hx,rfl⟩:=List.mem_map.mp hv'
    obtain ⟨v,i⟩:=inst x hx
    obtain ⟨dx,I⟩:=i.at'
    exact I.type
  have est:SortSt.mk' oneType' ((ks.map Value.ref).toArray.zip vs.toArray) #[] 7 none = kas_st oneType' ((ks.map Value.ref).toArray.zip vs.toArray) (List.toArray (List.range 5)):=by
    have e:=kas_range ((ks.map Value.ref).toArray.zip vs.toArray)
    rw [hzs] at e
    show SortSt.mk' oneType' ((ks.map Value.ref).toArray.zip vs.toArray) #[] 7 none = SortSt.mk' oneType' ((List.toArray (List.range 5)).map (kas_item ((ks.map Value.ref).toArray.zip vs.toArray))) #[] 7 none
    rw [e]
  have ask:(kas_sort 5).kasWp (kas_cmp prog w A oneType' ((ks.map Value.ref).toArray.zip vs.toArray)) (fun p s'=>p = r ∧ Nx h₂ s s') s :=
    kjh (I:=fun s'=>Nx h₂ s s') (fun i j C s' hi hj n' hC=>by
      unfold kas_cmp
      rw [item i hi,item j hj]
      exact cmp i j s' C hi hj n' fun s'' n''=>hC s'' (n'.trans n'')) _ s sort_ok (.refl gi) fun s' n'=>⟨hr,n'⟩
  have run:=kas_runs (E:=E) (Q:=fun _ st' s'=>arrOf st' = r.map (kas_item ((ks.map Value.ref).toArray.zip vs.toArray)) ∧ failedOf st' = none ∧ Nx h₂ s s' ∧ r.size = 5)
    (n:=5) (by decide) (by decide) (fun p' st' s' a1 a2 a3 a4=>⟨by rw [a2,a4.1],a3,a4.2,by rw [← a4.1]; exact a1⟩) ask
  rw [← est] at run
  refine wpAny_bind (wpAny_mono run ?_ fun _ _ e=>e)
  rintro ⟨⟨⟩,st'⟩ s' ⟨har,hf,n',hps⟩
  try dsimp only
  have nk:s'.heap.get? kS = some (seqObj "list" (ks.map Value.ref).toArray e):=n'.1.get hkT hok
  have na:s'.heap.get? a = some (seqObj "list" #[] e1):=n'.1.get haT hoa
  have hout:(arrOf st').map (·.2) = List.toArray (r.toList.map fun i=>vs.getD i Value.none):=by
    apply Array.toList_inj.mp
    rw [har,Array.map_map,Array.toList_map]
    refine List.map_congr_left fun i hi=>?_
    show (kas_item _ i).2 = _
    by_cases q:i < 5
    · rw [item i q]
    · have q1:¬ i < ((ks.map Value.ref).toArray.zip vs.toArray).size:=by rw [hzs]; exact q
      have q2:¬ i < vs.length:=by lia
      unfold kas_item
      rw [List.getD_eq_getElem?_getD,List.getElem?_eq_none (by lia)]
      simp only [Array.getD,q1,dite_false]; rfl
  have s1:=Heap.SameBut.update s'.heap kS (Obj.mapSeq fun _=>(#[]:Array Value))
  have na1:(s'.heap.update kS (Obj.mapSeq fun _=>(#[]:Array Value))).get? a = some (seqObj "list" #[] e1):=(s1.2 a (Ne.symm hne)).trans na
  obtain ⟨out,hout'⟩ : ∃ out,out = (arrOf st').map (·.2):=⟨_,rfl⟩
  rw [← hout'] at hout
  have s2:=Heap.SameBut.update (s'.heap.update kS (Obj.mapSeq fun _=>(#[]:Array Value))) a (Obj.mapSeq fun _=>out)
  obtain ⟨c2,hc2⟩ : ∃ c2,((s'.heap.update kS (Obj.mapSeq fun _=>(#[]:Array Value))).update a (Obj.mapSeq fun _=>out)).get? a = some (seqObj "list" (out) c2):=⟨_,get?_update_seq na1 fun _=>out⟩
  unfold ksk_tail
  try dsimp only
  refine wpAny_bind (listUpdate_at nk rfl ?_ (by rw [hsz,hv,sizeLine_eq]; lia) (Nat.zero_le _))
  refine wpAny_bind (wpAny_letGo ?_)
  refine wpAny_bind (seqEpoch_at na1 rfl ?_)
  try rw [← hout']
  refine wpAny_bind (listUpdate_at na1 rfl ?_ (Nat.zero_le _) ?_)
  · rw [hf]
    simp only [bne_self_eq_false,Bool.false_eq_true,if_false]
    refine wpAny_pure (hP s' _ c2 n' (fun b o h1 h2 q=>(s2.2 b h2).trans ((s1.2 b h1).trans q)) ?_)
    exact hc2.trans (by rw [hout])
  · show out.size ≤ _
    rw [hout',Array.size_map,har,Array.size_map,hps,sizeLine_eq]; lia
end
end
section
section
variable {w:World}{A:Around}{E:Value → Shared → Prop}{h₁:Heap}{L kc a kS:Addr}{vs:List Value}{s:Shared}{P:PySem.Fin → Shared → Prop}{X:List Addr}
theorem ks_loop {e1:Nat}(G:Gr w h₁) (k:KUse w h₁ L kc) (O:Op h₁ X s) (rm:Room A 3) (hv:vs.length = 5) (hok:s.heap.get? kS = some (seqObj "list" #[] 0)) (h0:h₁.get? kS = none)
    (next:∀ (ks:List Addr) (e:Nat) (h':Heap) (tk:Nat),(∀ b o,b ≠ kS → s.heap.get? b = some o → h'.get? b = some o) → h'.get? kS = some (seqObj "list" (ks.map Value.ref).toArray e) → ks.length = 5 → (∀ (i:Nat) (x:Addr) (v:Value),ks[i]? = some x → vs[i]? = some v → KInst h' kc x v) → Op h₁ X { s with heap:=h',toks:=tk } →
      wpAny (model prog w) A (ksk_end a false vs.toArray e1 (.ref kS) (ks.map Value.ref).toArray) P E { s with heap:=h',toks:=tk }):wpAny (model prog w) A (ksk_rest a (.ref kc) false vs.toArray e1 (.ref kS)) P E s:=by
  have hkT:kS ≠ Tb:=fun z=>by
    obtain ⟨ps,e,_⟩:=O.gi.tab
    rw [z,e] at hok; cases hok
  unfold ksk_rest
  refine wpAny_bind (wpAny_rule ?_)
  rw [List.forIn_toArray]
  refine wpAny_bind (ksk_fold (fun i s'=>∃ (ks:List Addr) (e:Nat) (h':Heap) (tk:Nat),s' = { s with heap:=h',toks:=tk } ∧ (∀ b o,b ≠ kS → s.heap.get? b = some o → h'.get? b = some o) ∧ h'.get? kS = some (seqObj "list" (ks.map Value.ref).toArray e) ∧ ks.length = i ∧ (∀ (i:Nat) (x:Addr) (v:Value),ks[i]? = some x → vs[i]? = some v → KInst h' kc x v) ∧ Op h₁ X s') vs 0 s
    ⟨[],0,s.heap,s.toks,rfl,fun _ _ _ e=>e,hok,rfl,(fun i x v e=>by simp at e),O⟩ ?step ?done)
  case step =>
    rintro j v s' hx ⟨ks,e,h',tk,rfl,kp,hk,hl,inst,O'⟩
    have hj:j < vs.length:=(List.getElem?_eq_some_iff.mp hx).1
    refine wpAny_bind (wpAny_attempt (k_new G k O' rm fun x g tk2 kg i=>?_))
    try dsimp only
    have nk:=kg _ _ hk
    have s1:=Heap.SameBut.update g kS (Obj.mapSeq (·.push (.ref x)))
    obtain ⟨c2,hc2⟩ : ∃ c2,(g.update kS (Obj.mapSeq (·.push (.ref x)))).get? kS = some (seqObj "list" ((ks.map Value.ref).toArray.push (.ref x)) c2):=⟨_,get?_update_seq nk (·.push (.ref x))⟩
    have ea:(ks.map Value.ref).toArray.push (.ref x) = ((ks ++ [x]).map Value.ref).toArray:=by simp
    rw [ea] at hc2
    have sz:(ks.map Value.ref).toArray.size ≤ 5:=by rw [List.size_toArray,List.length_map]; lia
    refine wpAny_bind (listUpdate_at nk rfl ?_ (by rw [sizeLine_eq]; lia) (Nat.le_trans (Nat.le_of_eq (Array.size_push ..)) (by rw [sizeLine_eq]; lia)))
    have gi:GI h₁ { s with heap:=g,toks:=tk2 }:=O'.gi.keeps kg
    refine wpAny_pure ⟨rfl,ks ++ [x],c2,_,tk2,rfl,fun b o hb q=>(s1.2 b hb).trans (kg _ _ (kp b o hb q)),hc2,by rw [List.length_append,hl]; rfl,fun i' x' v' e1 e2=>?_,GI.but gi s1 h0 hkT nk,O'.tabX,kdc s1 ⟨_,hc2⟩ fun b hb=>let ⟨o,q⟩:=O'.al b hb; ⟨o,kg b o q⟩⟩
    by_cases q:i' < ks.length
    · rw [List.getElem?_append_left q] at e1
      exact ((inst i' x' v' e1 e2).keep kg).but s1 nk
    · rw [List.getElem?_append_right (by lia)] at e1
      have q0:i' = ks.length:=by
        obtain ⟨z,_⟩:=List.getElem?_eq_some_iff.mp e1
        simp at z; lia
      have q1:x' = x:=by rw [q0] at e1; simpa using e1.symm
      have q2:v' = v:=by
        have:i' = 0 + j:=by lia
        rw [q0.trans hl,Nat.zero_add] at e2
        rw [hx] at e2; exact (Option.some.inj e2).symm
      rw [q1,q2]
      exact i.inst.but s1 nk
  case done =>
    rintro s' ⟨ks,e,h',tk,rfl,kp,hk,hl,inst,O'⟩
    try dsimp only
    refine wpAny_bind (listItems_at hk rfl ?_)
    exact next ks e h' tk kp hk (by rw [hl,hv]) inst O'
end
end
section
theorem Cal.up {h₀ h₁:Heap}{f:Value}(c:Cal h₀ f) (k:∀ b o,h₀.get? b = some o → h₁.get? b = some o):Cal h₁ f:=by
  rcases c with c | c | ⟨a,o,fd,e,q,d⟩
  · exact .inl c
  · exact .inr (.inl c)
  · exact .inr (.inr ⟨a,o,fd,e,k _ _ q,d⟩)
theorem GI.two {h₀:Heap}{s:Shared}{h':Heap}{a c:Addr}{xs ys:Array Value}{n m:Nat}(G:GI h₀ s) (k:∀ b o,b ≠ a → b ≠ c → s.heap.get? b = some o → h'.get? b = some o) (ha0:h₀.get? a = none) (hc0:h₀.get? c = none) (haT:a ≠ Tb) (hcT:c ≠ Tb)
    (ha:s.heap.get? a = some (seqObj "list" xs n)) (hc:s.heap.get? c = some (seqObj "list" ys m)):GI h₀ { s with heap:=h' }:=by
  refine ⟨fun b o e=>k b o (fun q=>by rw [q,ha0] at e; cases e) (fun q=>by rw [q,hc0] at e; cases e) (G.keep b o e), ?_,G.off⟩
  obtain ⟨ps,e,x⟩:=G.tab
  refine ⟨ps,k _ _ (Ne.symm haT) (Ne.symm hcT) e, ?_⟩
  rcases x with x | ⟨c',hne,e1,c2,o,vs,t,e2,g,hd,r⟩
  · exact .inl x
  · cases e2
    exact .inr ⟨_,hne,e1,_,o,vs,t,rfl,k _ _ (fun q=>by rw [q,ha] at g; cases g; cases hd) (fun q=>by rw [q,hc] at g; cases g; cases hd) g,hd,r⟩
theorem KInst.snap {s:Shared}{kc x:Addr}{v:Value}{h₀:Heap}(i:KInst s.heap kc x v) (G:GI h₀ s):KInst (snap s) kc x v:=by
  obtain ⟨dx,e1,e2⟩:=i
  obtain ⟨ps,e,_⟩:=G.tab
  refine ⟨dx,kbn (fun z=>?_) e1,kbn (fun z=>?_) e2⟩
  · rw [z,e] at e1
    exact absurd (congrArg Obj.cls (Option.some.inj e1)) (by simp)
  · rw [z,e] at e2
    exact absurd (congrArg Obj.data (Option.some.inj e2)) (by simp)
section
variable {w:World}{A:Around}{E:Value → Shared → Prop}{h₁:Heap}{L kc l:Addr}{vs:List Value}{s:Shared}{X:List Addr}{n:Nat}{z:Nat → Nat → Int}
theorem sorted_k {Q:Value → Shared → Prop}(G:Gr w h₁) (k:KUse w h₁ L kc) (hL:Cal h₁ (.ref L)) (O:Op h₁ X s) (rm:Room A (n + 5)) (hl:s.heap.IsList l vs.toArray) (hv:vs.length = 5) (hnd:∀ v ∈ vs,handedIn v = true)
    (ans:∀ h₂ i j v u,(∀ b o,h₁.get? b = some o → h₂.get? b = some o) → vs[i]? = some v → vs[j]? = some u → CallR w h₂ n (.ref L) [.val v, .val u] (.int (z i j)))
    (hQ:∀ D h' tk c,(∀ b o,b ≠ Tb → s.heap.get? b = some o → h'.get? b = some o) → GI h₁ { s with heap:=h',toks:=tk } → s.heap.get? D = none → h'.get? D = some (seqObj "list" ((kasRun (fun i j=>decide (z i j < 0)) (kas_sort 5)).toList.map fun i=>vs.getD i .none).toArray c) → Q (.ref D) { s with heap:=h',toks:=tk }) :
    wpAny (model prog w) A (call (.builtin "sorted") [.ref l] [(Str.ofString "key", .ref kc)]) Q E s:=by
  obtain ⟨r,hr⟩ : ∃ r,kasRun (fun i j=>decide (z i j < 0)) (kas_sort 5) = r:=⟨_,rfl⟩
  rw [hr] at hQ
  have new:∀ b,s.heap.objs.size ≤ b → s.heap.get? b = none:=fun b hb=>Heap.get?_none_of_le hb
  have new1:∀ b,s.heap.objs.size ≤ b → h₁.get? b = none:=fun b hb=>by
    cases q:h₁.get? b with
    | none=>rfl
    | some o=>have:=O.gi.keep _ _ q; rw [new b hb] at this; cases this
  have newT:∀ b,s.heap.objs.size ≤ b → b ≠ Tb:=fun b hb z=>by
    obtain ⟨ps,e,_⟩:=O.gi.tab
    rw [← z,new b hb] at e; cases e
  refine call_function_entry_kw kind_sorted plain_sorted entry_sorted (ksk_s1 _ _) ?_
  unfold Builtin.«sorted»
  refine wpAny_bind (m:=checkCount "sorted" 1 1 _) (wpAny_pure ?_)
  refine wpAny_bind (collect_list hl ?_ (by rw [hv,sizeLine_eq]; lia))
  refine wpAny_bind (wpAny_newList ?_ (by rw [hv,sizeLine_eq]; lia))
  have hsz:((s.heap.push (seqObj "list" #[] 0)).update s.heap.objs.size (Obj.mapSeq (· ++ vs.toArray))).objs.size = s.heap.objs.size + 1:=by
    rw [Heap.size_update,size_push']
  have hoL:(((s.heap.push (seqObj "list" #[] 0)).update s.heap.objs.size (Obj.mapSeq (· ++ vs.toArray))).push (seqObj "list" vs.toArray 0)).get? (s.heap.objs.size + 1) = some (seqObj "list" vs.toArray 0):=by
    rw [← hsz]; exact Heap.get?_push_size _ rfl
  have keep:∀ b o,s.heap.get? b = some o → (((s.heap.push (seqObj "list" #[] 0)).update s.heap.objs.size (Obj.mapSeq (· ++ vs.toArray))).push (seqObj "list" vs.toArray 0)).get? b = some o:=fun b o q=>by
    have hlt:b < s.heap.objs.size:=Heap.lt_size q
    rw [Heap.get?_push_ne _ _ _ (by rw [hsz]; exact Nat.ne_of_lt (Nat.lt_succ_of_lt hlt)),Heap.get?_update_ne _ _ _ _ (Nat.ne_of_lt hlt),Heap.get?_push_ne _ _ _ (Nat.ne_of_lt hlt)]
    exact q
  show wpAny _ _ _ _ _ { s with heap:=((s.heap.push (seqObj "list" #[] 0)).update s.heap.objs.size (Obj.mapSeq (· ++ vs.toArray))).push (seqObj "list" vs.toArray 0) }
  rw [hsz]
  have hsA:(((s.heap.push (seqObj "list" #[] 0)).update s.heap.objs.size (Obj.mapSeq (· ++ vs.toArray))).push (seqObj "list" vs.toArray 0)).objs.size = s.heap.objs.size + 2:=by rw [size_push',hsz]
  generalize (((s.heap.push (seqObj "list" #[] 0)).update s.heap.objs.size (Obj.mapSeq (· ++ vs.toArray))).push (seqObj "list" vs.toArray 0)) = hA at hoL keep hsA ⊢
  refine wpAny_bind (wpAny_holding (wpAny_call_entry_kw slot_list_sort ⟨_,hoL,rfl⟩ entry_list_sort ?body (ksk_l1 _ _)))
  show wpAny (model prog w) A.in1.in1 (Builtin.«list.sort» ⟨[.ref (s.heap.objs.size + 1)],[(Str.ofString "key", .ref kc)]⟩) _ _ _
  rw [ksk_t1]
  have s1:=Heap.SameBut.update hA (s.heap.objs.size + 1) (Obj.mapSeq fun _=>(#[]:Array Value))
  obtain ⟨e1,ho1⟩ : ∃ e1,(hA.update (s.heap.objs.size + 1) (Obj.mapSeq fun _=>(#[]:Array Value))).get? (s.heap.objs.size + 1) = some (seqObj "list" #[] e1):=⟨_,get?_update_seq hoL fun _=>#[]⟩
  have hkS:((hA.update (s.heap.objs.size + 1) (Obj.mapSeq fun _=>(#[]:Array Value))).push (seqObj "tuple" vs.toArray 0)).objs.size = s.heap.objs.size + 3:=by rw [size_push',Heap.size_update,hsA]
  unfold ksk_tree
  refine wpAny_bind (listItems_at hoL rfl ?_)
  refine wpAny_bind (listUpdate_at hoL rfl ?_ (by rw [List.size_toArray,hv,sizeLine_eq]; lia) (Nat.zero_le _))
  refine wpAny_bind (seqEpoch_at ho1 rfl ?_)
  refine wpAny_bind (wpAny_newTuple ?_ (by show vs.length ≤ _; rw [hv,sizeLine_eq]; lia))
  refine wpAny_bind (wpAny_newList ?_ (Nat.zero_le _))
  refine wpAny_holding ?_
  rw [hkS]
  have keepB:∀ b o,s.heap.get? b = some o → (((hA.update (s.heap.objs.size + 1) (Obj.mapSeq fun _=>(#[]:Array Value))).push (seqObj "tuple" vs.toArray 0)).push (seqObj "list" #[] 0)).get? b = some o:=fun b o q =>
    Heap.get?_push_of_some _ (Heap.get?_push_of_some _ ((s1.2 b (Nat.ne_of_lt (Nat.lt_succ_of_lt (Heap.lt_size q)))).trans (keep b o q)))
  have hoa:=Heap.get?_push_of_some (seqObj "list" #[] 0) (Heap.get?_push_of_some (seqObj "tuple" vs.toArray 0) ho1)
  have hok:(((hA.update (s.heap.objs.size + 1) (Obj.mapSeq fun _=>(#[]:Array Value))).push (seqObj "tuple" vs.toArray 0)).push (seqObj "list" #[] 0)).get? (s.heap.objs.size + 3) = some (seqObj "list" #[] 0):=by
    rw [← hkS]; exact Heap.get?_push_size _ rfl
  show wpAny (model prog w) A.in1.in1 _ _ _ { s with heap:=(((hA.update (s.heap.objs.size + 1) (Obj.mapSeq fun _=>(#[]:Array Value))).push (seqObj "tuple" vs.toArray 0)).push (seqObj "list" #[] 0)) }
  generalize (((hA.update (s.heap.objs.size + 1) (Obj.mapSeq fun _=>(#[]:Array Value))).push (seqObj "tuple" vs.toArray 0)).push (seqObj "list" #[] 0)) = hB at keepB hoa hok ⊢
  have OB:Op h₁ X { s with heap:=hB }:=⟨O.gi.keeps (tk:=s.toks) keepB,O.tabX,fun a ha=>let ⟨o,q⟩:=O.al a ha; ⟨o,keepB _ _ q⟩⟩
  have hne:s.heap.objs.size + 3 ≠ s.heap.objs.size + 1:=by lia
  refine ks_loop G k OB (rm.in1.in1.down (by lia)) hv hok (new1 _ (Nat.le_add_right _ _)) fun ks e h' tk kp hk hlk inst O2=>?_
  have gi2:=O2.gi.snap
  have up2:=khx O2.gi
  refine ks_end (kc:=kc) (h₂:=snap { s with heap:=h',toks:=tk }) (lt:=fun i j=>decide (z i j < 0)) hr hlk hv hk (kp _ _ hne.symm hoa) hne (newT _ (Nat.le_add_right _ _)) (newT _ (Nat.le_add_right _ _)) gi2 (fun x hx=>?_) (fun i j s' Q' hi hj n' hq=>?_) fun s3 h3 c n3 kp3 hD=>?_
  · obtain ⟨i,hi,rfl⟩:=List.mem_iff_getElem.mp hx
    exact ⟨_,inst i _ _ (List.getElem?_eq_getElem hi) (List.getElem?_eq_getElem (by lia))⟩
  · have i1:i < ks.length:=by lia
    have j1:j < ks.length:=by lia
    have i2:vs[i]? = some vs[i]:=List.getElem?_eq_getElem (by lia)
    have j2:vs[j]? = some vs[j]:=List.getElem?_eq_getElem (by lia)
    have i3:=(inst i _ _ (List.getElem?_eq_getElem i1) i2).snap O2.gi
    have j3:=(inst j _ _ (List.getElem?_eq_getElem j1) j2).snap O2.gi
    have ops:=(k_ops (G.up up2) (k.keep up2) (hL.up up2) i3 j3 (hnd _ (List.getElem_mem _)) (hnd _ (List.getElem_mem _)) (ans _ i j _ _ up2 i2 j2)).2
    rw [show ks.getD i 0 = ks[i] by simp [i1],show ks.getD j 0 = ks[j] by simp [j1]]
    exact ops A.in1.in1 X s' Q' _ ⟨n'.2,O2.tabX,fun a ha=>by
      obtain ⟨o,q⟩:=O2.al a ha
      by_cases za:a = Tb
      · obtain ⟨ps,e',_⟩:=n'.2.tab
        exact ⟨_,za ▸ e'⟩
      · exact ⟨o,n'.1.get za q⟩⟩ (rm.in1.in1.down (by lia)) hq
  · refine ⟨_,rfl,wpAny_pure ⟨_,rfl, ?_⟩⟩
    have lk:s3.heap.get? (s.heap.objs.size + 3) = some (seqObj "list" (ks.map Value.ref).toArray e):=n3.1.get (newT _ (Nat.le_add_right _ _)) hk
    have la:s3.heap.get? (s.heap.objs.size + 1) = some (seqObj "list" #[] e1):=n3.1.get (newT _ (Nat.le_add_right _ _)) (kp _ _ hne.symm hoa)
    have gi3:GI h₁ { s3 with heap:=h3 }:=GI.two (n3.2.down up2) kp3 (new1 _ (Nat.le_add_right _ _)) (new1 _ (Nat.le_add_right _ _)) (newT _ (Nat.le_add_right _ _)) (newT _ (Nat.le_add_right _ _)) lk la
    obtain ⟨h4,tk4,q4,k4⟩:=n3.1
    subst q4
    refine hQ _ _ _ c (fun b o hb q=>?_) gi3 (new _ (Nat.le_add_right _ _)) hD
    have b1:b < s.heap.objs.size:=Heap.lt_size q
    have ne:∀ i,b ≠ s.heap.objs.size + i:=fun i=>Nat.ne_of_lt (Nat.lt_of_lt_of_le b1 (Nat.le_add_right _ _))
    exact kp3 b o (ne _) (ne _) (k4 b o hb (kp b o (ne _) (keepB b o q)))
end
end
section
section
variable {w:World}{h₀:Heap}{n:Nat}
theorem kds {value slice:Expr}{a:Addr}{vs:List Value}{i:Nat}{v:Value}{d:D}(ht:h₀.IsTuple a vs.toArray) (hfit:i < 1000) (h1:vs[i]? = some v) (hd:∀ X h,R X h v d) (hsub:∀ o i,subscripted slice false o i = operate [o,i] (getItem o i):=by intro _ _; rfl) :
    SubR w h₀ n value slice (.val (.ref a)) (.int i) d:=fun A X s va vi rm O ra ri Q E h=>by
  obtain ⟨t,rfl⟩:=ri.int_eq
  have:=ra.val_eq; subst this
  have hl':IsTup s.heap a vs.toArray:=kc9 ht fun o e=>O.gi.keep _ _ e
  have hi:i < vs.length:=by
    rcases Nat.lt_or_ge i vs.length with q | q
    · exact q
    · rw [List.getElem?_eq_none q] at h1; cases h1
  refine tail_any hl'.typeIs slot_tuple_getitem.lookup (PyProof.Rows.getItem_tuple (j:=i) hl' (by omega) (by omega) ?_ (x:=v) (by rw [List.getElem?_toArray]; exact h1) (h v s (.refl O.gi) (hd _ _))) (hsub _ _)
  unfold seqIndex?
  rw [List.size_toArray]
  split
  · omega
  · simp; omega
theorem kf5 {value slice:Expr}{a:Addr}{vs:List Value}{i:Int}{v:Value}(ht:h₀.IsList a vs.toArray) (h0:0 ≤ i) (hfit:i < 2 ^ 63) (h1:vs[i.toNat]? = some v) (hsub:∀ o i,subscripted slice false o i = operate [o,i] (getItem o i):=by intro _ _; rfl) :
    SubR w h₀ n value slice (.val (.ref a)) (.int i) (.val v):=fun A X s va vi rm O ra ri Q E h=>by
  obtain ⟨t,rfl⟩:=ri.int_eq
  have:=ra.val_eq; subst this
  have hl:=kb2 ht fun o e=>O.gi.keep _ _ e
  exact tail_any hl.typeIs slot_list_getitem.lookup (wpAny_getItem_list hl h0 hfit (x:=v) (by rw [List.getElem?_toArray]; exact h1) (h v s (.refl O.gi) (.val v))) (hsub _ _)
theorem clo_lam {name qual:Str}{params:Arguments}{body:Expr}{scope:Scope}{pm ctv tv:Value}{x y t:Str}{f c c':Addr}{dt d1 d2:D}{z:Int}(G:Gr w h₀)
    (hf:h₀.get? f = some (kla_obj name qual params body scope [(t,c)] pm c' ctv)) (hcode:h₀.CodeRec (.ref c') qual) (hc:h₀.IsCell c (some tv)) (hR:∀ h Y,R Y h tv dt)
    (hbind:∀ v u,bindArgs (kla_fn name qual params body scope [(t,c)] pm (.ref c') ctv) ⟨[v,u],[]⟩ = pure [(x,v),(y,u)]) (hok:sigOk scope [(t, .ext),(x, .loc),(y, .loc)] = true)
    (hco:scope.isCoroutine = false) (hgen:scope.isGenerator = false) (hcell:∀ z ∈ scope.names,z.2 ≠ .cell)
    (hev:EV w h₀ n scope [] [⟨t, .ext,some dt⟩,⟨x, .loc,some d1⟩,⟨y, .loc,some d2⟩] body (.int z)):CallR w h₀ (n + 1) (.ref f) [d1,d2] (.int z):=fun A X s vs rm O rs Q E hq=>by
  obtain ⟨v,u,rfl,r1,r2⟩:=rs.two
  refine wpAny_call (kla_callFunE rm.lt (O.gi.keep _ _ hf) rfl hco hgen rfl (hcode.keeps O.gi.keep) ?_)
  rw [hbind v u]
  refine wpAny_pure (kk6 G O hc hR r1 r2 hok hcell fun env X' s₂ n₂ hX S hl=>⟨hl,kla_codeExpr (hev _ _ _ s _ rm.deeper S _ _ fun v' s' n' r'=>?_)⟩)
  obtain ⟨tk,rfl⟩:=r'.int_eq
  exact hq _ s' (n₂.trans n') (.int _ _)
theorem wp_newK {A:Around}{env:Env}{X:List Addr}{s0 s:Shared}{sc:Scope}{ω:Owns}{σ:List Var}{L kc:Addr}{v:Value}{x:Str}{kk:VK}{e:Expr}{xp pos:Pos}{Q:Value → Shared → Prop}{E:Value → Shared → Prop}(G:Gr w h₀) (k:KUse w h₀ L kc) (rm:Room A n) (h3:3 ≤ n) (S:St h₀ sc env X s0 ω σ s)
    (hx:Has σ x kk (.val (.ref kc))) (ha:EVs w h₀ n sc ω σ [e] [.val v]) (hQ:∀ y s',Nx h₀ s s' → KNew s.heap s'.heap kc y v → Q (.ref y) s'):wpAny (model prog w) A (eval (.Call (.Name x xp) [e] [] pos) env) Q E s:=by
  show wpAny _ A (do callWith pos (← eval (.Name x xp) env) [] (backTo pos (starEach [e] env)) []) Q E s
  refine wpAny_bind (ka0 hx A env X s0 s rm S _ _ fun v' s₁ n₁ rv=>?_)
  have:=rv.val_eq; subst this
  have S₁:=S.nx n₁
  have k':=k
  obtain ⟨cc,as,tell,_⟩:=k'
  obtain ⟨K,md,fi,f1,f2,f3,f4,f5,X₁,H,_⟩:=tell.open
  refine callWith_of (P:=fun h=>K.In h) (by rw [ha.noStar]; rfl) (fun h Xh=>?_) (khq rm ha S₁ fun vs s₂ n₂ rs=>⟨X₁.keeps n₂.2.keep, ?_⟩)
  · have Y:=makes_of (M:=model prog w) Xh H.mks
    obtain ⟨oc,od,cd,sl,hC,_⟩:=Y.obj
    exact ⟨.machine, .inr (.inl rfl),(Looks.ld (part:=none) hC).andThen (Y.call.andThen .now)⟩
  · obtain ⟨v',rfl,r⟩:=rs.one
    have:=r.val_eq; subst this
    have back:∀ b,s₂.heap.get? b = none → s.heap.get? b = none:=fun b yN=>by
      cases q:s.heap.get? b with
      | none=>rfl
      | some o =>
        by_cases z:b = Tb
        · obtain ⟨ps,e',_⟩:=n₂.2.tab
          rw [← z,yN] at e'; cases e'
        · have:=(n₁.trans n₂).1.get z q
          rw [yN] at this; cases this
    exact k_new G k (S₁.nx n₂).op (rm.down h3) fun y h' tk kg ⟨dx,q1,q2,q3⟩=>hQ y _ (n₁.trans (n₂.trans (.of_keeps n₂.2 ⟨h',tk,rfl,kg⟩))) ⟨dx,back _ q1,back _ q2,q3⟩
end
end
section
noncomputable def Var.fix (e:Var):Var:=⟨e.name,if e.kind = .own then .ext else e.kind,e.val⟩
theorem fix_loc {e:Var}(h:e.fix.kind = .loc):e.kind = .loc:=by
  unfold Var.fix at h
  dsimp only at h
  split at h
  · cases h
  · exact h
set_option tactic.hygienic true in
theorem fix_own {e:Var}(h:e.fix.kind = .own):False:=by
  unfold Var.fix at h
  dsimp only at h
  split at h
  · cases h
  · rename_i q; exact q h
theorem sigOk_fix {sc:Scope}{σ:List Var}(h:sigOk sc (σ.map fun e=>(e.name,e.kind)) = true):sigOk sc ((σ.map Var.fix).map fun e=>(e.name,e.kind)) = true:=by
  simp only [sigOk,Bool.and_eq_true,beq_iff_eq,decide_eq_true_eq,List.all_eq_true,List.map_map] at h ⊢
  refine ⟨h.1,fun p hp=>?_⟩
  obtain ⟨e,he,rfl⟩:=List.mem_map.mp hp
  have:=h.2 _ (List.mem_map.mpr ⟨e,he,rfl⟩)
  obtain ⟨x,k,d⟩:=e
  cases k with
  | own =>
    simp only [varOk,Function.comp,Var.fix,if_true,Bool.and_eq_true,Bool.or_eq_true] at this ⊢
    exact ⟨⟨.inl this.1.1,this.1.2⟩,this.2⟩
  | _=>exact this
section
variable {w:World}{h₀:Heap}{sc:Scope}{env:Env}{X:List Addr}{s0 s:Shared}{σ:List Var}
theorem St.rebase (S:St h₀ sc env X s0 [] σ s):∃ h₁ s1,(∀ b o,h₀.get? b = some o → h₁.get? b = some o) ∧ (∀ b o,b ≠ env.locals → b ≠ Tb → s.heap.get? b = some o → h₁.get? b = some o) ∧ St h₁ sc env X s1 [] (σ.map Var.fix) s ∧
    ∀ d fl s',OutOk h₁ sc env X s1 s (.ret d) fl s' → OutOk h₀ sc env X s0 s (.ret d) fl s':=by
  obtain ⟨m,hm,hmv⟩:=S.ns
  have kp:∀ b o,b ≠ env.locals → s.heap.get? b = some o → (s.heap.hide env.locals).get? b = some o:=fun b o hb e=>(Heap.hide_ne _ hb).trans e
  have old:∀ b o,s0.heap.get? b = some o → b ≠ env.locals:=fun b o e q=>by rw [q,S.new] at e; cases e
  have gi1:GI h₀ { s with heap:=s.heap.hide env.locals }:=by
    refine ⟨fun b o e=>kp b o (old b o (S.gi0.keep b o e)) (S.gi.keep b o e), ?_,S.gi.off⟩
    obtain ⟨ps,e,x⟩:=S.gi.tab
    refine ⟨ps,kp _ _ (Ne.symm S.locne) e, ?_⟩
    rcases x with x | ⟨c',hne,e1,c,o,vs,t,e2,g,hd,r⟩
    · exact .inl x
    · cases e2
      exact .inr ⟨_,hne,e1,_,o,vs,t,rfl,kp _ _ (fun q=>kb7 hm tourQual (q ▸ ⟨_,o,vs,t,rfl,g,hd,r⟩)) g,hd,r⟩
  have gis:=gi1.snap
  have sub:∀ b o,(snap { s with heap:=s.heap.hide env.locals }).get? b = some o → s.heap.get? b = some o:=fun b o e=>Heap.of_hide (snap_of e)
  refine ⟨snap { s with heap:=s.heap.hide env.locals },{ s with heap:=s.heap.hide env.locals },khx gi1,fun b o hb hT e=>kbn hT (kp b o hb e), ?_, ?_⟩
  · refine ⟨sigOk_fix S.ok,S.scope,S.glob,S.blt,⟨s.heap,s.toks,rfl,fun b o _ e=>Heap.of_hide e⟩,⟨sub,S.gi.tab,gis.off⟩,gis,⟨m,hm,fun e he hk=>?_⟩,fun e he hk=>?_,S.inj,S.locX,Heap.hide_self _ _,fun e he hk=>?_,S.alive,S.tabX,⟨List.nodup_nil,fun p hp=>by cases hp⟩⟩
    · obtain ⟨e',he',rfl⟩:=List.mem_map.mp he
      exact hmv e' he' (fix_loc hk)
    · obtain ⟨e',he',rfl⟩:=List.mem_map.mp he
      obtain ⟨c,ov,h1,h2,h3,h4⟩:=S.cell e' he' fun q=>hk (by unfold Var.fix; rw [q]; rfl)
      exact ⟨c,ov,h1,h2,h3,h4⟩
    · obtain ⟨e',he',rfl⟩:=List.mem_map.mp he
      exact (fix_own hk).elim
  · intro d fl s' o
    cases fl with
    | ret v =>
      obtain ⟨k,gi,Y',hY',r⟩:=o
      refine ⟨?_,gi.down (khx gi1),Y',fun a ha ⟨oa,ea⟩=>hY' a ha ?_,r⟩
      · obtain ⟨h2,t2,q2,k2⟩:=k
        subst q2
        obtain ⟨h3,t3,q3,k3⟩:=S.base
        refine ⟨h2,t2,by rw [q3],fun b o hb e=>k2 b o hb (kp b o (old b o e) ?_)⟩
        rw [q3]; exact k3 b o hb e
      · by_cases z:a = Tb
        · obtain ⟨ps,e,_⟩:=gis.tab
          exact ⟨_,z ▸ e⟩
        · exact ⟨oa,kp a oa (old a oa ea) (S.base.get z ea)⟩
    | _=>exact o.elim
theorem St.raw {x:Str}{d:D}(S:St h₀ sc env X s0 [] σ s) (h:Has σ x .loc d):∃ v,R X s.heap v d ∧ ∀ σ',Upd σ x .loc (.val v) σ' → St h₀ sc env X s0 [] σ' s:=by
  obtain ⟨m,hm,hv⟩:=S.ns
  obtain ⟨v,h1,h2⟩:=hv _ h.mem rfl d rfl
  refine ⟨v,h2,fun σ' U=>?_⟩
  have far:∀ e ∈ σ',e.kind ≠ .loc → e ∈ σ:=fun e he hk=>by
    rcases U.mem S.nd he with q | q
    · rw [q] at hk; exact absurd rfl hk
    · exact q.1
  refine ⟨by rw [U.names]; exact S.ok,S.scope,S.glob,S.blt,S.base,S.gi,S.gi0,⟨m,hm,fun e he hk d' hd'=>?_⟩,fun e he hk=>S.cell e (far e he hk) hk,S.inj,S.locX,S.new,fun e he hk=>S.newc e (far e he (by rw [hk]; decide)) hk,S.alive,S.tabX,S.owns⟩
  rcases U.mem S.nd he with q | q
  · subst q
    cases hd'
    exact ⟨v,h1, .val v⟩
  · exact hv e q.1 hk d' hd'
end
end
section
section
variable {w:World}{h₀:Heap}{n:Nat}{sc:Scope}{ω ω':Owns}{σ σ':List Var}
theorem kc6 {st:Stmt}{rest:List Stmt}{A:Around}{env:Env}{X:List Addr}{s0 s:Shared}{Q:Flow → Shared → Prop}{E:Value → Shared → Prop}(h1:SS w h₀ n sc ω σ st (.next ω' σ')) (rm:Room A n) (S:St h₀ sc env X s0 ω σ s) (h:∀ X' s',Grow X s X' s' → St h₀ sc env X' s0 ω' σ' s' → wpAny (model prog w) A (execs rest env) Q E s') :
    wpAny (model prog w) A (execs (st :: rest) env) Q E s:=wpAny_execs_cons (h1 A env X s0 s _ _ rm S fun fl s₁ o=>by
  cases fl with
  | next=>obtain ⟨X',g,S'⟩:=o; exact h X' s₁ g S'
  | _=>exact o.elim)
theorem KNew.far {h:Heap}{s:Shared}{kc x:Addr}{v:Value}{X:List Addr}(i:KNew h s.heap kc x v) (al:∀ a ∈ X, ∃ o,h.get? a = some o) {h₁:Heap}(k:∀ b o,b ∉ X → s.heap.get? b = some o → h₁.get? b = some o):KInst h₁ kc x v:=by
  obtain ⟨dx,q1,q2,e1,e2⟩:=i
  have fr:∀ b,h.get? b = none → b ∉ X:=fun b q m=>by obtain ⟨o,e⟩:=al b m; rw [q] at e; cases e
  exact ⟨dx,k _ _ (fr _ q1) e1,k _ _ (fr _ q2) e2⟩
theorem j_of {k j:Nat}(hk:k < 5) (hj:j = (k + 4) % 5):((k:Int) + 4).fmod 5 = (j:Int):=by
  subst hj
  exact lt5 (P:=fun k=>((k:Int) + 4).fmod 5 = (((k + 4) % 5:Nat):Int)) rfl rfl rfl rfl rfl k hk
end
section
variable {w:World}{h₀:Heap}(G:Gr w h₀)
include G
theorem f_keys {L kc T:Addr}{things:List Value}{rows:List (List (List Nat))}{order:List Int}{k j m:Nat}{rk rj:List (List Nat)}{vk vj:Value}{z:Int}(hm:1 ≤ m) (use:KUse w h₀ L kc) (hL:Cal h₀ (.ref L)) (hT:h₀.IsList T things.toArray) (hk:k < 5) (hj:j = (k + 4) % 5)
    (hrk:rows[k]? = some rk) (hrj:rows[j]? = some rj) (ok:okNs rk) (oj:okNs rj) (hko:(k:Int) ∈ order) (hjo:(j:Int) ∈ order) (hz:order.length ≤ 1000) (hvk:things[k]? = some vk) (hvj:things[j]? = some vj) (dk:handedIn vk = true) (dj:handedIn vj = true)
    (ans:∀ h₂,(∀ b o,h₀.get? b = some o → h₂.get? b = some o) → CallR w h₂ m (.ref L) [.val vk, .val vj] (.int z))
    (told:let less:=!(rk == rj) && decide (order.idxOf (k:Int) < order.idxOf (j:Int)); [decide (z < 0),decide (z ≤ 0),z == 0, !(z == 0),decide (0 ≤ z),decide (0 < z)] = [less,less || (rk == rj),rk == rj, !(rk == rj), !less, !less && !(rk == rj)]) :
    CallR w h₀ (m + 3) (.ref 246) [.val (.ref kc), .val (.ref T), .list (rows.map NsD),IsD order, .int k] (.bool true):=by
  have hj5:j < 5:=by lia
  have fits:∀ i:Nat,i < 5 → ((i:Int).toNat = i ∧ 0 ≤ (i:Int) ∧ (i:Int) < 2 ^ 63):=fun i hi=>⟨rfl,by lia,by lia⟩
  refine kig (vars:=[("wrap", .loc),("things", .loc),("rows", .loc),("order", .loc),("k", .loc),("j", .loc),("same", .loc),("less", .loc),("one", .loc),("other", .loc),("told", .loc)]) ⟨⟨_,G.K 246 _ rfl,rfl⟩,rfl,rfl,rfl,rfl,⟨_,_,_,_,rfl,G.K _ _ rfl,rfl,rfl⟩,rfl,rfl,G.lim,by decide +kernel,rfl⟩ (kaa (len5 fun _ _ _ _ _=>?_)) ?_
  · rfl
  intro A env X s0 s Q E rm hcode hqual S hq
  refine kc6 (ka1 (d:=.int j) (by rw [← j_of hk hj]; exact kad (kad (ka0 (.s (.s (.s (.s .z))))) ka7 kal) ka7 (kat (by decide))) (.s (.s (.s (.s (.s .z)))))) rm S fun X1 s1 g1 S1=>?_
  refine kc6 (ka1 (d:=.bool (rk == rj)) (kb8 (kao (ka0 (.s (.s .z))) (ka0 (.s (.s (.s (.s .z))))) (kah (d:=NsD rk) (fits k hk).2.1 (fits k hk).2.2 (by rw [(fits k hk).1,List.getElem?_map,hrk]; rfl)))
    (kao (ka0 (.s (.s .z))) (ka0 (.s (.s (.s (.s (.s .z)))))) (kah (d:=NsD rj) (fits j hj5).2.1 (fits j hj5).2.2 (by rw [(fits j hj5).1,List.getElem?_map,hrj]; rfl))) (keu (Inj.list Inj.text) ok.b oj.b (by decide))) (.s (.s (.s (.s (.s (.s .z))))))) rm S1 fun X2 s2 g2 S2=>?_
  obtain ⟨same,hsame⟩ : ∃ same,same = (rk == rj):=⟨_,rfl⟩
  rw [← hsame] at told S2
  obtain ⟨less,hless⟩ : ∃ less,less = (!same && decide (order.idxOf (k:Int) < order.idxOf (j:Int))):=⟨_,rfl⟩
  rw [← hless] at told
  refine kc6 (ka1 (d:=.bool less) (by
    rw [hless]
    exact ev_and (kjx (ka0 (.s (.s (.s (.s (.s (.s .z))))))) kau) fun _=>(kb8 (kbj (ka0 (.s (.s (.s .z)))) m_index (.cons rfl (ka0 (.s (.s (.s (.s .z))))) .nil) (khk hko hz)) (kbj (ka0 (.s (.s (.s .z)))) m_index (.cons rfl (ka0 (.s (.s (.s (.s (.s .z)))))) .nil) (khk hjo hz)) (cmp_lt_int.cast (by
      rw [Bool.eq_iff_iff,decide_eq_true_eq,decide_eq_true_eq]; lia))))
    (.s (.s (.s (.s (.s (.s (.s .z)))))))) rm S2 fun X3 s3 g3 S3=>?_
  refine wpAny_execs_cons (wpAny_Assign_Name (wp_newK G use rm (by lia) S3 .z (.cons rfl (kao (ka0 (.s .z)) (ka0 (.s (.s (.s (.s .z))))) (kf5 hT (fits k hk).2.1 (fits k hk).2.2 (by rw [(fits k hk).1]; exact hvk))) .nil) fun y s4 n4 i4=>(S3.nx n4).store (.s (.s (.s (.s (.s (.s (.s (.s .z)))))))) (by decide) (.val _) fun s5 g5 S5=>?_) (kfm rfl))
  refine wpAny_execs_cons (wpAny_Assign_Name (wp_newK G use rm (by lia) S5 .z (.cons rfl (kao (ka0 (.s .z)) (ka0 (.s (.s (.s (.s (.s .z)))))) (kf5 hT (fits j hj5).2.1 (fits j hj5).2.2 (by rw [(fits j hj5).1]; exact hvj))) .nil) fun x s6 n6 i6=>(S5.nx n6).store (.s (.s (.s (.s (.s (.s (.s (.s (.s .z))))))))) (by decide) (.val _) fun s7 g7 S7=>?_) (kfm rfl))
  obtain ⟨h₁,s8,up,out',S8,conv⟩:=S7.rebase
  have out:∀ b o,b ∉ X3 → s7.heap.get? b = some o → h₁.get? b = some o:=fun b o hb=>out' b o (fun z=>hb (z ▸ S7.locX)) fun z=>hb (z ▸ S7.tabX)
  simp only [List.map_cons,List.map_nil,Var.fix,reduceCtorEq,if_false] at S8
  have iy:KInst h₁ kc y vk:=i4.far S3.alive fun b o hb e=>out b o hb (g7.keep b o hb (n6.1.get (fun q=>hb (q ▸ S3.tabX)) (g5.keep b o hb e)))
  have ix:KInst h₁ kc x vj:=i6.far S5.alive fun b o hb e=>out b o hb (g7.keep b o hb e)
  obtain ⟨⟨o1,o2,o3,o4,o5,o6⟩,_⟩:=k_ops (n:=m) (G.up up) (use.keep up) (hL.up up) iy ix dk dj (ans h₁ up)
  refine ka5 (ka1 (d:=.list ([decide (z < 0),decide (z ≤ 0),z == 0, !(z == 0),decide (0 ≤ z),decide (0 < z)].map D.bool)) (kaj (.cons rfl (kb8 (ka0 (.s (.s (.s (.s (.s (.s (.s (.s .z))))))))) (ka0 (.s (.s (.s (.s (.s (.s (.s (.s (.s .z)))))))))) o1)
    (.cons rfl (kb8 (ka0 (.s (.s (.s (.s (.s (.s (.s (.s .z))))))))) (ka0 (.s (.s (.s (.s (.s (.s (.s (.s (.s .z)))))))))) o2)
    (.cons rfl (kb8 (ka0 (.s (.s (.s (.s (.s (.s (.s (.s .z))))))))) (ka0 (.s (.s (.s (.s (.s (.s (.s (.s (.s .z)))))))))) o3)
    (.cons rfl (kb8 (ka0 (.s (.s (.s (.s (.s (.s (.s (.s .z))))))))) (ka0 (.s (.s (.s (.s (.s (.s (.s (.s (.s .z)))))))))) o4)
    (.cons rfl (kb8 (ka0 (.s (.s (.s (.s (.s (.s (.s (.s .z))))))))) (ka0 (.s (.s (.s (.s (.s (.s (.s (.s (.s .z)))))))))) o5)
    (.cons rfl (kb8 (ka0 (.s (.s (.s (.s (.s (.s (.s (.s .z))))))))) (ka0 (.s (.s (.s (.s (.s (.s (.s (.s (.s .z)))))))))) o6) .nil))))))) (.s (.s (.s (.s (.s (.s (.s (.s (.s (.s .z)))))))))))
    (ka4 (kab (d:=.bool true) (kb8 (ka0 (.s (.s (.s (.s (.s (.s (.s (.s (.s (.s .z))))))))))) (kaj (ds:=[less,less || same,same, !same, !less, !less && !same].map D.bool) (.cons rfl (ka0 (.s (.s (.s (.s (.s (.s (.s .z))))))))
      (.cons rfl (ev_or (ka0 (.s (.s (.s (.s (.s (.s (.s .z)))))))) fun _=>ka0 (.s (.s (.s (.s (.s (.s .z)))))))
      (.cons rfl (ka0 (.s (.s (.s (.s (.s (.s .z)))))))
      (.cons rfl (kjx (ka0 (.s (.s (.s (.s (.s (.s .z))))))) kau)
      (.cons rfl (kjx (ka0 (.s (.s (.s (.s (.s (.s (.s .z)))))))) kau)
      (.cons rfl (ev_and (kjx (ka0 (.s (.s (.s (.s (.s (.s (.s .z)))))))) kau) fun _=>kjx (ka0 (.s (.s (.s (.s (.s (.s .z))))))) kau) .nil)))))))
      ((keu (k:=1) Inj.bool.list (okB.map fun b _=>okB.bool 0 b) (okB.map fun b _=>okB.bool 0 b) (by decide)).cast (by rw [told]; exact beq_self_eq_true _))))) A env X3 s8 s7 Q E rm S8 fun fl s' o=>?_
  refine hq fl s' ((conv _ _ _ o).back (((g1.trans g2).trans g3).trans (((Grow.of_nx n4 S3.tabX).trans g5).trans ((Grow.of_nx n6 S3.tabX).trans g7))))
end
end
section
noncomputable def pickT {α:Type}(lo hi st:Option Int) (xs:List α):List α:=(sliceRange (sliceBounds lo hi st xs.length).1 (sliceBounds lo hi st xs.length).2.1 (sliceBounds lo hi st xs.length).2.2).filterMap (xs[·]?)
theorem pick_map {α β:Type}(f:α → β) (lo hi st:Option Int) (xs:List α):pickT lo hi st (xs.map f) = (pickT lo hi st xs).map f:=by
  unfold pickT
  rw [List.length_map,List.map_filterMap]
  congr 1
  funext i
  rw [List.getElem?_map]
theorem RAll.pick {X:List Addr}{h:Heap}{vs:List Value}{ds:List D}(r:RAll X h vs ds):∀ is:List Nat,RAll X h (is.filterMap (vs[·]?)) (is.filterMap (ds[·]?))
  | []=>.nil
  | i :: is=>by
    rw [List.filterMap_cons,List.filterMap_cons]
    cases q:ds[i]? with
    | none =>
      have:vs[i]? = none:=by
        rw [List.getElem?_eq_none_iff] at q ⊢
        rw [r.length]; exact q
      rw [this]
      exact RAll.pick r is
    | some d =>
      obtain ⟨v,h1,h2⟩:=r.get q
      rw [h1]
      exact .cons h2 (RAll.pick r is)
noncomputable def sumT (is:List Int):Int:=preSum (fun j=>is.getD j 0) is.length
section
variable {w:World}{h₀:Heap}{n:Nat}{sc:Scope}{ω:Owns}{σ σ':List Var}
theorem sum_list {A:Around}{X:List Addr}{s:Shared}{l:Addr}{us:List Value}{is:List Int}{Q:Value → Shared → Prop}{E:Value → Shared → Prop}(rm:Room A n) (O:Op h₀ X s) (hl:s.heap.IsList l us.toArray) (ru:RAll X s.heap us (is.map D.int)) (h:∀ v s',Nx h₀ s s' → R X s'.heap v (.int (sumT is)) → Q v s'):wpAny (model prog w) A (call (.builtin "sum") [.ref l]) Q E s:=by
  have hlt:l < s.heap.objs.size:=let ⟨o,ho,_⟩:=hl; Heap.lt_size ho
  have hne:l ≠ s.heap.objs.size:=Nat.ne_of_lt hlt
  have hlen:us.toArray.size = is.length:=by rw [List.size_toArray,ru.length,List.length_map]
  refine call_sum_walkG (wpAny_pyIter_list hl ⟨_,_,_,_,_,_,fun j=>is.getD j 0,rfl,Walks.list (A:=A.in1) rm.handled s.heap.objs.size l hne us.toArray,⟨⟨_,Heap.get?_push_size _ rfl,rfl,rfl⟩,hl.push _⟩,fun b hb=>?_,fun i v hv=>?_,fun h' tk t' hk=>?_⟩)
  · show b < (s.heap.push _).objs.size
    rw [Heap.size_push]
    rcases List.mem_cons.mp hb with rfl | hb
    · exact Nat.lt_succ_self _
    · rw [List.mem_singleton.mp hb]; exact Nat.lt_succ_of_lt hlt
  · have hv':us.toArray[i]? = some v:=hv
    rw [List.getElem?_toArray] at hv'
    have hi:i < is.length:=by
      rcases Nat.lt_or_ge i us.length with q | q
      · rwa [ru.length,List.length_map] at q
      · rw [List.getElem?_eq_none q] at hv'; cases hv'
    obtain ⟨v',h1,h2⟩:=ru.get (k:=i) (d:=.int is[i]) (by rw [List.getElem?_map,List.getElem?_eq_getElem hi]; rfl)
    rw [h1] at hv'; cases hv'
    obtain ⟨t,rfl⟩:=h2.int_eq
    exact ⟨t,by simp [hi]⟩
  · have e:preSum (fun j=>is.getD j 0) us.toArray.size = sumT is:=by rw [hlen]; rfl
    rw [e]
    exact h _ _ (.of_keeps O.gi ⟨h',tk,rfl,old_kept hk⟩) (.int _ _)
theorem call_sum {is:List Int} : CallR w h₀ n (.builtin "sum") [IsD is] (.int (sumT is)):=fun A X s vs rm O rs Q E h=>by
  obtain ⟨v,rfl,r1⟩:=rs.one
  obtain ⟨l,us,rfl,hl,hX,ru⟩:=r1.list_eq
  exact sum_list rm O hl ru h
structure IntsAt (h:Heap) (a:Addr) (is:List Int):Prop where
  at':∃ us:List Value,h.IsList a us.toArray ∧ ∀ X g,RAll X g us (is.map D.int)
theorem IntsAt.here {h:Heap}{a:Addr}{is:List Int}(x:IntsAt h₀ a is) (k:∀ b o,h₀.get? b = some o → h.get? b = some o):∃ us:List Value,h.IsList a us.toArray ∧ (∀ X g,RAll X g us (is.map D.int)) ∧ us.length = is.length :=
  let ⟨us,e,r⟩:=x.at'; ⟨us,kb2 e fun o q=>k _ _ q,r,by rw [(r [] h).length,List.length_map]⟩
theorem slc_raw {a:Addr}{is:List Int}{lo hi:Option Int}{st:Int}(x:IntsAt h₀ a is) (h0:st ≠ 0) (hz:is.length ≤ 100000):SlcR w h₀ n (.val (.ref a)) lo hi (some st) (.list (pickT lo hi (some st) (is.map D.int))):=fun A X s va a' vl vu vs rm O ra hs pl pu ps=>by
  have:=ra.val_eq; subst this
  obtain ⟨us,hl,rs,hlen⟩:=x.here O.gi.keep
  refine ⟨⟨"list",_,hl.typeIs,list_getitem_lookup⟩,fun Q E h=>?_⟩
  refine wpAny_getItem_list_slice hl hs (IsPart.of pl) (IsPart.of pu) (IsPart.of ps) (by simpa using h0) ?_ ?_
  · have e:slicePick us.toArray lo hi (some st) = (pickT lo hi (some st) us).toArray:=by
      unfold slicePick pickT
      rw [List.size_toArray]
      congr 2
      funext i
      rw [List.getElem?_toArray]
    rw [e]
    refine h _ _ (.push O.gi _ _) (.list ⟨_,Heap.get?_push_size _ rfl⟩ O.fresh ?_)
    unfold pickT
    rw [List.length_map, ← hlen]
    exact (rs _ _).pick _
  · rw [List.size_toArray,hlen,sizeLine_eq]; lia
theorem len_raw {a:Addr}{is:List Int}(x:IntsAt h₀ a is) (hz:is.length ≤ 100000):CallR w h₀ n (.builtin "len") [.val (.ref a)] (.int is.length):=fun A X s vs rm O rs Q E h=>by
  obtain ⟨v,rfl,r1⟩:=rs.one
  have:=r1.val_eq; subst this
  obtain ⟨us,hl,_,hlen⟩:=x.here O.gi.keep
  refine call_len_list hl (by rw [List.size_toArray,hlen]; lia) ?_
  rw [List.size_toArray,hlen]
  exact h _ _ (.tok O.gi _) (.int _ _)
theorem sum_raw {a:Addr}{is:List Int}(x:IntsAt h₀ a is):CallR w h₀ n (.builtin "sum") [.val (.ref a)] (.int (sumT is)):=fun A X s vs rm O rs Q E h=>by
  obtain ⟨v,rfl,r1⟩:=rs.one
  have:=r1.val_eq; subst this
  obtain ⟨us,hl,rs',hlen⟩:=x.here O.gi.keep
  exact sum_list rm O hl (rs' _ _) h
theorem asg_raw {es:List Expr}{ds:List D}{k:Nat}{p:Pos}{a:Addr}{vs:List Value}(ht:h₀.IsTuple a vs.toArray) (rs:∀ X h,RAll X h vs ds) (U:Upds σ es ds σ'):AsgR w h₀ n sc ω (.Tuple es k p) (.val (.ref a)) σ σ':=fun A env X s0 s v Q E rm S r h=>by
  have:=r.val_eq; subst this
  obtain ⟨u1,u2⟩:=U.each (env:=env)
  refine wpAny_assign_Tuple rm.handled (kc9 ht fun o e=>S.gi.keep _ _ e) (by rw [u1,List.size_toArray,(rs X s.heap).length]) u2 fun h' he=>?_
  have hk:∀ b o,s.heap.get? b = some o → h'.get? b = some o:=fun b o e=>he b o (Nat.ne_of_lt (Heap.lt_size e)) e
  have n₁:Nx h₀ s { s with heap:=h' }:=.of_keeps S.gi ⟨h',s.toks,rfl,hk⟩
  exact kgz (vs:=vs) U (S.nx n₁) (rs _ _) fun s' g' S'=>h s' ((Grow.of_nx n₁ S.tabX).trans g') S'
end
end
section
section
variable {w:World}{h₁:Heap}{n:Nat}{sc:Scope}{σ:List Var}
theorem ev_sorted {p1 p2 p3 p4 pos:Pos}{x y:Str}{L kc T:Addr}{vs:List Value}{z:Nat → Nat → Int}(G:Gr w h₁) (hs:EV w h₁ (n + 5) sc [] σ (.Name "sorted" p1) (.val (.builtin "sorted"))) (hx:Has σ x .loc (.val (.ref T))) (hy:Has σ y .loc (.val (.ref kc))) (k:KUse w h₁ L kc) (hL:Cal h₁ (.ref L))
    (hT:h₁.IsList T vs.toArray) (hv:vs.length = 5) (hnd:∀ v ∈ vs,handedIn v = true) (ans:∀ h₂ i j v u,(∀ b o,h₁.get? b = some o → h₂.get? b = some o) → vs[i]? = some v → vs[j]? = some u → CallR w h₂ n (.ref L) [.val v, .val u] (.int (z i j))) :
    EV w h₁ (n + 5) sc [] σ (.Call (.Name "sorted" p1) [.Name x p2] [⟨some "key", .Name y p3,p4⟩] pos) (.list ((kasRun (fun i j=>decide (z i j < 0)) (kas_sort 5)).toList.map fun i=>.val (vs.getD i .none))):=fun A env X s0 s rm S Q E hq=>by
  refine wpAny_Call_Name_kw (hs A env X s0 s rm S _ _ fun f s₁ n₁ rf=>?_)
  have:=rf.val_eq; subst this
  have S₁:=S.nx n₁
  refine callWith_builtin_kwB rfl rfl (evalArgs_kwB rfl (spliced_cons (ka0 hx A env X s0 s₁ rm S₁ _ _ fun v s₂ n₂ rv=>spliced_nil (kws_cons (ka0 hy A env X s0 s₂ rm (S₁.nx n₂) _ _ fun u s₃ n₃ ru=>kws_nil ?_)))))
  have:=rv.val_eq; subst this
  have:=ru.val_eq; subst this
  have n13:=n₁.trans (n₂.trans n₃)
  have S₃:=S.nx n13
  refine sorted_k G k hL S₃.op rm (kb2 hT fun o e=>S₃.gi.keep _ _ e) hv hnd ans fun D h' tk c kp gi hn hD=>?_
  refine hq _ _ (n13.trans ⟨⟨h',tk,rfl,kp⟩,gi⟩) (.list (vs:=(kasRun (fun i j=>decide (z i j < 0)) (kas_sort 5)).toList.map fun i=>vs.getD i .none) ⟨_,hD⟩ (fun hX=>?_) ?_)
  · obtain ⟨o,e⟩:=S₃.alive D hX
    rw [hn] at e; cases e
  · generalize (kasRun (fun i j=>decide (z i j < 0)) (kas_sort 5)).toList = l
    induction l with
    | nil=>exact .nil
    | cons i l ih=>exact .cons (.val _) ih
end
end
section
section
variable {w:World}{h₀:Heap}{sc:Scope}{env:Env}{X:List Addr}{s0 s:Shared}{σ:List Var}{t:Addr}
theorem St.nxU (S:St h₀ sc env X s0 [] σ s) (ht:t ∈ X) (h0:s0.heap.get? t = none) {ps:Array Value}(e:s.heap.get? t = some (tabObj ps)) {h':Heap}{tk:Nat}(k:∀ b o,b ≠ t → b ≠ Tb → s.heap.get? b = some o → h'.get? b = some o) (gi:GI h₀ { s with heap:=h',toks:=tk }) (ha:∃ o,h'.get? t = some o):St h₀ sc env X s0 [] σ { s with heap:=h',toks:=tk }:=by
  have kX:∀ b o,b ∉ X → s.heap.get? b = some o → h'.get? b = some o:=fun b o hb q=>k b o (fun z=>hb (z ▸ ht)) (fun z=>hb (z ▸ S.tabX)) q
  have wk:∀ {v d},R X s.heap v d → R X h' v d:=fun r=>r.keep kX
  have up0:∀ b o,s0.heap.get? b = some o → b ≠ t:=fun b o q z=>by rw [z,h0] at q; cases q
  refine ⟨S.ok,S.scope,S.glob,S.blt, ?_,gi,S.gi0, ?_,fun x hx hk=>?_,S.inj,S.locX,S.new,S.newc,fun a ha'=>?_,S.tabX,⟨S.owns.nd,fun p hp=>?_⟩⟩
  · obtain ⟨h1,tk1,q,k1⟩:=S.base
    subst q
    exact ⟨h',tk,rfl,fun b o hb e'=>k b o (up0 b o e') hb (k1 b o hb e')⟩
  · obtain ⟨m,hm,hv⟩:=S.ns
    refine ⟨m,ns_at hm fun o q=>k _ _ (fun z=>?_) S.locne q,fun x hx hk d hd=>let ⟨v,h1,h2⟩:=hv x hx hk d hd; ⟨v,h1,wk h2⟩⟩
    obtain ⟨o',es,ep,g,hd,_⟩:=hm
    rw [z,e] at g; cases g; cases hd
  · obtain ⟨c,ov,h1,h2,h3,h4⟩:=S.cell x hx hk
    obtain ⟨ps',hT,_⟩:=S.gi.tab
    refine ⟨c,ov,h1,kaf h2 fun o q=>k _ _ (fun z=>?_) (kaz h2 hT) q,h3,fun d hd=>let ⟨v,q1,q2⟩:=h4 d hd; ⟨v,q1,wk q2⟩⟩
    obtain ⟨o',g,hd⟩:=h2
    rw [z,e] at g; cases g; cases hd
  · by_cases z:a = t
    · exact z ▸ ha
    · by_cases zT:a = Tb
      · obtain ⟨ps',hT,_⟩:=gi.tab
        exact ⟨_,zT ▸ hT⟩
      · obtain ⟨o,q⟩:=S.alive a ha'
        exact ⟨o,k a o z zT q⟩
  · cases hp
theorem wp_wrap {A:Around}{E:Value → Shared → Prop}{Q:Value → Shared → Prop}{params:Arguments}{body:Expr}{scope:Scope}{p1 lpos pos:Pos}{v:Str}{c:Addr}{n:Nat}(G:Gr w h₀) (rm:Room A n) (h5:5 ≤ n) (S:St h₀ sc env X s0 [] σ s) (h23:h₀.get? 23 = none) (h248:h₀.get? 248 = none) (e23:s.heap.get? 23 = some (tabObj #[])) (e248:s.heap.get? 248 = some (tabObj #[])) (hsm:∃ o,h₀.get? sysModules = some o)
    (hn:EV w h₀ n sc [] σ (.Name "cmp_to_key" p1) (.val (.ref 28))) (hdef:defaultsOf params env = ([],[])) (hcl:closureFor scope env = pure [(v,c)]) (hcode:env.code = .ref 250)
    (hQ:∀ s0' s' kc L cc c' pm ctv as,St h₀ sc env (23 :: 248 :: X) s0' [] σ s' → Kp s0' s' → (∀ b o,b ≠ 23 → b ≠ 248 → s0.heap.get? b = some o → s0'.heap.get? b = some o) → (∃ h tk,s0' = { s0 with heap:=h,toks:=tk }) → (∀ b o,b ≠ 23 → b ≠ 248 → b ≠ Tb → s.heap.get? b = some o → s'.heap.get? b = some o) →
      (∀ a ∈ L :: c' :: as,s.heap.get? a = none) → s'.heap.get? L = some (kla_obj "<lambda>" (env.qual ++ "<lambda>") params body scope [(v,c)] pm c' ctv) → s'.heap.CodeRec (.ref c') (env.qual ++ "<lambda>") → cc ∈ as → s'.heap.IsCell cc (some (.ref L)) → KTell w cc kc as s'.heap → (∃ ps,s'.heap.get? 23 = some (tabObj ps)) → (∃ ps,s'.heap.get? 248 = some (tabObj ps)) → Q (.ref kc) s') :
    wpAny (model prog w) A (eval (.Call (.Name "cmp_to_key" p1) [.Lambda params body scope lpos] [] pos) env) Q E s:=by
  show wpAny _ A (do callWith pos (← eval (.Name "cmp_to_key" p1) env) [] (backTo pos (starEach [_] env)) []) Q E s
  refine wpAny_bind (hn A env X s0 s rm S _ _ fun f s₁ n₁ rf=>?_)
  have:=rf.val_eq; subst this
  have S₁:=S.nx n₁
  obtain ⟨mg,hmg⟩:=G.g
  have e23₁:=n₁.1.get (by decide) e23
  have e248₁:=n₁.1.get (by decide) e248
  have up1:∀ b,s₁.heap.get? b = none → s.heap.get? b = none:=fun b q=>by
    cases z:s.heap.get? b with
    | none=>rfl
    | some o =>
      by_cases zT:b = Tb
      · obtain ⟨ps,hT,_⟩:=n₁.2.tab
        rw [zT,hT] at q; cases q
      · rw [n₁.1.get zT z] at q; cases q
  show wpAny _ A (callWith _ (.ref 28) [] [(false,eval _ env)] []) _ E s₁
  refine wp_call1 (h₀:=h₀) (G.K 28 _ rfl) rfl (kla_eval hdef ?_)
  refine kla_makeFunction (c:=250) (P:=248) (mg:=mg) hcl S.glob (hmg.keeps S₁.gi.keep) hcode ⟨_,_,_,_,_,_,_,_,_,S₁.gi.keep _ _ (G.K 250 _ rfl),rfl,rfl,rfl,rfl,rfl,rfl,rfl,rfl,by decide⟩ e248₁ trivial rfl (by decide) (blt_at G hmg S₁.gi.keep) fun c' ctv h' tk hx hge hlt hrec htb=>?_
  obtain ⟨hh,g,d,tk1,os⟩:=s₁
  have kp2:∀ (b:Addr) (o:Obj),b ≠ 248 → hh.get? b = some o → (h'.push (kla_obj "<lambda>" (env.qual ++ "<lambda>") params body scope [(v,c)] ((mg "__name__").getD .none) c' ctv)).get? b = some o:=fun b o hb e=>Heap.get?_push_of_some _ (hx b o hb e)
  have S₂:=(S₁.hide1 (t:=248) (by decide) h248 e248₁).nxT (tk:=tk) (.head _) (Heap.hide_self _ _) e248₁ kp2 ⟨_,Heap.get?_push_of_some _ htb⟩
  have e23₂:=kp2 _ _ (by decide) e23₁
  have e248₂:=Heap.get?_push_of_some (kla_obj "<lambda>" (env.qual ++ "<lambda>") params body scope [(v,c)] ((mg "__name__").getD .none) c' ctv) htb
  have S₃:=S₂.hide1 (t:=23) (by decide) h23 e23₂
  have hL:=Heap.get?_push_size h' (o:=kla_obj "<lambda>" (env.qual ++ "<lambda>") params body scope [(v,c)] ((mg "__name__").getD .none) c' ctv) rfl
  have hrec2:(h'.push (kla_obj "<lambda>" (env.qual ++ "<lambda>") params body scope [(v,c)] ((mg "__name__").getD .none) c' ctv)).CodeRec (.ref c') (env.qual ++ "<lambda>"):=hrec.keeps fun b o e=>Heap.get?_push_of_some _ e
  generalize (h'.push (kla_obj "<lambda>" (env.qual ++ "<lambda>") params body scope [(v,c)] ((mg "__name__").getD .none) c' ctv)) = h2 at S₃ S₂ kp2 e23₂ e248₂ hL hrec2 ⊢
  have fr:∀ b,hh.objs.size ≤ b → hh.get? b = none:=fun b hb=>Heap.get?_none_of_le hb
  refine spliced_nil ⟨S₃.gi, ?_⟩
  refine call_cmp G S₃.op (rm.down h5) h23 e23₂ hsm fun cc kc as h3 tk3 kp3 gi3 a23 fresh ccm cell tell=>?_
  have S₄:=S₃.nxU (t:=23) (.head _) (Heap.hide_self _ _) e23₂ kp3 gi3 (let ⟨_,e⟩:=a23; ⟨_,e⟩)
  have lt1:hh.objs.size ≤ h'.objs.size:=Nat.le_of_lt (Nat.lt_of_le_of_lt hge hlt)
  obtain ⟨psT,hTT,_⟩:=S₁.gi.tab
  have ne:∀ b t o,hh.objs.size ≤ b → hh.get? t = some o → b ≠ t:=fun b t o hb e z=>by
    have:=fr b hb
    rw [z,e] at this; cases this
  have neT:∀ b,hh.objs.size ≤ b → b ≠ 23 ∧ b ≠ Tb:=fun b hb=>⟨ne _ _ _ hb e23₁,ne _ _ _ hb hTT⟩
  have hL3:=kp3 _ _ (neT _ lt1).1 (neT _ lt1).2 hL
  obtain ⟨cx,oc,vs,tq,e2,hoc,hd,hv⟩:=hrec2
  cases e2
  refine hQ _ _ kc h'.objs.size cc c' _ ctv as S₄ S₄.base (fun b o h1 h2 e=>(Heap.hide_ne _ h1).trans ((Heap.hide_ne _ h2).trans e)) ⟨_,_,rfl⟩ (fun b o h1 h2 h3 e=>kp3 b o h1 h3 (kp2 b o h2 (n₁.1.get h3 e))) (fun a ha=>?_) hL3 ⟨_,oc,vs,tq,rfl,kp3 _ _ (neT _ hge).1 (neT _ hge).2 hoc,hd,hv⟩ ccm cell tell a23 ⟨_,kp3 _ _ (by decide) (by decide) e248₂⟩
  rcases List.mem_cons.mp ha with rfl | ha
  · exact up1 _ (fr _ lt1)
  · rcases List.mem_cons.mp ha with rfl | ha
    · exact up1 _ (fr _ hge)
    · refine up1 _ ?_
      show hh.get? a = none
      cases q:hh.get? a with
      | none=>rfl
      | some o =>
        by_cases z:a = 248
        · have:=fresh a ha
          subst z
          obtain ⟨ob,eb⟩:=S₂.alive 248 (.head _)
          rw [this] at eb; cases eb
        · have:=fresh a ha
          rw [kp2 a o z q] at this; cases this
end
end
section
theorem sw_cell {scope sc:Scope}{x:Str}{p pos:Pos}{elt:Expr}{gs:List Comprehension}{l:Nat}(h:(sc.names.lookup x == some .local) = false):∀ env:Env,env.scope = sc → swapsWith (.ListComp elt gs scope pos) (some (.Name x p)) l env = pure false:=fun env he=>by
  subst he
  show pure (env.blockKind == .function && env.kindOf x == some .local && p.line == pos.line && !(scope.names.any fun (n,k)=>n == x && (k == .local || k == .cell))) = _
  have h2:(env.kindOf x == some .local) = false:=h
  rw [h2,Bool.and_false,Bool.false_and,Bool.false_and]
noncomputable def stepI (script:List Int) (i:Nat):List Int:=pickT (some (0 + (i:Int))) none (some 5) script
noncomputable def base5 (i:Nat):Int:=[17,2,25,1,10].getD i 0
noncomputable def msT (script:List Int) (i:Nat):Int:=sumT (stepI script i) + base5 i
noncomputable def oddT (script:List Int):Bool:=(script.length:Int).fmod 2 == 1
noncomputable abbrev thingD (b:Bool) (ms:Nat → Int) (i:Nat):D:=.tuple [tx b (pathOf (nsT ms i)), .int i]
noncomputable abbrev lawV0 (sa:Addr) (script:List Int) (a b c d:Option D) (r:D):List Var:=[⟨"script", .own,some (.val (.ref sa))⟩,⟨"pieces", .loc,a⟩,⟨"rows", .own,b⟩,⟨"places", .own,c⟩,⟨"things", .loc,d⟩,⟨"wrap", .loc,none⟩,⟨"order", .loc,none⟩,⟨"rules", .own,some r⟩]
noncomputable abbrev piecesD (script:List Int):D:=.list ((List.range 5).map fun i=>.list ((piecesT (msT script i)).map T))
theorem CallR.castD {w:World}{h₀:Heap}{n:Nat}{f:Value}{ds:List D}{c d:D}(h:c = d) (x:CallR w h₀ n f ds c):CallR w h₀ n f ds d:=h ▸ x
theorem EV.castI {w:World}{h₀:Heap}{n:Nat}{sc:Scope}{ω:Owns}{σ:List Var}{e:Expr}{i j:Int}(h:i = j) (x:EV w h₀ n sc ω σ e (.int i)):EV w h₀ n sc ω σ e (.int j):=h ▸ x
theorem base_at {i:Nat}(hi:i < 5):([.int 17, .int 2, .int 25, .int 1, .int 10]:List D)[(0 + (i:Int)).toNat]? = some (.int (base5 i)):=by
  exact lt5 (P:=fun i=>([.int 17, .int 2, .int 25, .int 1, .int 10]:List D)[(0 + (i:Int)).toNat]? = some (.int (base5 i))) rfl rfl rfl rfl rfl i hi
section
variable {w:World}{h₀:Heap}(G:Gr w h₀)
include G
theorem law_head {A:Around}{env:Env}{X:List Addr}{s0 s:Shared}{script:List Int}{Q:Flow → Shared → Prop}{E:Value → Shared → Prop}{o:Obj}{fd:FuncData}{rest:List Stmt}{st1 st2 st3 st4 st5:Stmt}{sa:Addr}(hs:IntsAt h₀ sa script) (hz:script.length ≤ 63) (rm:Room A 15)
    (ho:(KF w).lookup 251 = some o) (hd:o.data = .func fd) (hb:fd.body = .stmts (st1 :: st2 :: st3 :: st4 :: st5 :: rest))
    (S:St h₀ fd.scope env X s0 [] (mkv [("script", .own),("pieces", .loc),("rows", .own),("places", .own),("things", .loc),("wrap", .loc),("order", .loc),("rules", .own)] [.val (.ref sa)]) s)
    (hq:∀ X' s',Grow X s X' s' → St h₀ fd.scope env X' s0 [] (lawV0 sa script (some (piecesD script)) (some (.list ((rowsL (msT script)).map NsD))) (some (.list ((placesL (msT script)).map (tx (oddT script))))) (some (.list ((List.range 5).map (thingD (oddT script) (msT script))))) (.int (sumT script))) s' → wpAny (model prog w) A (execs rest env) Q E s') :
    wpAny (model prog w) A (execs (st1 :: st2 :: st3 :: st4 :: st5 :: rest) env) Q E s:=by
  cases ho
  cases hd
  cases hb
  refine kc6 (ka1 (d:=.int (sumT script)) (ka8 (ka3 (gv_sum G) (by decide +kernel)) (.inl ⟨_,rfl⟩) (.cons rfl (ka0 .z) .nil) (sum_raw hs)) (.s (.s (.s (.s (.s (.s (.s .z)))))))) rm S fun X1 s1 g1 S1=>?_
  refine kc6 (kai (acc':=(List.range 5).map fun i=>.list ((piecesT (msT script i)).map T)) (kb1 (m:=5) (kbo G) (by decide +kernel) ka7 (by decide))
    (CompOk.of (σc:=[⟨"script", .ext,some (.val (.ref sa))⟩,⟨"k", .loc,none⟩]) [("script", .own),("pieces", .loc),("rows", .own),("places", .own),("things", .loc),("wrap", .loc),("order", .loc),("rules", .own)] [("script", .ext),("k", .loc)] (by decide +kernel) (.ext (k:=.own) (by decide) (.head _) (.own (by decide) .nil)) rfl rfl) ?_ (Nat.le_of_ble_eq_true rfl) (.s .z) (sw_ok (by decide +kernel))) rm S1 fun X2 s2 g2 S2=>?_
  · refine CL.mp (σ:=fun (o:Option Nat)=>[⟨"script", .ext,some (.val (.ref sa))⟩,⟨"k", .loc,o.map fun (i:Nat)=>D.int (0 + (i:Int))⟩]) (it:=fun (i:Nat)=>D.int (0 + (i:Int))) (List.range 5) (fun o c ω=>kac (.s .z)) rfl fun i hi ω=>?_
    have hi:=List.mem_range.mp hi
    refine ka8 (ka3 (kia G) (by decide +kernel)) (cal_pieces G) (.cons rfl ?_ .nil) ((f_pieces G (m:=msT script i)).mono (by decide))
    refine kad (a:=.int (sumT (stepI script i))) (b:=.int (base5 i)) ?_ ?_ kal
    · refine ka8 (ka3 (gv_sum G) (by decide +kernel)) (.inl ⟨_,rfl⟩) (.cons rfl (EV.cast ?_ (kav (ka0 .z) (.some (ka0 (.s .z))) .none (.some ka7) (slc_raw hs (by decide) (by lia)))) .nil) call_sum
      rw [pick_map]; rfl
    · exact kao (kaj (.cons rfl ka7 (.cons rfl ka7 (.cons rfl ka7 (.cons rfl ka7 (.cons rfl ka7 .nil)))))) (ka0 (.s .z)) (kah (by lia) (by lia) (base_at hi))
  refine kc6 (kdu (d:=.list ((rowsL (msT script)).map NsD)) (by
    rw [rowsL,List.map_map]
    refine kb5 (.of (ka0 (.s .z)) kae) (CompOk.of (σc:=[⟨"row", .loc,none⟩]) [("script", .own),("pieces", .loc),("rows", .own),("places", .own),("things", .loc),("wrap", .loc),("order", .loc),("rules", .own)] [("row", .loc)] (by decide +kernel) (.own (by decide) .nil) rfl rfl) ?_ (Nat.le_of_ble_eq_true rfl)
    refine CL.mp (σ:=fun (o:Option Nat)=>[⟨"row", .loc,o.map fun (i:Nat)=>D.list ((piecesT (msT script i)).map T)⟩]) (it:=fun (i:Nat)=>D.list ((piecesT (msT script i)).map T)) (f:=NsD ∘ nsT (msT script)) (List.range 5) (fun o c ω=>kac .z) rfl fun i hi ω=>?_
    exact ka8 (ka3 (kjo G) (by decide +kernel)) (cal_names G) (.cons rfl (ka0 .z) .nil) ((f_names G (by rw [kkq]; decide) (six_ok _)).mono (by decide))) (.s (.s .z)) (by decide) (sw_cell (by decide +kernel))) rm S2 fun X3 s3 g3 S3=>?_
  refine kc6 (kdu (d:=.list ((placesL (msT script)).map (tx (oddT script)))) (by
    rw [placesL,List.map_map]
    refine kb5 (.of (ka0 (.s .z)) kae) (CompOk.of (σc:=[⟨"script", .ext,some (.val (.ref sa))⟩,⟨"row", .loc,none⟩]) [("script", .own),("pieces", .loc),("rows", .own),("places", .own),("things", .loc),("wrap", .loc),("order", .loc),("rules", .own)] [("script", .ext),("row", .loc)] (by decide +kernel) (.ext (k:=.own) (by decide) (.head _) (.own (by decide) .nil)) rfl rfl) ?_ (Nat.le_of_ble_eq_true rfl)
    refine CL.mp (σ:=fun (o:Option Nat)=>[⟨"script", .ext,some (.val (.ref sa))⟩,⟨"row", .loc,o.map fun (i:Nat)=>D.list ((piecesT (msT script i)).map T)⟩]) (it:=fun (i:Nat)=>D.list ((piecesT (msT script i)).map T)) (f:=tx (oddT script) ∘ fun i=>pathOf (nsT (msT script) i)) (List.range 5) (fun o c ω=>kac (.s .z)) rfl fun i hi ω=>?_
    refine ka8 (ka3 (kjn G) (by decide +kernel)) (cal_place G) (.cons rfl (ka0 (.s .z)) (.cons rfl (EV.cast ?_ (kb8 (kad (ka8 (ka3 (ke0 G) (by decide +kernel)) (.inl ⟨_,rfl⟩) (.cons rfl (ka0 .z) .nil) (len_raw hs (by lia))) ka7 (kat (by decide))) ka7 kb9)) .nil)) ((CallR.castD ?_ (f_place G (b:=oddT script) (ps:=piecesT (msT script i)) (kdi _ _).1)).mono (by decide))
    · rfl
    · show tx _ _ = tx _ _
      rw [place_is]) (.s (.s (.s .z))) (by decide) (sw_cell (by decide +kernel))) rm S3 fun X4 s4 g4 S4=>?_
  refine kc6 (kai (acc':=(List.range 5).map (thingD (oddT script) (msT script))) (kb1 (m:=5) (kbo G) (by decide +kernel) ka7 (by decide))
    (CompOk.of (σc:=[⟨"places", .ext,some (.list ((placesL (msT script)).map (tx (oddT script))))⟩,⟨"k", .loc,none⟩]) [("script", .own),("pieces", .loc),("rows", .own),("places", .own),("things", .loc),("wrap", .loc),("order", .loc),("rules", .own)] [("places", .ext),("k", .loc)] (by decide +kernel) (.ext (k:=.own) (by decide) (.tail _ (.tail _ (.tail _ (.head _)))) (.own (by decide) .nil)) rfl rfl) ?_ (Nat.le_of_ble_eq_true rfl) (.s (.s (.s (.s .z)))) (sw_ok (by decide +kernel))) rm S4 fun X5 s5 g5 S5=>?_
  · refine CL.mp (σ:=fun (o:Option Nat)=>[⟨"places", .ext,some (.list ((placesL (msT script)).map (tx (oddT script))))⟩,⟨"k", .loc,o.map fun (i:Nat)=>D.int (0 + (i:Int))⟩]) (it:=fun (i:Nat)=>D.int (0 + (i:Int))) (List.range 5) (fun o c ω=>kac (.s .z)) rfl fun i hi ω=>?_
    have hi:=List.mem_range.mp hi
    refine kb4 (.cons rfl (kao (ka0 .z) (ka0 (.s .z)) (kah (by lia) (by lia) ?_)) (.cons rfl (EV.castI (by lia) (ka0 (.s .z))) .nil))
    rw [show (0 + (i:Int)).toNat = i by lia,placesL,List.map_map,List.getElem?_map,List.getElem?_range hi]; rfl
  exact hq X5 s5 ((((g1.trans g2).trans g3).trans g4).trans g5) S5
end
end
section
theorem imm_tx {b:Bool}{cs:List Nat}{X:List Addr}{h:Heap}{v:Value}(r:R X h v (tx b cs)):∀ Y g,R Y g v (tx b cs):=fun Y g=>by
  cases b <;> (cases r; constructor)
theorem imm_int {i:Int}{X:List Addr}{h:Heap}{v:Value}(r:R X h v (.int i)):∀ Y g,R Y g v (.int i):=fun Y g=>by
  obtain ⟨t,rfl⟩:=r.int_eq
  exact .int _ _
inductive ThingAt (h:Heap) (b:Bool) (ms:Nat → Int) (i:Nat) (v:Value):Prop
  | mk (a:Addr) (p k:Value) (e:v = .ref a) (t:h.IsTuple a [p,k].toArray) (r1:∀ X g,R X g p (tx b (pathOf (nsT ms i)))) (r2:∀ X g,R X g k (.int i)):ThingAt h b ms i v
theorem ThingAt.of {X:List Addr}{h h₁:Heap}{b:Bool}{ms:Nat → Int}{i:Nat}{v:Value}(r:R X h v (thingD b ms i)) (k:∀ a o,a ∉ X → h.get? a = some o → h₁.get? a = some o):ThingAt h₁ b ms i v:=by
  obtain ⟨a,us,rfl,ht,haX,ru⟩:=r.tuple_eq
  obtain ⟨p,q,rfl,r1,r2⟩:=ru.two
  exact ⟨a,p,q,rfl,kc9 ht fun o e=>k _ _ haX e,imm_tx r1,imm_int r2⟩
theorem ThingAt.up {h h₁:Heap}{b:Bool}{ms:Nat → Int}{i:Nat}{v:Value}(t:ThingAt h b ms i v) (k:∀ a o,h.get? a = some o → h₁.get? a = some o):ThingAt h₁ b ms i v :=
  let ⟨a,p,q,e,ht,r1,r2⟩:=t; ⟨a,p,q,e,kc9 ht fun o e=>k _ _ e,r1,r2⟩
theorem ThingAt.handed {h:Heap}{b:Bool}{ms:Nat → Int}{i:Nat}{v:Value}(t:ThingAt h b ms i v):handedIn v = true:=by
  obtain ⟨a,p,q,rfl,_⟩:=t; rfl
noncomputable abbrev lawV1 (sa:Addr) (script:List Int) (T kc:Addr) (order:Option D):List Var:=[⟨"script", .ext,some (.val (.ref sa))⟩,⟨"pieces", .loc,some (piecesD script)⟩,⟨"rows", .ext,some (.list ((rowsL (msT script)).map NsD))⟩,⟨"places", .ext,some (.list ((placesL (msT script)).map (tx (oddT script))))⟩,⟨"things", .loc,some (.val (.ref T))⟩,⟨"wrap", .loc,some (.val (.ref kc))⟩,⟨"order", .loc,order⟩,⟨"rules", .ext,some (.int (sumT script))⟩]
noncomputable def LawQ (w:World) (h₀:Heap) (A:Around) (env:Env) (s0:Shared) (script:List Int) (sa:Addr) (Q:Flow → Shared → Prop) (E:Value → Shared → Prop) (fd:FuncData) (rest:List Stmt):Prop :=
  ∀ h₁ s1 X' s' T kc L (vs:List Value),Gr w h₁ → KUse w h₁ L kc → Cal h₁ (.ref L) → h₁.IsList T vs.toArray → vs.length = 5 → (∀ i v,vs[i]? = some v → ThingAt h₁ (oddT script) (msT script) i v) →
      (∀ h₂ i j v u,(∀ b o,h₁.get? b = some o → h₂.get? b = some o) → vs[i]? = some v → vs[j]? = some u → CallR w h₂ 10 (.ref L) [.val v, .val u] (.int (ansN (nsT (msT script) i) (nsT (msT script) j) (sumT script)))) →
      St h₁ fd.scope env X' s1 [] (lawV1 sa script T kc none) s' →
      (∀ d fl s'',OutOk h₁ fd.scope env X' s1 s' (.ret d) fl s'' → ∃ v,fl = .ret v ∧ R [] s''.heap v (.val v) ∧ (∀ i,d = .bool i → v = .bool i) ∧ (∃ h tk,s'' = { s0 with heap:=h,toks:=tk }) ∧ (∀ b o,b ≠ 23 → b ≠ 248 → b ≠ Tb → s0.heap.get? b = some o → s''.heap.get? b = some o) ∧ GI h₀ s'' ∧ (∃ ps,s''.heap.get? 23 = some (tabObj ps)) ∧ ∃ ps,s''.heap.get? 248 = some (tabObj ps)) →
      wpAny (model prog w) A (execs rest env) Q E s'
section
variable {w:World}{h₀:Heap}(G:Gr w h₀)
include G
theorem law_wrap {A:Around}{env:Env}{X:List Addr}{s0 s:Shared}{script:List Int}{sa:Addr}{Q:Flow → Shared → Prop}{E:Value → Shared → Prop}{o:Obj}{fd:FuncData}{rest:List Stmt}{st1 st2 st3 st4 st5 st6:Stmt}(rm:Room A 15) (h23:h₀.get? 23 = none) (h248:h₀.get? 248 = none) (hsm:∃ o,h₀.get? sysModules = some o)
    (e23:s.heap.get? 23 = some (tabObj #[])) (e248:s.heap.get? 248 = some (tabObj #[])) (ho:(KF w).lookup 251 = some o) (hd:o.data = .func fd) (hb:fd.body = .stmts (st1 :: st2 :: st3 :: st4 :: st5 :: st6 :: rest)) (hcode:env.code = .ref 250)
    (S:St h₀ fd.scope env X s0 [] (lawV0 sa script (some (piecesD script)) (some (.list ((rowsL (msT script)).map NsD))) (some (.list ((placesL (msT script)).map (tx (oddT script))))) (some (.list ((List.range 5).map (thingD (oddT script) (msT script))))) (.int (sumT script))) s)
    (hq:LawQ w h₀ A env s0 script sa Q E fd rest) :
    wpAny (model prog w) A (execs (st6 :: rest) env) Q E s:=by
  cases ho
  cases hd
  cases hb
  obtain ⟨c0,ov0,hc0,hcl0,hcX,hcv⟩:=S.cell ⟨"rules", .own,some (.int (sumT script))⟩ (.tail _ (.tail _ (.tail _ (.tail _ (.tail _ (.tail _ (.tail _ (.head _)))))))) (fun q=>VK.noConfusion q)
  refine wpAny_execs_cons (wpAny_Assign_Name (wp_wrap (v := "rules") (c:=c0) G rm (by decide) S h23 h248 e23 e248 hsm (ka3 (kid G) (by decide +kernel)) rfl ?_ hcode fun s0' s1 kc L cc c' pm ctv as S1 k0 old sh kp fresh hL hrec hcc hcell tell t23 t248=>S1.store_loc (.s (.s (.s (.s (.s .z))))) (.val _) fun s2 g2 S2 sm2=>?_) (kfm rfl))
  · rw [kbt (fun x hx=>?_)]
    · show pure [(("rules" : Str),(env.cells.lookup ("rules" : Str)).getD 0)] = _
      rw [hc0]; rfl
    · rcases List.mem_cons.mp hx with e | hx
      · exact NameKind.noConfusion (congrArg Prod.snd e)
      · rcases List.mem_cons.mp hx with e | hx
        · exact NameKind.noConfusion (congrArg Prod.snd e)
        · rcases List.mem_cons.mp hx with e | hx
          · have e':x = ("rules" : Str):=congrArg Prod.fst e
            rw [e',hc0]; rfl
          · exact NameKind.noConfusion (congrArg Prod.snd (List.mem_singleton.mp hx))
  obtain ⟨mL,hmL,_⟩:=S1.ns
  obtain ⟨ps23,t23⟩:=t23
  obtain ⟨ps248,t248⟩:=t248
  have u23:=(sm2 23 (kc7 hmL t23)).trans t23
  have u248:=(sm2 248 (kc7 hmL t248)).trans t248
  obtain ⟨mL2,hmL2,_⟩:=S2.ns
  obtain ⟨tv,rT,mk⟩:=S2.raw (x := "things") (d:=.list ((List.range 5).map (thingD (oddT script) (msT script)))) (.s (.s (.s (.s .z))))
  obtain ⟨T,vs,rfl,hT,hTX,rs⟩:=rT.list_plain
  have S3:=mk _ (.s (.s (.s (.s .z))))
  obtain ⟨h₁,s3,up,out,S4,conv⟩:=S3.rebase
  simp only [List.map_cons,List.map_nil,Var.fix,reduceCtorEq,if_false,if_true] at S4
  have out':∀ b o,b ∉ 23 :: 248 :: X → s2.heap.get? b = some o → h₁.get? b = some o:=fun b o hb=>out b o (fun z=>hb (z ▸ S2.locX)) fun z=>hb (z ▸ S2.tabX)
  have far:∀ a ∈ L :: c' :: as,a ∉ 23 :: 248 :: X:=fun a ha m=>by
    have fa:=fresh a ha
    rcases List.mem_cons.mp m with rfl | m
    · rw [e23] at fa; cases fa
    · rcases List.mem_cons.mp m with rfl | m
      · rw [e248] at fa; cases fa
      · obtain ⟨o,e⟩:=S.alive a m
        rw [fa] at e; cases e
  have mv:∀ a ∈ L :: c' :: as, ∀ o,s1.heap.get? a = some o → h₁.get? a = some o:=fun a ha o e=>out' a o (far a ha) (g2.keep a o (far a ha) e)
  have hL₁:=mv L (.head _) _ hL
  obtain ⟨cx,oc,fs,tq,e2,hoc,hd,hv⟩:=hrec
  cases e2
  have hoc₁:=mv c' (.tail _ (.head _)) _ hoc
  have ma:∀ a ∈ as, ∀ o,s1.heap.get? a = some o → h₁.get? a = some o:=fun a ha o e=>mv a (.tail _ (.tail _ ha)) o e
  have G₁:=G.up up
  have use:KUse w h₁ L kc:=⟨cc,as,tell.keep ma,kaf hcell fun o e=>ma cc hcc o e⟩
  obtain ⟨c1,ov,h1,h2,_,hval⟩:=S2.cell ⟨"rules", .own,some (.int (sumT script))⟩ (.tail _ (.tail _ (.tail _ (.tail _ (.tail _ (.tail _ (.tail _ (.head _)))))))) (fun q=>VK.noConfusion q)
  rw [hc0] at h1; cases h1
  obtain ⟨rv,rfl,rr⟩:=hval _ rfl
  obtain ⟨m,hm,_⟩:=S2.ns
  obtain ⟨psT,hTT,_⟩:=S2.gi.tab
  have hc₁:h₁.IsCell c0 (some rv):=kaf h2 fun o e=>out c0 o (kdb h2 hm) (kaz h2 hTT) e
  have hlen:vs.length = 5:=by rw [rs.length]; rfl
  have thing:∀ i v,vs[i]? = some v → ThingAt h₁ (oddT script) (msT script) i v:=fun i v hi=>by
    have hi5:i < 5:=by
      obtain ⟨z,_⟩:=List.getElem?_eq_some_iff.mp hi
      omega
    obtain ⟨v',q1,q2⟩:=rs.get (k:=i) (d:=thingD (oddT script) (msT script) i) (by rw [List.getElem?_map,List.getElem?_range hi5]; rfl)
    rw [hi] at q1; cases q1
    exact .of q2 out'
  refine hq h₁ s3 (23 :: 248 :: X) s2 T kc L vs G₁ use (.inr (.inr ⟨_,_,_,rfl,hL₁,rfl⟩)) (kb2 hT.isList fun o e=>out' T o hTX e) hlen thing (fun h₂ i j v u up2 hi hj=>?_) S4 fun d fl s'' oo=>?_
  · obtain ⟨a,p,q,rfl,ta,rp,_⟩:=(thing i v hi).up up2
    obtain ⟨a',p',q',rfl,ta',rp',_⟩:=(thing j u hj).up up2
    have G₂:=G₁.up up2
    refine clo_lam (n:=9) (dt:=.int (sumT script)) G₂ (up2 _ _ hL₁) ⟨_,oc,fs,tq,rfl,up2 _ _ hoc₁,hd,hv⟩ (kaf hc₁ fun o e=>up2 _ _ e) (fun h Y=>imm_int rr Y h) (fun _ _=>rfl) (by decide +kernel) rfl rfl (by decide) ?_
    exact ka8 (ka3 (kib G₂) (by decide +kernel)) (cal_answer G₂) (.cons rfl (kao (ka0 (.s .z)) ka7 (kds ta (i:=0) (by decide) rfl rp)) (.cons rfl (kao (ka0 (.s (.s .z))) ka7 (kds ta' (i:=0) (by decide) rfl rp')) (.cons rfl (ka0 .z) .nil)))
      (CallR.castD (by rw [answer_eq (ns_in _ i) (ns_in _ j)]) (f_answer G₂ (k:=9) (answer_ok (ns_in _ i) (ns_in _ j))))
  · have i23:=out 23 _ (kc7 hmL2 u23) (by decide) u23
    have i248:=out 248 _ (kc7 hmL2 u248) (by decide) u248
    have ob:=conv d fl s'' oo
    cases fl with
    | ret v =>
      obtain ⟨_,gi1,_⟩:=oo
      obtain ⟨k,gi,Y,hY,r⟩:=ob
      obtain ⟨h3,t3,q3,k3⟩:=k
      obtain ⟨h4,t4,q4⟩:=sh
      subst q4
      refine ⟨v,rfl, .val v,fun i e=>by subst e; exact r.bool_eq,⟨h3,t3,q3⟩,fun b o n1 n2 n3 e=>?_,gi,⟨_,gi1.keep _ _ i23⟩,⟨_,gi1.keep _ _ i248⟩⟩
      rw [q3]
      exact k3 b o n3 (old b o n1 n2 e)
    | _=>exact ob.elim
end
end
section
section
variable {w:World}{h₁:Heap}(G:Gr w h₁)
include G
theorem cal_keys:Cal h₁ (.ref 246):=.inr (.inr ⟨_,_,_,rfl,G.K 246 _ rfl,rfl⟩)
theorem law_tail {A:Around}{env:Env}{X:List Addr}{s0 s:Shared}{script:List Int}{sa:Addr}{Q:Flow → Shared → Prop}{E:Value → Shared → Prop}{o:Obj}{fd:FuncData}{rest:List Stmt}{st1 st2 st3 st4 st5 st6:Stmt}{T kc L:Addr}{vs:List Value}(rm:Room A 15)
    (ho:(KF w).lookup 251 = some o) (hd:o.data = .func fd) (hb:fd.body = .stmts (st1 :: st2 :: st3 :: st4 :: st5 :: st6 :: rest)) (use:KUse w h₁ L kc) (hL:Cal h₁ (.ref L)) (hT:h₁.IsList T vs.toArray) (hv:vs.length = 5) (thing:∀ i v,vs[i]? = some v → ThingAt h₁ (oddT script) (msT script) i v)
    (ans:∀ h₂ i j v u,(∀ b o,h₁.get? b = some o → h₂.get? b = some o) → vs[i]? = some v → vs[j]? = some u → CallR w h₂ 10 (.ref L) [.val v, .val u] (.int (ansN (nsT (msT script) i) (nsT (msT script) j) (sumT script))))
    (S:St h₁ fd.scope env X s0 [] (lawV1 sa script T kc none) s) (hq:∀ fl s',OutOk h₁ fd.scope env X s0 s (.ret (.bool true)) fl s' → Q fl s'):wpAny (model prog w) A (execs rest env) Q E s:=by
  cases ho
  cases hd
  cases hb
  have vat:∀ i:Nat,i < 5 → vs[i]? = some (vs.getD i .none):=fun i hi=>by
    rw [List.getD_eq_getElem?_getD,List.getElem?_eq_getElem (by lia)]; rfl
  have hnd:∀ v ∈ vs,handedIn v = true:=fun v hm=>by
    obtain ⟨i,hi,rfl⟩:=List.mem_iff_getElem.mp hm
    exact (thing i _ (List.getElem?_eq_getElem hi)).handed
  obtain ⟨lf,el⟩:=perm_fin (msT script) (sumT script)
  have hlf:lf.length = 5:=by
    have:=congrArg List.length el
    rw [List.length_map,perm_len] at this
    exact this
  have eo:lf.map (fun i=>D.int ((i.val:Nat):Int)) = (walkT 4 (rowsN (nsT (msT script))) 0 (sumT script)).map D.int:=by
    rw [← kg0, ← el,List.map_map,List.map_map]; rfl
  have el':=el
  unfold permL at el'
  have ed:D.list ((kasRun (fun i j=>decide ((fun i j=>ansN (nsT (msT script) i) (nsT (msT script) j) (sumT script)) i j < 0)) (kas_sort 5)).toList.map fun i=>D.val (vs.getD i .none)) = D.list (lf.map fun i=>D.val (vs.getD i.val .none)):=by
    show D.list ((kasRun (fun i j=>decide (ansN (nsT (msT script) i) (nsT (msT script) j) (sumT script) < 0)) (kas_sort 5)).toList.map fun i=>D.val (vs.getD i .none)) = _
    rw [← el',List.map_map]; rfl
  refine kc6 (kai (ds:=lf.map fun i=>D.val (vs.getD i.val .none)) (acc':=lf.map fun i=>D.int ((i.val:Nat):Int)) (.of (EV.cast ed (ev_sorted (n:=10) (z:=fun i j=>ansN (nsT (msT script) i) (nsT (msT script) j) (sumT script)) G (ka3 (gv_sorted G) (by decide +kernel)) (.s (.s (.s (.s .z)))) (.s (.s (.s (.s (.s .z))))) use hL hT hv hnd ans)) kae)
    (CompOk.of (σc:=[⟨"place", .loc,none⟩,⟨"k", .loc,none⟩]) [("script", .ext),("pieces", .loc),("rows", .ext),("places", .ext),("things", .loc),("wrap", .loc),("order", .loc),("rules", .ext)] [("place", .loc),("k", .loc)] (by decide +kernel) (.own (by decide) (.own (by decide) .nil)) rfl rfl) ?_ (by rw [List.length_map,hlf]; decide) (.s (.s (.s (.s (.s (.s .z)))))) (sw_ok (by decide +kernel))) rm S fun X2 s2 g2 S2=>?_
  · refine CL.mp (σ:=fun (o:Option (Fin 5))=>[⟨"place", .loc,o.map fun i=>tx (oddT script) (pathOf (nsT (msT script) i.val))⟩,⟨"k", .loc,o.map fun i=>D.int ((i.val:Nat):Int)⟩]) (it:=fun (i:Fin 5)=>D.val (vs.getD i.val .none)) lf (fun o i ω=>?_) rfl fun i hi ω=>ka0 (.s .z)
    obtain ⟨a,p,q,e,ta,rp,rq⟩:=thing i.val _ (vat i.val i.isLt)
    rw [e]
    exact asg_raw ta (fun X h=>.cons (rp X h) (.cons (rq X h) .nil)) (.cons (by decide) .z (.cons (by decide) (.s .z) .nil))
  rw [eo] at S2
  have hn:=kg3 (msT script)
  obtain ⟨order,ho⟩ : ∃ order,order = walkT 4 (rowsN (nsT (msT script))) 0 (sumT script):=⟨_,rfl⟩
  rw [← ho] at S2
  have hlen:order.length = 5:=by rw [ho, ← kg0,List.length_map,perm_len]
  refine kc6 (ω':=[]) (σ':=lawV1 sa script T kc (some (IsD order))) (ss_if (c:=false) (kam (ka0 (.s (.s (.s (.s (.s (.s .z))))))) (ka8 (d:=IsD order) (ka3 (kg7 G) (by decide +kernel)) (cal_walk G) (ds:=[.list ((rowsN (nsT (msT script))).map rowD), .int ((0:Nat):Int), .int (sumT script)]) (.cons rfl ?_ (.cons rfl ka7 (.cons rfl (ka0 (.s (.s (.s (.s (.s (.s (.s .z)))))))) .nil)))
    ((CallR.castD (by rw [ho]) (f_walk G 4 (rowsN (nsT (msT script))) 0 (kkp _) (Nat.le_of_eq (by simp [rowsN])) (by decide) (by decide))).mono (by decide))) ((cmp_ne_map (k:=1) Inj.int.list (okB.map fun i _=>okB.int 0 i) (okB.map fun i _=>okB.int 0 i) (by decide)).cast (by simp))) (fun h=>by cases h) (fun _=>kbw)) rm S2 fun X3 s3 g3 S3=>?_
  · rw [rowsN,List.map_map]
    refine kb5 (kb1 (m:=5) (kbo G) (by decide +kernel) ka7 (by decide)) (CompOk.of (σc:=[⟨"rows", .ext,some (.list ((rowsL (msT script)).map NsD))⟩,⟨"k", .loc,none⟩]) [("script", .ext),("pieces", .loc),("rows", .ext),("places", .ext),("things", .loc),("wrap", .loc),("order", .loc),("rules", .ext)] [("rows", .ext),("k", .loc)] (by decide +kernel) (.ext (k:=.ext) (by decide) (.tail _ (.tail _ (.head _))) (.own (by decide) .nil)) rfl rfl) ?_ (Nat.le_of_ble_eq_true rfl)
    refine CL.mp (σ:=fun (o:Option Nat)=>[⟨"rows", .ext,some (.list ((rowsL (msT script)).map NsD))⟩,⟨"k", .loc,o.map fun (i:Nat)=>D.int (0 + (i:Int))⟩]) (it:=fun (i:Nat)=>D.int (0 + (i:Int))) (f:=rowD ∘ fun i=>(nsT (msT script) i,(i:Int))) (List.range 5) (fun o c ω=>kac (.s .z)) rfl fun i hi ω=>?_
    have hi:=List.mem_range.mp hi
    refine kb4 (.cons rfl (kao (ka0 .z) (ka0 (.s .z)) (kah (by lia) (by lia) ?_)) (.cons rfl (EV.castI (j:=(i:Int)) (by lia) (ka0 (.s .z))) .nil))
    rw [show (0 + (i:Int)).toNat = i by lia,List.getElem?_map,kd6 _ hi]; rfl
  refine ka4 (kab (d:=.bool (true && true)) (ev_and (a:=true) (b:=true) ?_ fun _=>?_)) A env X3 _ s3 Q E rm S3 fun fl s' o=>hq fl s' (o.back (g2.trans g3))
  · refine ka8 (ka3 (kjk G) (by decide +kernel)) (cal_tours G) (.cons rfl (ka8 (ka3 (kjl G) (by decide +kernel)) (cal_table G) (.cons rfl (ka0 (.s (.s (.s .z)))) .nil) ((f_table G (table_ok (msT script) (oddT script))).mono (by decide)))
      (.cons rfl (ka8 (ka3 (kjm G) (by decide +kernel)) (cal_sides G) (.cons rfl (ka0 (.s (.s .z))) .nil) ((f_sides G (by rw [kfo]; decide) fun ns hns=>?_).mono (by decide))) .nil))
      ((f_tours (m:=8) G (by decide) (sides_len5 _) (sides_le _) (fun rest hr=>f_tour G (orders4 rest hr).2 (sq5_table _)) (toursOk_of (kfo _) fun k j hk hj=>dist_is _ _ hk hj)).mono (by decide))
    obtain ⟨i,_,rfl⟩:=List.mem_map.mp hns
    exact ⟨ns_ok _ i,by have:=(hn i).2; lia⟩
  · have r0:0 ≤ (sumT script).fmod 5:=Int.fmod_nonneg_of_pos _ (by decide)
    have r5:(sumT script).fmod 5 < 5:=Int.fmod_lt_of_pos _ (by decide)
    obtain ⟨k,hk⟩ : ∃ k:Nat,(sumT script).fmod 5 = (k:Int):=⟨_,(Int.toNat_of_nonneg r0).symm⟩
    have hk5:k < 5:=by lia
    have hj5:(k + 4) % 5 < 5:=by lia
    have inO:∀ i:Nat,i < 5 → ((i:Int) ∈ order):=fun i hi=>by rw [ho]; exact (kdr hn _).mpr ⟨i,hi,rfl⟩
    refine ka8 (ka3 (gv_law_keys G) (by decide +kernel)) (cal_keys G) (.cons rfl (ka0 (.s (.s (.s (.s (.s .z)))))) (.cons rfl (ka0 (.s (.s (.s (.s .z))))) (.cons rfl (ka0 (.s (.s .z))) (.cons rfl (ka0 (.s (.s (.s (.s (.s (.s .z))))))) (.cons rfl (EV.castI hk (kad (ka0 (.s (.s (.s (.s (.s (.s (.s .z)))))))) ka7 (kat (by decide)))) .nil)))))
      ((f_keys G (m:=10) (z:=ansN (nsT (msT script) k) (nsT (msT script) ((k + 4) % 5)) (sumT script)) (by decide) use hL hT hk5 rfl (kd6 _ hk5) (kd6 _ hj5) (ns_ok _ k) (ns_ok _ _) (inO k hk5) (inO _ hj5) (by lia) (vat k hk5) (vat _ hj5) (hnd _ (List.mem_of_getElem? (vat k hk5))) (hnd _ (List.mem_of_getElem? (vat _ hj5)))
        (fun h₂ up=>ans h₂ _ _ _ _ up (vat k hk5) (vat _ hj5)) (by rw [ho]; exact keys_told hn hk5 hj5)).mono (by decide))
end
end
section
section
variable {w:World}{h₀:Heap}(G:Gr w h₀)
include G
theorem f_law (h23:h₀.get? 23 = none) (h248:h₀.get? 248 = none) (hsm:∃ o,h₀.get? sysModules = some o) {A:Around}{X:List Addr}{s:Shared}{sa:Addr}{script:List Int}{Q:Value → Shared → Prop}{E:Value → Shared → Prop}(rm:Room A 16) (O:Op h₀ X s) (e23:s.heap.get? 23 = some (tabObj #[])) (e248:s.heap.get? 248 = some (tabObj #[]))
    (hz:script.length ≤ 63) (hs:IntsAt h₀ sa script) (hQ:∀ h' tk,(∀ b o,b ≠ 23 → b ≠ 248 → b ≠ Tb → s.heap.get? b = some o → h'.get? b = some o) → (∃ ps,h'.get? 23 = some (tabObj ps)) → (∃ ps,h'.get? 224 = some (tabObj ps)) → (∃ ps,h'.get? 248 = some (tabObj ps)) → Q (.bool true) { s with heap:=h',toks:=tk }):wpAny (model prog w) A (call (.ref 251) [.ref sa]) Q E s:=by
  refine kif (n:=15) (ds:=[.val (.ref sa)]) (ds':=[.val (.ref sa)]) (vars:=[("script", .own),("pieces", .loc),("rows", .own),("places", .own),("things", .loc),("wrap", .loc),("order", .loc),("rules", .own)]) ⟨⟨_,G.K 251 _ rfl,rfl⟩,rfl,rfl,rfl,rfl,⟨_,_,_,_,rfl,G.K _ _ rfl,rfl,rfl⟩,rfl,rfl,G.lim,by decide +kernel,rfl⟩ (kaa (len1 fun _=>?_)) rm O (.cons (.val _) .nil) fun env X' s₁ s₂ E' n₁ hX rm' hcode hqual S=>?_
  · rfl
  have e23₁:=n₁.1.get (by decide) e23
  have e248₁:=n₁.1.get (by decide) e248
  refine law_head G hs hz rm' rfl rfl rfl S fun X3 s3 g3 S3=>?_
  refine law_wrap G rm' h23 h248 hsm (S3.base.get (by decide) e23₁) (S3.base.get (by decide) e248₁) rfl rfl rfl hcode S3 fun h₁ s4 X4 s5 T kc L vs G₁ use hL hT hlen thing ans S5 fin=>?_
  refine law_tail G₁ rm' rfl rfl rfl use hL hT hlen thing ans S5 fun fl s' oo=>?_
  obtain ⟨v',rfl,_,hb,⟨h',tk,e⟩,kp,gi,t23,t248⟩:=fin _ _ _ oo
  have:=hb true rfl; subst this
  subst e
  obtain ⟨h2,tk2,e2,kp2⟩:=n₁.1
  subst e2
  exact ⟨_,rfl,hQ h' tk (fun b o n1 n2 n3 e=>kp b o n1 n2 n3 (kp2 b o n3 e)) t23 (let ⟨ps,e,_⟩:=gi.tab; ⟨ps,e⟩) t248⟩
end
end
end Mine
end
section
open PySem PySem.W PyProof.Rows
set_option maxRecDepth 100000
namespace Mine
noncomputable def q:Program:=view pw [39]
noncomputable def loose:List Str:=["_wall", "cmp_to_key", "reduce", "_initial_missing", "_plain_name", "ABCMeta", "_ABCLike", "_abc_plain_meta", "fspath", "_check_arg_types", "_get_sep", "join", "splitroot", "basename", "dirname", "normpath", "commonpath", "_law_pieces", "_law_names", "_law_place", "_law_depth", "_law_child", "_law_answer", "_law_table", "_law_walk", "_law_sides", "_law_orders", "_law_tour", "_law_together", "_law_tours", "_law_keys"]
noncomputable def kT (P:Params):Frag:=(23,tabObj #[]) :: (224,tabObj #[]) :: (248,tabObj #[]) :: kF P
noncomputable def kAs:List Addr:=[23,224,248,2,3,27,28,29,30,36,37,109,110,123,124,130,131,137,138,144,145,151,152,158,159,163,164,168,169,175,176,180,181,187,188,194,195,201,202,206,207,211,212,216,217,221,222,228,229,233,234,238,239,245,246,250,251]
theorem kAs_is (P:Params):kAs = (kT P).map (·.1):=by kernel_rfl
noncomputable def hook:Hook:=⟨List (Option Obj) × Bool,fun s=>(kAs.map s.heap.get?,(s.heap.get? sysModules).isSome),fun w=>((kT w.params).map fun p=>some p.2,true),fun w h=>InK kT w h ∧ ∃ o,h.get? sysModules = some o,
  fun w s e=>⟨InK.of kAs_is w s (congrArg Prod.fst e),Option.isSome_iff_exists.mp (congrArg Prod.snd e)⟩,fun w h h' x k=>⟨InK.keeps w h h' x.1 k,let ⟨o,e⟩:=x.2; ⟨o,k _ _ e⟩⟩⟩
set_option maxHeartbeats 0 in
theorem left:LeftO pw q loose (fun s=>xlAt q [] s && recOk [] s) (Hook.obs hook) (Hook.val hook) 3098:=fun w=>by
  kernel_rfl
end Mine
end
section
open PySem PySem.W PyProof.Rows PySem.Calls PySem.Spec
set_option maxRecDepth 100000
namespace Mine
theorem mg_atK {w:World}{h:Heap}(K:(KF w).In h) {mg:Str → Option Value}(hn:h.Ns mainGlobals mg) (x:Str):mg x = findG x (gEs w):=by
  obtain ⟨o,es,ep,ho,hd,hk,hm⟩:=hn
  rw [← hm x]
  cases hK:(KF w).lookup 3 with
  | none=>exact absurd hK (by intro q; cases q)
  | some oK =>
    have h3:=K 3 oK hK
    have:some oK = some o:=h3.symm.trans ho
    cases this
    have hg:gEs w = es.toList:=by
      unfold gEs; rw [hK]
      obtain ⟨c,dd,dt,sl⟩:=o
      simp only at hd; subst hd
      rfl
    rw [hg, ← ke4, ← kch]
noncomputable def grd (h:Heap):Heap:=((h.hide 23).hide 248).hide Tb
theorem grd_of {h:Heap}{b:Addr}{o:Obj}(e:(grd h).get? b = some o):h.get? b = some o:=Heap.of_hide (Heap.of_hide (Heap.of_hide e))
theorem kjq {h:Heap}{b:Addr}(h1:b ≠ 23) (h2:b ≠ 248) (h3:b ≠ Tb):(grd h).get? b = h.get? b:=(Heap.hide_ne _ h3).trans ((Heap.hide_ne _ h2).trans (Heap.hide_ne _ h1))
theorem grd_ns {h:Heap}{a:Addr}{m:Str → Option Value}(n:h.Ns a m) (h1:a ≠ 23) (h2:a ≠ 248) (h3:a ≠ Tb):(grd h).Ns a m:=ns_at n fun o e=>(kjq h1 h2 h3).trans e
theorem kT_of {w:World}{h:Heap}(x:InK kT w h):(KF w).In h ∧ h.get? 23 = some (tabObj #[]) ∧ h.get? Tb = some (tabObj #[]) ∧ h.get? 248 = some (tabObj #[]):=by
  refine ⟨fun a o e=>?_,x 23 _ rfl,x 224 _ rfl,x 248 _ rfl⟩
  refine x a o ?_
  show List.lookup a ((23,tabObj #[]) :: (224,tabObj #[]) :: (248,tabObj #[]) :: kF w.params) = some o
  have n:∀ t,(KF w).lookup t = none → (a == t) = false:=fun t q=>by
    cases z:a == t with
    | false=>rfl
    | true =>
      have:a = t:=by simpa using z
      rw [this,q] at e; cases e
  rw [List.lookup_cons,n 23 (by kernel_rfl),List.lookup_cons,n 224 (by kernel_rfl),List.lookup_cons,n 248 (by kernel_rfl)]
  exact e
theorem ints_all {us:List Value}{is:List Int}(h:IntsAre us is):∀ X g,RAll X g us (is.map D.int):=fun X g=>by
  induction h with
  | nil=>exact .nil
  | cons n t _ ih=>exact .cons (.int n t) ih
theorem room0:Room callerA 16:=⟨by decide,by decide +kernel,rfl⟩
noncomputable abbrev rw0:RowW:=OpenRow.toRowW (OpenLaw.row PySem.Challenge.rw_pd0016_01)
theorem walk_end {w:World}{s₀ s₁:Shared}{mg mb:Str → Option Value}{a l:Addr}{us:List Value}{is:List Int}{cl:Str → Option Addr}{mean:ExcName → Option Value}{args:List WData}{E:Value → Shared → Prop}(G:Ground q loose [] (XL q []) w s₀ mg mb s₁.heap) (Y:Hook.says hook w s₁.heap) (hmg:mg ("law" : Str) = some (.ref a)) (hgens:s₁.gens = #[])
    (hL:s₁.heap.IsList l us.toArray) (hI:IntsAre us is) (hz:is.length ≤ 63):wpAny (model pw w) callerA (call (.ref a) [.ref l]) (fun v s'=>GoodWG rw0.claim cl mean args s₁ (.ok (.ret v)) s') E s₁:=by
  obtain ⟨Y,hsm⟩:=Y
  obtain ⟨K,e23,e224,e248⟩:=kT_of Y
  have Tp:=G.T
  have kfn:∀ a o,(KF w).lookup a = some o → (grd s₁.heap).get? a = some o:=fun a o e=>by
    have n:∀ t,(KF w).lookup t = none → a ≠ t:=fun t q z=>by rw [z,q] at e; cases e
    exact (kjq (n _ (by kernel_rfl)) (n _ (by kernel_rfl)) (n _ (by kernel_rfl))).trans (K a o e)
  have Gr0:Gr w (grd s₁.heap):=by
    refine ⟨kfn,⟨mg,grd_ns Tp.g (by decide) (by decide) (by decide)⟩,⟨mb,grd_ns Tp.b (by decide) (by decide) (by decide),Tp.builtins⟩, ?_, ?_⟩
    · obtain ⟨mc,h1,h2⟩:=Tp.nolimit
      exact ⟨mc,grd_ns h1 (by decide) (by decide) (by decide),h2⟩
    · obtain ⟨bm,ob,b1,b2,b3,b4,b5,b6⟩:=Tp.bmain
      have:mg ("__builtins__" : Str) = some (.ref 4):=(mg_atK K Tp.g _).trans (by kernel_rfl)
      rw [b1] at this; cases this
      exact ⟨ob,(kjq (by decide) (by decide) (by decide)).trans b3,b4,b5,b6⟩
  have ha:mg ("law" : Str) = some (.ref 251):=(mg_atK K Tp.g _).trans (by kernel_rfl)
  rw [hmg] at ha; cases ha
  have O:Op (grd s₁.heap) [Tb] s₁:=⟨⟨fun b o e=>grd_of e,⟨_,e224, .inl rfl⟩,Heap.hide_self _ _⟩, .head _,fun b hb=>by rw [List.mem_singleton.mp hb]; exact ⟨_,e224⟩⟩
  obtain ⟨os,hos⟩:=hsm
  have lne:∀ t,s₁.heap.get? t = some (tabObj #[]) → l ≠ t:=fun t e z=>by
    obtain ⟨o,ho,hc,_⟩:=hL
    rw [z,e] at ho; cases ho; cases hc
  refine f_law Gr0 ((Heap.hide_ne _ (by decide)).trans ((Heap.hide_ne _ (by decide)).trans (Heap.hide_self _ _))) ((Heap.hide_ne _ (by decide)).trans (Heap.hide_self _ _)) ⟨os,(kjq (by decide) (by decide) (by decide)).trans hos⟩ room0 O e23 e248 hz ⟨us,kb2 hL fun o e=>(kjq (lne _ e23) (lne _ e248) (lne _ e224)).trans e,ints_all hI⟩ fun h' tk kp t23 t224 t248=>?_
  have tb:∀ (t:Addr) o,isCodeTable s₁.heap t → s₁.heap.get? t = some (tabObj #[]) → s₁.heap.get? t = some o → (∃ ps,h'.get? t = some (tabObj ps)) → asItWas s₁.heap h' t o:=fun t o ct e e' ⟨ps,q⟩=>by
    rw [e] at e'; cases e'
    exact .inr (.inl ⟨ct,rfl, #[],ps,rfl,by rw [q]; simp⟩)
  refine ⟨.inl ⟨.bool true, .bool true,[],rfl,fun _=>rfl, .bool true,by kernel_rfl,fun _=>⟨List.nodup_nil,fun a ha=>by cases ha⟩⟩,⟨fun b o e=>?_,fun b o e=>?_⟩,rfl, .of_eq hgens⟩
  · by_cases z1:b = 23
    · subst z1; exact tb _ _ ⟨27,_,_,K 27 _ rfl,rfl,rfl,rfl⟩ e23 e t23
    · by_cases z2:b = 248
      · subst z2; exact tb _ _ ⟨250,_,_,K 250 _ rfl,rfl,rfl,rfl⟩ e248 e t248
      · by_cases z3:b = Tb
        · subst z3; exact tb _ _ ⟨228,_,_,K 228 _ rfl,rfl,rfl,rfl⟩ e224 e t224
        · exact .inl (kp b o z1 z2 z3 e)
  · by_cases z1:b = 23
    · subst z1; exact let ⟨_,q⟩:=t23; ⟨_,q⟩
    · by_cases z2:b = 248
      · subst z2; exact let ⟨_,q⟩:=t248; ⟨_,q⟩
      · by_cases z3:b = Tb
        · subst z3; exact let ⟨_,q⟩:=t224; ⟨_,q⟩
        · exact ⟨o,kp b o z1 z2 z3 e⟩
end Mine
end
open PySem PySem.W PyProof.Rows
set_option maxRecDepth 100000 in
set_option maxHeartbeats 4000000 in
theorem PySem.Challenge.cw_pd0016_01_holds : PySem.Challenge.rw_pd0016_01.Holds := by
  w_on
  refine holds_law (by decide +kernel) fun said => ?_
  refine holds_open (q := Mine.q) (loose := Mine.loose) (Xt := fun s => xlAt Mine.q [] s && recOk (RowW.records (OpenRow.toRowW (OpenLaw.row PySem.Challenge.rw_pd0016_01))) s) (XP := XL Mine.q []) (Yf := Hook.obs Mine.hook) (Ya := Hook.val Mine.hook) (YP := Hook.says Mine.hook) (N := 3098) Mine.left (Hook.of Mine.hook) (Hook.keeps Mine.hook) (fun s e => xl_of s (Bool.and_eq_true_iff.mp e).1) XL.keeps (by rfl) (by rfl) (by rfl) (fun s e => recFacts_of (Bool.and_eq_true_iff.mp e).2) (by rfl) said (by decide +kernel) ⟨rfl, rfl, rfl, rfl, rfl, by decide +kernel⟩ ?hw ?hc
  case hw => w_witness2
  case hc =>
    intro w s₀ s₁ mg mb G Y fa o pm cd doc dV kV ho hd hcd hD hmg hg args vals as hpre hlay hrd hwl hlo
    wrow_args hpre hlay hrd hwl hlo
    exact Mine.walk_end G Y hmg hg (by assumption) (by assumption) (by lia)
