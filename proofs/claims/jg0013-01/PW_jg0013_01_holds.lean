import PyProof.Rows.All
import Wide.All
import OpenK.AllK
import Wide.FinOn
import PySem.Challenge.RW_jg0013_01
set_option Elab.async false
set_option maxRecDepth 100000
set_option maxHeartbeats 8000000
set_option linter.unusedVariables false
set_option linter.unusedSimpArgs false
set_option genSizeOf false
set_option genInjectivity false

section PartJTop
open PySem PySem.W PyProof.Rows
namespace Jg
/-- the def at a place of the program's top, as an object -/
noncomputable def fnObj (i : Nat) (dflt md : Value) (code : Addr) : Obj := match PySem.Challenge.pw_jg0013_01.main.body[i]? with
  | some (.FunctionDef n ps body _ _ _ sc _ _ _) => { cls := .type "function", data := .func { PySem.Calls.docDef n ps body sc md (.ref code) .none with defaults := dflt } }
  | _ => { cls := .none }
/-- the part of the heap behind the top that the walk reads -/
noncomputable def K0 (P : Params) : Frag :=
  [
   (3, { cls := Value.type "dict", data := Data.dict #[{ hash := PyData.keyHash P ("__name__"), key := Value.str ("__name__") 165, val := Value.str ("law_jg0013_01") 264 }, { hash := PyData.keyHash P ("__doc__"), key := Value.str ("__doc__") 166, val := Value.none }, { hash := PyData.keyHash P ("__package__"), key := Value.str ("__package__") 167, val := Value.none }, { hash := PyData.keyHash P ("__loader__"), key := Value.str ("__loader__") 168, val := Value.builtin "__main__.__loader__#opaque" }, { hash := PyData.keyHash P ("__spec__"), key := Value.str ("__spec__") 169, val := Value.none }, { hash := PyData.keyHash P ("__annotations__"), key := Value.str ("__annotations__") 170, val := Value.ref 6 }, { hash := PyData.keyHash P ("__builtins__"), key := Value.str ("__builtins__") 171, val := Value.ref 4 }, { hash := PyData.keyHash P ("__file__"), key := Value.str ("__file__") 173, val := Value.str ("/claim/cut.py") 172 }, { hash := PyData.keyHash P ("__cached__"), key := Value.str ("__cached__") 174, val := Value.none }, { hash := PyData.keyHash P ("TiesException"), key := Value.str ("TiesException") 208, val := Value.ref 24 }, { hash := PyData.keyHash P ("compute"), key := Value.str ("compute") 220, val := Value.ref 35 }, { hash := PyData.keyHash P ("apply_threshold"), key := Value.str ("apply_threshold") 232, val := Value.ref 42 }, { hash := PyData.keyHash P ("largest_remainder"), key := Value.str ("largest_remainder") 238, val := Value.ref 48 }, { hash := PyData.keyHash P ("divisor"), key := Value.str ("divisor") 244, val := Value.ref 54 }, { hash := PyData.keyHash P ("_divzero_fewerseatsthanparties"), key := Value.str ("_divzero_fewerseatsthanparties") 257, val := Value.ref 61 }, { hash := PyData.keyHash P ("quota"), key := Value.str ("quota") 263, val := Value.ref 67 }, { hash := PyData.keyHash P ("_law_names"), key := Value.str ("_law_names") 271, val := Value.ref 74 }, { hash := PyData.keyHash P ("_law_claim"), key := Value.str ("_law_claim") 280, val := Value.ref 81 }, { hash := PyData.keyHash P ("_law_dealt"), key := Value.str ("_law_dealt") 286, val := Value.ref 86 }, { hash := PyData.keyHash P ("_law_run"), key := Value.str ("_law_run") 299, val := Value.ref 93 }, { hash := PyData.keyHash P ("law"), key := Value.str ("law") 305, val := Value.ref 98 }] 21 }),
   (23, { cls := Value.type "dict", data := Data.dict #[{ hash := PyData.keyHash P ("__module__"), key := Value.str ("__module__") 196, val := Value.str ("apportionment.methods") 187 }, { hash := PyData.keyHash P ("__firstlineno__"), key := Value.str ("__firstlineno__") 200, val := Value.int 2 199 }, { hash := PyData.keyHash P ("__static_attributes__"), key := Value.str ("__static_attributes__") 201, val := Value.ref 22 }, { hash := PyData.keyHash P ("__weakref__"), key := Value.str ("__weakref__") 203, val := Value.ref 25 }, { hash := PyData.keyHash P ("__doc__"), key := Value.str ("__doc__") 204, val := Value.none }] 3 }),
   (24, { cls := Value.type "type", data := Data.cls { name := "TiesException", bases := [Value.type "Exception"], mro := [Value.ref 24, Value.type "Exception", Value.type "BaseException", Value.type "object"], ns := 23, qualname := "TiesException" }, slots := #[some (Value.ref 15), none, some (Value.str ("TiesException") 189), some (Value.str ("TiesException") 197), some (Value.builtin "Exception.__new__"), some (Value.bool true)] }),
   (28, { cls := Value.type "tuple", data := Data.seq #[Value.none, Value.bool true] }),
   (34, { cls := Value.type "code", data := Data.fields #[Value.str ("compute") 209, Value.str ("compute") 210, Value.str ("/claim/cut.py") 211, Value.int 4 0, Value.int 5 0, Value.int 0 0, Value.int 0 0, Value.int 3 0, Value.ref 29, Value.bool true, Value.int 181 0, Value.ref 30, Value.none, Value.ref 31, Value.ref 32, Value.ref 33, Value.int 218 0, Value.int 4 0, Value.str ("/claim/cut.py") 219] }),
   (35, fnObj 2 (.ref 28) (Value.str ("apportionment.methods") 187) 34),
   (41, { cls := Value.type "code", data := Data.fields #[Value.str ("apply_threshold") 221, Value.str ("apply_threshold") 222, Value.str ("/claim/cut.py") 223, Value.int 14 0, Value.int 2 0, Value.int 0 0, Value.int 0 0, Value.int 3 0, Value.ref 36, Value.bool true, Value.int 181 0, Value.ref 37, Value.none, Value.ref 38, Value.ref 39, Value.ref 40, Value.int 230 0, Value.int 14 0, Value.str ("/claim/cut.py") 231] }),
   (42, fnObj 3 .none (Value.str ("apportionment.methods") 187) 41),
   (43, { cls := Value.type "tuple", data := Data.seq #[Value.bool true] }),
   (47, { cls := Value.type "code", data := Data.fields #[Value.str ("largest_remainder") 233, Value.str ("largest_remainder") 234, Value.str ("/claim/cut.py") 235, Value.int 27 0, Value.int 3 0, Value.int 0 0, Value.int 0 0, Value.int 3 0, Value.ref 44, Value.bool true, Value.int 181 0, Value.ref 45, Value.none, Value.none, Value.none, Value.ref 46, Value.int 236 0, Value.int 27 0, Value.str ("/claim/cut.py") 237] }),
   (48, fnObj 4 (.ref 43) (Value.str ("apportionment.methods") 187) 47),
   (49, { cls := Value.type "tuple", data := Data.seq #[Value.bool true] }),
   (53, { cls := Value.type "code", data := Data.fields #[Value.str ("divisor") 239, Value.str ("divisor") 240, Value.str ("/claim/cut.py") 241, Value.int 48 0, Value.int 4 0, Value.int 0 0, Value.int 0 0, Value.int 3 0, Value.ref 50, Value.bool true, Value.int 181 0, Value.ref 51, Value.none, Value.none, Value.none, Value.ref 52, Value.int 242 0, Value.int 48 0, Value.str ("/claim/cut.py") 243] }),
   (54, fnObj 5 (.ref 49) (Value.str ("apportionment.methods") 187) 53),
   (62, { cls := Value.type "tuple", data := Data.seq #[Value.bool true] }),
   (66, { cls := Value.type "code", data := Data.fields #[Value.str ("quota") 258, Value.str ("quota") 259, Value.str ("/claim/cut.py") 260, Value.int 113 0, Value.int 3 0, Value.int 0 0, Value.int 0 0, Value.int 3 0, Value.ref 63, Value.bool true, Value.int 181 0, Value.ref 64, Value.none, Value.none, Value.none, Value.ref 65, Value.int 261 0, Value.int 113 0, Value.str ("/claim/cut.py") 262] }),
   (67, fnObj 7 (.ref 62) (Value.str ("apportionment.methods") 187) 66),
   (73, { cls := Value.type "code", data := Data.fields #[Value.str ("_law_names") 266, Value.str ("_law_names") 267, Value.str ("/claim/cut.py") 268, Value.int 131 0, Value.int 0 0, Value.int 0 0, Value.int 0 0, Value.int 3 0, Value.ref 68, Value.bool true, Value.int 181 0, Value.ref 69, Value.none, Value.ref 70, Value.ref 71, Value.ref 72, Value.int 269 0, Value.int 131 0, Value.str ("/claim/cut.py") 270] }),
   (74, fnObj 9 .none (Value.str ("law_jg0013_01") 264) 73),
   (80, { cls := Value.type "code", data := Data.fields #[Value.str ("_law_claim") 272, Value.str ("_law_claim") 273, Value.str ("/claim/cut.py") 274, Value.int 133 0, Value.int 3 0, Value.int 0 0, Value.int 0 0, Value.int 3 0, Value.ref 75, Value.bool true, Value.int 181 0, Value.ref 76, Value.none, Value.ref 77, Value.ref 78, Value.ref 79, Value.int 278 0, Value.int 133 0, Value.str ("/claim/cut.py") 279] }),
   (81, fnObj 10 .none (Value.str ("law_jg0013_01") 264) 80),
   (85, { cls := Value.type "code", data := Data.fields #[Value.str ("_law_dealt") 281, Value.str ("_law_dealt") 282, Value.str ("/claim/cut.py") 283, Value.int 145 0, Value.int 3 0, Value.int 0 0, Value.int 0 0, Value.int 3 0, Value.ref 82, Value.bool true, Value.int 181 0, Value.ref 83, Value.none, Value.none, Value.none, Value.ref 84, Value.int 284 0, Value.int 145 0, Value.str ("/claim/cut.py") 285] }),
   (86, fnObj 11 .none (Value.str ("law_jg0013_01") 264) 85),
   (92, { cls := Value.type "code", data := Data.fields #[Value.str ("_law_run") 287, Value.str ("_law_run") 288, Value.str ("/claim/cut.py") 289, Value.int 171 0, Value.int 5 0, Value.int 0 0, Value.int 0 0, Value.int 3 0, Value.ref 87, Value.bool true, Value.int 181 0, Value.ref 88, Value.none, Value.ref 89, Value.ref 90, Value.ref 91, Value.int 297 0, Value.int 171 0, Value.str ("/claim/cut.py") 298] }),
   (93, fnObj 12 .none (Value.str ("law_jg0013_01") 264) 92)
  ]
noncomputable def q0 : Program := view PySem.Challenge.pw_jg0013_01 [1, 13]
abbrev ls0 : List PySem.Str := ["compute", "apply_threshold", "largest_remainder", "divisor", "_divzero_fewerseatsthanparties", "quota", "_law_names", "_law_claim", "_law_dealt", "_law_run"]
def as0 : List Addr := [3, 23, 24, 28, 34, 35, 41, 42, 43, 47, 48, 49, 53, 54, 62, 66, 67, 73, 74, 80, 81, 85, 86, 92, 93]
theorem as0_eq (P : Params) : as0 = (K0 P).map (·.1) := by kernel_rfl
noncomputable abbrev hk : Hook := kHook K0 as0 as0_eq
noncomputable abbrev xt0 : Shared → Bool := fun s => xlAt q0 [] s && recOk (RowW.records (OpenRow.toRowW (OpenLaw.row PySem.Challenge.rw_jg0013_01))) s
theorem open0 : opening PySem.Challenge.pw_jg0013_01 = plainProg PySem.Challenge.pw_jg0013_01.main.scope.names := by kernel_rfl
theorem fence0 (s : Shared) : fenceModules? PySem.Challenge.pw_jg0013_01 s = some s := by kernel_rfl
theorem left0 : LeftO PySem.Challenge.pw_jg0013_01 q0 ls0 xt0 hk.obs hk.val 1216 := fun w => by
  obtain ⟨⟨h, g, d, t, os⟩, h0, e0⟩ := Option.map_eq_some_iff.mp (boot_open (N := 1216) open0 (by decide) fence0 w)
  simp only [Prod.mk.injEq] at e0
  obtain ⟨rfl, rfl, rfl, rfl⟩ := e0
  unfold openEnds
  rw [h0, Option.bind_some]
  unfold topFrom
  -- the library's quick readings of the machine and of the looks
  rw [PySem.W.Fast.te14082659384304107361, PySem.W.Fast.te14364793385576792824, PySem.W.Fast.te4187177175401517315]
  kernel_rfl
theorem hd {d : DefRec} (hdef : defOf q0 "law" = some (d, [])) (hp : PySem.Challenge.pw_jg0013_01.theDef "law" = some (d.params, d.body, d.scope)) (hkw : kwWritten? d.params.kwonlyargs d.params.kw_defaults = some [])
    (walk : WalkO q0 ls0 (XL q0 []) hk.says PySem.Challenge.rw_jg0013_01.row.toRowW d [] fun f vs => PySem.call f vs) : PySem.Challenge.rw_jg0013_01.Holds := by
  w_on
  o_law
  refine holds_open (q := q0) (loose := ls0) (Xt := xt0) (XP := XL q0 []) (Yf := Hook.obs hk) (Ya := Hook.val hk) (YP := Hook.says hk) (N := 1216) left0 (Hook.of hk) (Hook.keeps hk) (fun s e => xl_of s (Bool.and_eq_true_iff.mp e).1) XL.keeps hdef hp hkw (fun s e => recFacts_of (Bool.and_eq_true_iff.mp e).2) (by rfl) (by assumption) (by decide +kernel) ⟨rfl, rfl, rfl, rfl, rfl, by decide +kernel⟩ ?hw walk
  case hw => w_witness2
end Jg
end PartJTop

noncomputable section PartJg1
open PySem PySem.W PySem.Calls PyProof.Rows
namespace Jg

/-- the data that the program deals with -/
inductive D where
  | none | bool (b : Bool) | int (i : Int) | str (x : Str) | list (l : List D) | tup (l : List D)

/-- what one object of the heap holds in the next one: all of it -/
def Ups (h h' : Heap) : Prop := ∀ b o, h.get? b = some o → h'.get? b = some o
theorem Ups.refl (h : Heap) : Ups h h := fun _ _ e => e
theorem Ups.trans {a b c : Heap} (x : Ups a b) (y : Ups b c) : Ups a c := fun q o e => y q o (x q o e)
theorem Ups.push (h : Heap) (o : Obj) : Ups h (h.push o) := fun _ _ e => Heap.get?_push_of_some _ e

/-- lists and tuples off the forbidden place stay -/
def Seqs (ok : Addr → Prop) (h h' : Heap) : Prop := ∀ b o xs n, ok b → h.get? b = some o → o.data = .seq xs n → h'.get? b = some o

mutual
noncomputable def Rd (ok : Addr → Prop) (h : Heap) : D → Value → Prop
  | .none, v => v = .none
  | .bool b, v => v = .bool b
  | .int i, v => ∃ t, v = .int i t
  | .str x, v => ∃ t, v = .str x t
  | .list l, v => ∃ a vs, v = .ref a ∧ ok a ∧ h.IsList a vs.toArray ∧ Rds ok h l vs
  | .tup l, v => ∃ a vs, v = .ref a ∧ ok a ∧ IsTup h a vs.toArray ∧ Rds ok h l vs
noncomputable def Rds (ok : Addr → Prop) (h : Heap) : List D → List Value → Prop
  | [], vs => vs = []
  | d :: l, vs => ∃ v r, vs = v :: r ∧ Rd ok h d v ∧ Rds ok h l r
end

mutual
theorem Rd.mono {ok ok' : Addr → Prop} {h h' : Heap} (hk : ∀ b, ok b → ok' b) (hs : Seqs ok h h') : ∀ {d : D} {v : Value}, Rd ok h d v → Rd ok' h' d v
  | .none, _, x => x
  | .bool _, _, x => x
  | .int _, _, x => x
  | .str _, _, x => x
  | .list _, _, ⟨a, vs, e, o, ⟨ob, h1, h2, n, h3⟩, r⟩ => ⟨a, vs, e, hk _ o, ⟨ob, hs a ob _ n o h1 h3, h2, n, h3⟩, Rds.mono hk hs r⟩
  | .tup _, _, ⟨a, vs, e, o, ⟨ob, h1, h2, n, h3⟩, r⟩ => ⟨a, vs, e, hk _ o, ⟨ob, hs a ob _ n o h1 h3, h2, n, h3⟩, Rds.mono hk hs r⟩
theorem Rds.mono {ok ok' : Addr → Prop} {h h' : Heap} (hk : ∀ b, ok b → ok' b) (hs : Seqs ok h h') : ∀ {l : List D} {vs : List Value}, Rds ok h l vs → Rds ok' h' l vs
  | [], _, x => x
  | _ :: _, _, ⟨v, r, e, x, y⟩ => ⟨v, r, e, Rd.mono hk hs x, Rds.mono hk hs y⟩
end
theorem Ups.seqs {ok : Addr → Prop} {h h' : Heap} (x : Ups h h') : Seqs ok h h' := fun b o _ _ _ e _ => x b o e
theorem Rd.up {ok : Addr → Prop} {h h' : Heap} {d : D} {v : Value} (x : Rd ok h d v) (u : Ups h h') : Rd ok h' d v := x.mono (fun _ o => o) u.seqs
theorem Rds.up {ok : Addr → Prop} {h h' : Heap} {d : List D} {v : List Value} (x : Rds ok h d v) (u : Ups h h') : Rds ok h' d v := x.mono (fun _ o => o) u.seqs

theorem Rds.length {ok : Addr → Prop} {h : Heap} : ∀ {l : List D} {vs : List Value}, Rds ok h l vs → vs.length = l.length
  | [], _, e => by rw [show _ = [] from e]; rfl
  | _ :: _, _, ⟨_, _, e, _, r⟩ => by rw [e, List.length_cons, List.length_cons, Rds.length r]
theorem Rds.get {ok : Addr → Prop} {h : Heap} : ∀ {l : List D} {vs : List Value} {i : Nat} {d : D}, Rds ok h l vs → l[i]? = some d → ∃ v, vs[i]? = some v ∧ Rd ok h d v
  | [], _, _, _, _, e => by simp at e
  | _ :: _, _, 0, _, ⟨v, r, e, x, _⟩, q => by rw [e]; simp at q; exact ⟨v, by simp, q ▸ x⟩
  | _ :: _, _, i + 1, _, ⟨v, r, e, _, y⟩, q => by rw [e]; simp at q; obtain ⟨w, h1, h2⟩ := Rds.get y q; exact ⟨w, by simpa using h1, h2⟩
theorem Rds.get' {ok : Addr → Prop} {h : Heap} {l : List D} {vs : List Value} {i : Nat} {v : Value} (x : Rds ok h l vs) (e : vs[i]? = some v) : ∃ d, l[i]? = some d ∧ Rd ok h d v := by
  have hi : i < l.length := by rw [← x.length]; exact (List.getElem?_eq_some_iff.mp e).1
  obtain ⟨w, h1, h2⟩ := x.get (i := i) (d := l[i]) (by simp [hi])
  rw [e] at h1; cases h1
  exact ⟨l[i], by simp [hi], h2⟩
theorem Rds.append {ok : Addr → Prop} {h : Heap} : ∀ {l k : List D} {vs ws : List Value}, Rds ok h l vs → Rds ok h k ws → Rds ok h (l ++ k) (vs ++ ws)
  | [], _, _, _, e, y => by rw [show _ = [] from e]; exact y
  | _ :: _, _, _, _, ⟨v, r, e, x, z⟩, y => by rw [e]; exact ⟨v, _, rfl, x, z.append y⟩
theorem Rds.one {ok : Addr → Prop} {h : Heap} {d : D} {v : Value} (x : Rd ok h d v) : Rds ok h [d] [v] := ⟨v, [], rfl, x, rfl⟩
theorem Rds.take {ok : Addr → Prop} {h : Heap} : ∀ {l : List D} {vs : List Value} (n : Nat), Rds ok h l vs → Rds ok h (l.take n) (vs.take n)
  | [], _, n, e => by rw [show _ = [] from e]; simp; exact rfl
  | _ :: _, _, 0, _ => rfl
  | _ :: _, _, n + 1, ⟨v, r, e, x, y⟩ => by rw [e]; exact ⟨v, r.take n, rfl, x, y.take n⟩
theorem Rds.drop {ok : Addr → Prop} {h : Heap} : ∀ {l : List D} {vs : List Value} (n : Nat), Rds ok h l vs → Rds ok h (l.drop n) (vs.drop n)
  | [], _, n, e => by rw [show _ = [] from e]; simp; exact rfl
  | _ :: _, _, 0, x => x
  | _ :: _, _, n + 1, ⟨v, r, e, x, y⟩ => by rw [e]; exact y.drop n
theorem Rds.set {ok : Addr → Prop} {h : Heap} {d : D} {v : Value} (x : Rd ok h d v) : ∀ {l : List D} {vs : List Value} (n : Nat), Rds ok h l vs → Rds ok h (l.set n d) (vs.set n v)
  | [], _, n, e => by rw [show _ = [] from e]; simp; exact rfl
  | _ :: _, _, 0, ⟨_, r, e, _, y⟩ => by rw [e]; exact ⟨v, r, rfl, x, y⟩
  | _ :: _, _, n + 1, ⟨w, r, e, z, y⟩ => by rw [e]; exact ⟨w, r.set n v, rfl, z, Rds.set x n y⟩
theorem Rds.ints {ok : Addr → Prop} {h : Heap} : ∀ {l : List Int} {vs : List Value}, Rds ok h (l.map .int) vs → IntsAre vs l
  | [], _, e => by rw [show _ = [] from e]; exact .nil
  | _ :: _, _, ⟨v, r, e, ⟨t, x⟩, y⟩ => by rw [e, x]; exact .cons _ _ (Rds.ints y)
theorem Rds.of_ints {ok : Addr → Prop} {h : Heap} : ∀ {l : List Int} {vs : List Value}, IntsAre vs l → Rds ok h (l.map .int) vs
  | [], _, .nil => rfl
  | _ :: _, _, .cons n t r => ⟨.int n t, _, rfl, ⟨t, rfl⟩, Rds.of_ints r⟩

/-- a datum that names no object -/
def D.flat : D → Bool
  | .list _ | .tup _ => false
  | _ => true
theorem Rd.flat {ok ok' : Addr → Prop} {h h' : Heap} {d : D} {v : Value} (f : d.flat = true) (x : Rd ok h d v) : Rd ok' h' d v := by
  cases d <;> first | exact x | cases f

/-- the world of the proof -/
structure Wd where
  prog : Program
  w : World
  K : Frag
  p : Program
  loose : List Str
  mean : ExcName → Option Value
  mg : Str → Option Value
  mb : Str → Option Value
abbrev Wd.M (W : Wd) : Model := model W.prog W.w

/-- where a name of the frame stands -/
def Loc (env : Env) (h : Heap) (x : Str) (v : Value) : Prop :=
  (env.kindOf x = some .local ∧ ∃ m, h.Ns env.locals m ∧ m x = some v) ∨
  ((env.kindOf x = some .cell ∨ env.kindOf x = some .free) ∧ ∃ c, env.cells.lookup x = some c ∧ h.IsCell c (some v))
theorem Loc.up {env : Env} {h h' : Heap} {x : Str} {v : Value} (l : Loc env h x v) (u : Ups h h') : Loc env h' x v := by
  rcases l with ⟨k, m, hn, hv⟩ | ⟨k, c, hc, hv⟩
  · exact .inl ⟨k, m, hn.keeps u, hv⟩
  · exact .inr ⟨k, c, hc, hv.keeps u⟩

abbrev Sg := List (Str × (Bool × D))
def Kp (oa : List Addr) (k : Bool) : Addr → Prop := fun b => k = true → b ∉ oa

/-- what an expression may read -/
structure Sv (W : Wd) (env : Env) (oa : List Addr) (σ : Sg) (h : Heap) : Prop where
  kin : W.K.In h
  top : Top W.p W.loose W.mean W.mg W.mb h
  vars : ∀ x k d, σ.lookup x = some (k, d) → ∃ v, Loc env h x v ∧ Rd (Kp oa k) h d v
  dom : ∀ a, a ∈ oa → ∃ o, h.get? a = some o
  kind : env.scope.kind = .function
  glob : env.globals = mainGlobals
  blt : env.builtins = builtinsNs
theorem Sv.up {W : Wd} {env : Env} {oa : List Addr} {σ : Sg} {h h' : Heap} (S : Sv W env oa σ h) (u : Ups h h') : Sv W env oa σ h' where
  kin := S.kin.keeps u
  top := S.top.keeps u
  vars := fun x k d e => let ⟨v, l, r⟩ := S.vars x k d e; ⟨v, l.up u, r.up u⟩
  dom := fun a e => let ⟨o, q⟩ := S.dom a e; ⟨o, u _ _ q⟩
  kind := S.kind
  glob := S.glob
  blt := S.blt
theorem Sv.fresh {W : Wd} {env : Env} {oa : List Addr} {σ : Sg} {h : Heap} (S : Sv W env oa σ h) {a : Addr} (e : h.get? a = none) (k : Bool) : Kp oa k a := fun _ q => by
  obtain ⟨o, ho⟩ := S.dom a q
  rw [e] at ho; cases ho

/-- the activation's room -/
structure AOk (A : Around) : Prop where
  hand : A.handled = none
  depth : A.depth + 150 < recursionLimit
  units : A.units + 300 < cLine
theorem AOk.in1 {A : Around} (x : AOk A) (h : A.units + 301 < cLine) : AOk A.in1 := ⟨x.hand, x.depth, by show A.units + 1 + 300 < cLine; omega⟩

/-- e gives d, and keeps all that stood -/
def Ev (W : Wd) (A : Around) (env : Env) (oa : List Addr) (σ : Sg) (k : Bool) (e : Expr) (d : D) : Prop :=
  AOk A → ∀ s E, Sv W env oa σ s.heap → wpAny W.M A (eval e env) (fun v s' => Keeps s s' ∧ Rd (Kp oa k) s'.heap d v) E s
/-- e gives the very value c -/
def EvV (W : Wd) (A : Around) (env : Env) (oa : List Addr) (σ : Sg) (e : Expr) (c : Value) : Prop :=
  AOk A → ∀ s E, Sv W env oa σ s.heap → wpAny W.M A (eval e env) (fun v s' => Keeps s s' ∧ v = c) E s
/-- e, as a test, gives b -/
def Tst (W : Wd) (A : Around) (env : Env) (oa : List Addr) (σ : Sg) (e : Expr) (b : Bool) : Prop :=
  AOk A → ∀ s E, Sv W env oa σ s.heap → wpAny W.M A (isTrue e env (eval e env)) (fun v s' => Keeps s s' ∧ v = b) E s

theorem keeps_refl (s : Shared) : Keeps s s := ⟨s.heap, s.toks, rfl, fun _ _ e => e⟩
theorem keeps_trans {a b c : Shared} (x : Keeps a b) (y : Keeps b c) : Keeps a c := by
  obtain ⟨h1, t1, rfl, k1⟩ := x
  obtain ⟨h2, t2, rfl, k2⟩ := y
  exact ⟨h2, t2, rfl, fun b o e => k2 b o (k1 b o e)⟩
theorem kups {s s' : Shared} (x : Keeps s s') : Ups s.heap s'.heap := by
  obtain ⟨h1, t1, rfl, k1⟩ := x; exact k1
theorem keeps_of {s : Shared} {h' : Heap} {tk : Nat} (u : Ups s.heap h') : Keeps s { s with heap := h', toks := tk } := ⟨h', tk, rfl, u⟩
theorem keeps_tok (s : Shared) (tk : Nat) : Keeps s { s with toks := tk } := ⟨s.heap, tk, rfl, fun _ _ e => e⟩
theorem keeps_heap {s : Shared} {h' : Heap} (u : Ups s.heap h') : Keeps s { s with heap := h' } := ⟨h', s.toks, rfl, u⟩

section
variable {W : Wd} {A : Around} {env : Env} {oa : List Addr} {σ : Sg} {k : Bool}

theorem ev_int {i : Int} {n : Nat} {pos : Pos} : Ev W A env oa σ k (.Constant (.int i) n pos) (.int i) := fun _ s _ _ =>
  wpAny_Constant_int ⟨keeps_tok s _, _, rfl⟩
theorem ev_none {n : Nat} {pos : Pos} : Ev W A env oa σ k (.Constant .none n pos) .none := fun _ s _ _ => wpAny_Constant_none ⟨keeps_refl s, rfl⟩
theorem ev_bool {b : Bool} {n : Nat} {pos : Pos} : Ev W A env oa σ k (.Constant (.bool b) n pos) (.bool b) := fun _ s _ _ => wpAny_Constant_bool ⟨keeps_refl s, rfl⟩
theorem ev_str {x : Str} {n : Nat} {pos : Pos} : Ev W A env oa σ k (.Constant (.str x) n pos) (.str x) := fun _ s _ _ => wpAny_Constant_str ⟨keeps_tok s _, _, rfl⟩

theorem loadName_loc {M : Model} {s : Shared} {x : Str} {v : Value} {Q : Value → Shared → Prop} {E : Value → Shared → Prop} (hk : env.scope.kind = .function) (l : Loc env s.heap x v) (h : Q v s)
    (hn : (x == ("__classdict__" : Str)) = false := by decide) : wpAny M A (loadName env x) Q E s := by
  rcases l with ⟨hl, m, hns, hv⟩ | ⟨hl | hl, c, hc, hv⟩
  · exact wpAny_loadName_local hk hl hns hv h
  · exact wpAny_loadName_cell hk hl hc hv h
  · exact wpAny_loadName_free hk hl hc hv h hn

theorem ev_name {x : Str} {pos : Pos} {d : D} (e : σ.lookup x = some (k, d)) (hd : (x == ("__debug__" : Str)) = false := by decide) (hn : (x == ("__classdict__" : Str)) = false := by decide) :
    Ev W A env oa σ k (.Name x pos) d := fun _ s _ S => by
  obtain ⟨v, l, r⟩ := S.vars x k d e
  exact wpAny_Name (loadName_loc S.kind l ⟨keeps_refl s, r⟩ hn) hd

theorem ev_weak {e : Expr} {d : D} (h : Ev W A env oa σ true e d) : Ev W A env oa σ false e d := fun a s E S =>
  wpAny_mono (h a s E S) (fun _ _ x => ⟨x.1, x.2.mono (fun _ _ q => by cases q) (Ups.refl _).seqs⟩) fun _ _ x => x
theorem ev_flat {e : Expr} {d : D} {k' : Bool} (h : Ev W A env oa σ k' e d) (f : d.flat = true := by rfl) : Ev W A env oa σ k e d := fun a s E S =>
  wpAny_mono (h a s E S) (fun _ _ x => ⟨x.1, x.2.flat f⟩) fun _ _ x => x

/-- global names -/
theorem ev_builtin {x : Str} {pos : Pos} {c : Value} (hx : env.kindOf x = some .globalImplicit) (e : nsIn W.K mainGlobals x = some none) (hv : bootBuiltins x = some c) (hn : x ≠ "__name__" := by decide)
    (hd : (x == ("__debug__" : Str)) = false := by decide) : EvV W A env oa σ (.Name x pos) c := fun _ s _ S => by
  have T := topRead_of S.top
  exact Name_function_global S.kind hx (loadGlobal_builtin (by rw [S.glob]; exact T.g) (mg_none_of S.kin T.g e) (by rw [S.blt]; exact T.b) ((T.builtins x hn).trans hv) ⟨keeps_refl s, rfl⟩) hd
theorem ev_global {x : Str} {pos : Pos} {c : Value} (hx : env.kindOf x = some .globalImplicit) (e : nsIn W.K mainGlobals x = some (some c)) (hd : (x == ("__debug__" : Str)) = false := by decide) :
    EvV W A env oa σ (.Name x pos) c := fun _ s _ S => by
  have T := topRead_of S.top
  exact Name_function_global S.kind hx (loadGlobal_global (by rw [S.glob]; exact T.g) (mg_of S.kin T.g e) ⟨keeps_refl s, rfl⟩) hd

/-- one after the other -/
theorem ev_then {e : Expr} {d : D} {k' : Bool} {s : Shared} {C : Value → Shared → Prop} {E : Value → Shared → Prop} (h : Ev W A env oa σ k' e d) (a : AOk A) (S : Sv W env oa σ s.heap)
    (c : ∀ v s', Keeps s s' → Sv W env oa σ s'.heap → Rd (Kp oa k') s'.heap d v → C v s') : wpAny W.M A (eval e env) C E s :=
  wpAny_mono (h a s E S) (fun v s' x => c v s' x.1 (S.up (kups x.1)) x.2) fun _ _ x => x
theorem evV_then {e : Expr} {c : Value} {s : Shared} {C : Value → Shared → Prop} {E : Value → Shared → Prop} (h : EvV W A env oa σ e c) (a : AOk A) (S : Sv W env oa σ s.heap)
    (k : ∀ s', Keeps s s' → Sv W env oa σ s'.heap → C c s') : wpAny W.M A (eval e env) C E s :=
  wpAny_mono (h a s E S) (fun v s' x => by obtain ⟨y, rfl⟩ := x; exact k s' y (S.up (kups y))) fun _ _ x => x
theorem tst_then {e : Expr} {b : Bool} {s : Shared} {C : Bool → Shared → Prop} {E : Value → Shared → Prop} (h : Tst W A env oa σ e b) (a : AOk A) (S : Sv W env oa σ s.heap)
    (k : ∀ s', Keeps s s' → Sv W env oa σ s'.heap → C b s') : wpAny W.M A (isTrue e env (eval e env)) C E s :=
  wpAny_mono (h a s E S) (fun v s' x => by obtain ⟨y, rfl⟩ := x; exact k s' y (S.up (kups y))) fun _ _ x => x

/-- two operands, then something flat -/
theorem ev_bin {l r : Expr} {op : Operator} {pos : Pos} {a b d : D} {k1 k2 : Bool} (h1 : Ev W A env oa σ k1 l a) (h2 : Ev W A env oa σ k2 r b)
    (c : ∀ u v s E, AOk A → Sv W env oa σ s.heap → Rd (Kp oa k1) s.heap a u → Rd (Kp oa k2) s.heap b v → wpAny W.M A (binaryOp op u v) (fun x s' => Keeps s s' ∧ Rd (Kp oa k) s'.heap d x) E s) :
    Ev W A env oa σ k (.BinOp l op r pos) d := fun ao s E S => by
  refine wpAny_BinOp (ev_then h1 ao S fun u s1 k1' S1 r1 => ev_then h2 ao S1 fun v s2 k2' S2 r2 => ?_)
  exact wpAny_mono (c u v s2 E ao S2 (r1.up (kups k2')) r2) (fun x s3 y => ⟨keeps_trans (keeps_trans k1' k2') y.1, y.2⟩) fun _ _ x => x

theorem ev_add {l r : Expr} {pos : Pos} {i j : Int} {k1 k2 : Bool} (h1 : Ev W A env oa σ k1 l (.int i)) (h2 : Ev W A env oa σ k2 r (.int j)) : Ev W A env oa σ k (.BinOp l .Add r pos) (.int (i + j)) :=
  ev_bin h1 h2 fun _ _ s E _ _ ⟨_, e1⟩ ⟨_, e2⟩ => by subst e1 e2; exact PyProof.Rows.add_int ⟨keeps_tok s _, _, rfl⟩
theorem ev_sub {l r : Expr} {pos : Pos} {i j : Int} {k1 k2 : Bool} (h1 : Ev W A env oa σ k1 l (.int i)) (h2 : Ev W A env oa σ k2 r (.int j)) : Ev W A env oa σ k (.BinOp l .Sub r pos) (.int (i - j)) :=
  ev_bin h1 h2 fun _ _ s E _ _ ⟨_, e1⟩ ⟨_, e2⟩ => by subst e1 e2; exact PyProof.Rows.sub_int ⟨keeps_tok s _, _, rfl⟩
theorem ev_mul {l r : Expr} {pos : Pos} {i j : Int} {k1 k2 : Bool} (h1 : Ev W A env oa σ k1 l (.int i)) (h2 : Ev W A env oa σ k2 r (.int j)) (hm : IntMulOk i j) : Ev W A env oa σ k (.BinOp l .Mult r pos) (.int (i * j)) :=
  ev_bin h1 h2 fun _ _ s E _ _ ⟨_, e1⟩ ⟨_, e2⟩ => by subst e1 e2; exact PyProof.Rows.mul_int ⟨keeps_tok s _, _, rfl⟩ hm
theorem ev_fdiv {l r : Expr} {pos : Pos} {i j : Int} {k1 k2 : Bool} (h1 : Ev W A env oa σ k1 l (.int i)) (h2 : Ev W A env oa σ k2 r (.int j)) (hb : j ≠ 0) (hp : Builtin.divisionGoesByPylong i j = false) :
    Ev W A env oa σ k (.BinOp l .FloorDiv r pos) (.int (i.fdiv j)) :=
  ev_bin h1 h2 fun _ _ s E _ _ ⟨_, e1⟩ ⟨_, e2⟩ => by subst e1 e2; exact PyProof.Rows.floordiv_int hb ⟨keeps_tok s _, _, rfl⟩ (.inl hp)
theorem ev_fmod {l r : Expr} {pos : Pos} {i j : Int} {k1 k2 : Bool} (h1 : Ev W A env oa σ k1 l (.int i)) (h2 : Ev W A env oa σ k2 r (.int j)) (hb : j ≠ 0) : Ev W A env oa σ k (.BinOp l .Mod r pos) (.int (i.fmod j)) :=
  ev_bin h1 h2 fun _ _ s E _ _ ⟨_, e1⟩ ⟨_, e2⟩ => by subst e1 e2; exact PyProof.Rows.mod_int' hb ⟨keeps_tok s _, _, rfl⟩
end
end Jg
namespace Jg
open PySem PySem.W PySem.Calls PyProof.Rows
mutual
/-- the places of a datum lie in the heap, and are lists or tuples -/
theorem Rd.strong {ok ok' : Addr → Prop} {h : Heap} (hk : ∀ b o xs n, h.get? b = some o → o.data = .seq xs n → ok b → ok' b) : ∀ {d : D} {v : Value}, Rd ok h d v → Rd ok' h d v
  | .none, _, x => x
  | .bool _, _, x => x
  | .int _, _, x => x
  | .str _, _, x => x
  | .list _, _, ⟨a, vs, e, o, ⟨ob, h1, h2, n, h3⟩, r⟩ => ⟨a, vs, e, hk _ _ _ _ h1 h3 o, ⟨ob, h1, h2, n, h3⟩, Rds.strong hk r⟩
  | .tup _, _, ⟨a, vs, e, o, ⟨ob, h1, h2, n, h3⟩, r⟩ => ⟨a, vs, e, hk _ _ _ _ h1 h3 o, ⟨ob, h1, h2, n, h3⟩, Rds.strong hk r⟩
theorem Rds.strong {ok ok' : Addr → Prop} {h : Heap} (hk : ∀ b o xs n, h.get? b = some o → o.data = .seq xs n → ok b → ok' b) : ∀ {l : List D} {vs : List Value}, Rds ok h l vs → Rds ok' h l vs
  | [], _, x => x
  | _ :: _, _, ⟨v, r, e, x, y⟩ => ⟨v, r, e, Rd.strong hk x, Rds.strong hk y⟩
end
end Jg
end PartJg1

noncomputable section PartJg2
open PySem PySem.W PySem.Calls PyProof.Rows
namespace Jg

section
variable {W : Wd} {A : Around} {env : Env} {oa : List Addr} {σ : Sg} {k : Bool}

/-- the comparison's answer over two data -/
def Cmp (W : Wd) (op : CmpOp) (a b : D) (r : Bool) : Prop := ∀ A s (E : Value → Shared → Prop) ok u v, AOk A → Rd ok s.heap a u → Rd ok s.heap b v →
  wpAny W.M A (compareOp op u v) (fun c s' => Keeps s s' ∧ c = .bool r) E s

theorem cmp_eq {i j : Int} : Cmp W .Eq (.int i) (.int j) (i == j) := fun _ s _ _ _ _ _ ⟨_, e1⟩ ⟨_, e2⟩ => by subst e1 e2; exact PyProof.Rows.eq_int ⟨keeps_refl s, rfl⟩
theorem cmp_ne {i j : Int} : Cmp W .NotEq (.int i) (.int j) (i != j) := fun _ s _ _ _ _ _ ⟨_, e1⟩ ⟨_, e2⟩ => by subst e1 e2; exact PyProof.Rows.ne_int ⟨keeps_refl s, rfl⟩
theorem cmp_lt {i j : Int} : Cmp W .Lt (.int i) (.int j) (decide (i < j)) := fun _ s _ _ _ _ _ ⟨_, e1⟩ ⟨_, e2⟩ => by subst e1 e2; exact PyProof.Rows.lt_int ⟨keeps_refl s, rfl⟩
theorem cmp_le {i j : Int} : Cmp W .LtE (.int i) (.int j) (decide (i ≤ j)) := fun _ s _ _ _ _ _ ⟨_, e1⟩ ⟨_, e2⟩ => by subst e1 e2; exact PyProof.Rows.le_int ⟨keeps_refl s, rfl⟩
theorem cmp_gt {i j : Int} : Cmp W .Gt (.int i) (.int j) (decide (j < i)) := fun _ s _ _ _ _ _ ⟨_, e1⟩ ⟨_, e2⟩ => by subst e1 e2; exact PyProof.Rows.gt_int ⟨keeps_refl s, rfl⟩
theorem cmp_ge {i j : Int} : Cmp W .GtE (.int i) (.int j) (decide (j ≤ i)) := fun _ s _ _ _ _ _ ⟨_, e1⟩ ⟨_, e2⟩ => by subst e1 e2; exact PyProof.Rows.ge_int ⟨keeps_refl s, rfl⟩
theorem cmp_eq_str {i j : Str} : Cmp W .Eq (.str i) (.str j) (i == j) := fun _ s _ _ _ _ _ ⟨_, e1⟩ ⟨_, e2⟩ => by subst e1 e2; exact PyProof.Rows.eq_str ⟨keeps_refl s, rfl⟩
theorem cmp_ne_str {i j : Str} : Cmp W .NotEq (.str i) (.str j) (i != j) := fun _ s _ _ _ _ _ ⟨_, e1⟩ ⟨_, e2⟩ => by subst e1 e2; exact PyProof.Rows.ne_str ⟨keeps_refl s, rfl⟩
theorem cmp_eq_ints {l m : List Int} : Cmp W .Eq (.list (l.map .int)) (.list (m.map .int)) (decide (l = m)) := fun _ s _ _ _ _ ao ⟨_, _, e1, _, h1, r1⟩ ⟨_, _, e2, _, h2, r2⟩ => by
  subst e1 e2; exact ke_eq_ints h1 h2 r1.ints r2.ints (by have := ao.units; omega) ⟨keeps_refl s, rfl⟩
theorem cmp_ne_ints {l m : List Int} : Cmp W .NotEq (.list (l.map .int)) (.list (m.map .int)) (!decide (l = m)) := fun _ s _ _ _ _ ao ⟨_, _, e1, _, h1, r1⟩ ⟨_, _, e2, _, h2, r2⟩ => by
  subst e1 e2; exact ke_ne_ints h1 h2 r1.ints r2.ints (by have := ao.units; omega) ⟨keeps_refl s, rfl⟩
theorem cmp_in_ints {i : Int} {l : List Int} : Cmp W .In (.int i) (.list (l.map .int)) (l.any (· == i)) := fun _ s _ _ _ _ _ ⟨_, e1⟩ ⟨_, _, e2, _, h2, r2⟩ => by
  subst e1 e2; exact in_list_ints h2 r2.ints ⟨keeps_refl s, rfl⟩
theorem Rds.strs {ok : Addr → Prop} {h : Heap} : ∀ {l : List Str} {vs : List Value}, Rds ok h (l.map .str) vs → StrsAre vs l
  | [], _, e => by rw [show _ = [] from e]; exact .nil
  | _ :: _, _, ⟨v, r, e, ⟨t, x⟩, y⟩ => by rw [e, x]; exact .cons _ _ (Rds.strs y)
theorem cmp_in_strs {i : Str} {l : List Str} : Cmp W .In (.str i) (.list (l.map .str)) (l.any (· == i)) := fun _ s _ _ _ _ _ ⟨_, e1⟩ ⟨_, _, e2, _, h2, r2⟩ => by
  subst e1 e2; exact in_list_strs h2 r2.strs ⟨keeps_refl s, rfl⟩
def D.isNone : D → Bool
  | .none => true
  | _ => false
theorem Rd.isNone {ok : Addr → Prop} {h : Heap} {d : D} {v : Value} (x : Rd ok h d v) : (v == .none) = d.isNone := by
  cases d with
  | none => rw [show v = .none from x]; rfl
  | bool b => rw [show v = .bool b from x]; rfl
  | int i => obtain ⟨t, e⟩ := x; rw [e]; rfl
  | str i => obtain ⟨t, e⟩ := x; rw [e]; rfl
  | list l => obtain ⟨a, vs, e, _⟩ := x; rw [e]; rfl
  | tup l => obtain ⟨a, vs, e, _⟩ := x; rw [e]; rfl
theorem cmp_isnot_none {d : D} : Cmp W .IsNot d .none (!d.isNone) := fun _ s _ _ u v _ x y => by
  rw [show v = .none from y]; exact isNot_none ⟨keeps_refl s, by rw [x.isNone]⟩

/-- truth -/
def Tru (W : Wd) (d : D) (r : Bool) : Prop := ∀ A s (E : Value → Shared → Prop) ok u, AOk A → Rd ok s.heap d u → wpAny W.M A (truthy u) (fun c s' => Keeps s s' ∧ c = r) E s
theorem tru_bool {b : Bool} : Tru W (.bool b) b := fun _ s _ _ _ _ e => by rw [show _ = Value.bool b from e]; exact wpAny_truthy_bool ⟨keeps_refl s, rfl⟩
theorem tru_list {l : List D} (h : l.length < 2 ^ 62) : Tru W (.list l) (!l.isEmpty) := fun _ s _ _ _ _ ⟨a, vs, e, _, hl, r⟩ => by
  subst e
  refine wpAny_truthy_list hl (by rw [List.size_toArray, r.length]; omega) ⟨keeps_tok s _, ?_⟩
  have := r.length
  cases vs <;> cases l <;> simp_all

/-- comparisons as tests and as values -/
theorem cmp_then {op : CmpOp} {a b : D} {r : Bool} {s : Shared} {C : Value → Shared → Prop} {E : Value → Shared → Prop} {ok : Addr → Prop} {u v : Value} (h : Cmp W op a b r) (ao : AOk A) (x : Rd ok s.heap a u) (y : Rd ok s.heap b v)
    (c : ∀ s', Keeps s s' → C (.bool r) s') : wpAny W.M A (compareOp op u v) C E s := wpAny_mono (h A s E ok u v ao x y) (fun w s' z => by obtain ⟨z1, rfl⟩ := z; exact c s' z1) fun _ _ x => x
theorem weak {h : Heap} {d : D} {v : Value} {k1 : Bool} (x : Rd (Kp oa k1) h d v) : Rd (fun _ => True) h d v := x.mono (fun _ _ => trivial) (Ups.refl _).seqs

theorem ev_cmp {l r : Expr} {op : CmpOp} {pos : Pos} {a b : D} {q : Bool} {k1 k2 : Bool} (h1 : Ev W A env oa σ k1 l a) (h2 : Ev W A env oa σ k2 r b) (c : Cmp W op a b q) (hm : behindInMarks op r = false := by with_unfolding_all rfl) :
    Ev W A env oa σ k (.Compare l [op] [r] pos) (.bool q) := fun ao s E S => by
  refine wpAny_Compare1 (ev_then h1 ao S fun u s1 k1' S1 r1 => ev_then h2 ao S1 fun v s2 k2' S2 r2 => cmp_then c ao (weak (r1.up (kups k2'))) (weak r2) fun s3 k3 => ?_) hm
  exact ⟨keeps_trans (keeps_trans k1' k2') k3, rfl⟩
theorem tst_cmp {l r : Expr} {op : CmpOp} {pos : Pos} {a b : D} {q : Bool} {k1 k2 : Bool} (h1 : Ev W A env oa σ k1 l a) (h2 : Ev W A env oa σ k2 r b) (c : Cmp W op a b q) (hm : behindInMarks op r = false := by with_unfolding_all rfl) :
    Tst W A env oa σ (.Compare l [op] [r] pos) q := fun ao s E S => by
  refine wpAny_isTrue_Compare1 (ev_then h1 ao S fun u s1 k1' S1 r1 => ev_then h2 ao S1 fun v s2 k2' S2 r2 => cmp_then c ao (weak (r1.up (kups k2'))) (weak r2) fun s3 k3 => wpAny_truthy_bool ?_) hm
  exact ⟨keeps_trans (keeps_trans k1' k2') k3, rfl⟩

/-- a < b < c -/
theorem tst_chain {l r1 r2 : Expr} {o1 o2 : CmpOp} {pos : Pos} {a b c : D} {q1 q2 : Bool} {k1 k2 k3 : Bool} (h1 : Ev W A env oa σ k1 l a) (h2 : Ev W A env oa σ k2 r1 b) (h3 : q1 = true → Ev W A env oa σ k3 r2 c) (c1 : Cmp W o1 a b q1) (c2 : Cmp W o2 b c q2)
    (hm : lastMarks [o1, o2] [r1, r2] = false := by with_unfolding_all rfl) : Tst W A env oa σ (.Compare l [o1, o2] [r1, r2] pos) (q1 && q2) := fun ao s E S => by
  refine isTrue_chain (ev_then h1 ao S fun u s1 k1' S1 x1 => test_link (ev_then h2 ao S1 fun v s2 k2' S2 x2 => cmp_then c1 ao (weak (x1.up (kups k2'))) (weak x2) fun s3 k3' => wpAny_truthy_bool ?_)) hm
  cases hq : q1 with
  | false => exact ⟨keeps_trans (keeps_trans k1' k2') k3', rfl⟩
  | true =>
    rw [if_pos rfl]
    refine test_last (ev_then (h3 hq) ao (S2.up (kups k3')) fun w s4 k4' S4 x4 => cmp_then c2 ao (weak ((x2.up (kups k3')).up (kups k4'))) (weak x4) fun s5 k5' => wpAny_truthy_bool ?_)
    exact ⟨keeps_trans (keeps_trans (keeps_trans (keeps_trans k1' k2') k3') k4') k5', by simp⟩
theorem ev_chain {l r1 r2 : Expr} {o1 o2 : CmpOp} {pos : Pos} {a b c : D} {q1 q2 : Bool} {k1 k2 k3 : Bool} (h1 : Ev W A env oa σ k1 l a) (h2 : Ev W A env oa σ k2 r1 b) (h3 : q1 = true → Ev W A env oa σ k3 r2 c) (c1 : Cmp W o1 a b q1) (c2 : Cmp W o2 b c q2)
    (hm : lastMarks [o1, o2] [r1, r2] = false := by with_unfolding_all rfl) : Ev W A env oa σ k (.Compare l [o1, o2] [r1, r2] pos) (.bool (q1 && q2)) := fun ao s E S => by
  refine Compare_chain (ev_then h1 ao S fun u s1 k1' S1 x1 => chain_link (ev_then h2 ao S1 fun v s2 k2' S2 x2 => cmp_then c1 ao (weak (x1.up (kups k2'))) (weak x2) fun s3 k3' => wpAny_truthy_bool ?_)) hm
  cases hq : q1 with
  | false => exact ⟨keeps_trans (keeps_trans k1' k2') k3', rfl⟩
  | true =>
    rw [if_pos rfl]
    refine chain_last (ev_then (h3 hq) ao (S2.up (kups k3')) fun w s4 k4' S4 x4 => cmp_then c2 ao (weak ((x2.up (kups k3')).up (kups k4'))) (weak x4) fun s5 k5' => ?_)
    exact ⟨keeps_trans (keeps_trans (keeps_trans (keeps_trans k1' k2') k3') k4') k5', by simp; rfl⟩

/-- tests -/
theorem tst_val {e : Expr} {d : D} {q k1 : Bool} (h : Ev W A env oa σ k1 e d) (t : Tru W d q) (he : ∀ whole, isTrue e env whole = (do let v ← whole; standAt e.pos; holding [v] (truthy v)) := by intro _; rfl) : Tst W A env oa σ e q := fun ao s E S => by
  refine wpAny_isTrue_value (ev_then h ao S fun v s1 k1' S1 r1 => ?_) (he _)
  exact wpAny_mono (t A s1 E _ v ao r1) (fun c s2 z => ⟨keeps_trans k1' z.1, z.2⟩) fun _ _ x => x
theorem tst_not {e : Expr} {pos : Pos} {q : Bool} (h : Tst W A env oa σ e q) : Tst W A env oa σ (.UnaryOp .Not e pos) (!q) := fun ao s E S =>
  wpAny_isTrue_Not (tst_then h ao S fun _ k1' _ => ⟨k1', rfl⟩)
theorem tst_and {x y : Expr} {pos : Pos} {a b : Bool} (h1 : Tst W A env oa σ x a) (h2 : a = true → Tst W A env oa σ y b) : Tst W A env oa σ (.BoolOp .And [x, y] pos) (a && b) := fun ao s E S => by
  refine wpAny_isTrue_BoolOp (wpAny_allTrue_And_cons (tst_then h1 ao S fun s1 k1' S1 => ?_))
  cases ha : a with
  | false => exact ⟨k1', rfl⟩
  | true =>
    rw [if_pos rfl]
    refine wpAny_allTrue_And_cons (tst_then (h2 ha) ao S1 fun s2 k2' S2 => ?_)
    cases hb : b with
    | false => exact ⟨keeps_trans k1' k2', rfl⟩
    | true => exact wpAny_allTrue_And_nil ⟨keeps_trans k1' k2', rfl⟩
theorem tst_or {x y : Expr} {pos : Pos} {a b : Bool} (h1 : Tst W A env oa σ x a) (h2 : a = false → Tst W A env oa σ y b) : Tst W A env oa σ (.BoolOp .Or [x, y] pos) (a || b) := fun ao s E S => by
  refine wpAny_isTrue_BoolOp (wpAny_allTrue_Or_cons (tst_then h1 ao S fun s1 k1' S1 => ?_))
  cases ha : a with
  | true => exact ⟨k1', rfl⟩
  | false =>
    refine wpAny_allTrue_Or_cons (tst_then (h2 ha) ao S1 fun s2 k2' S2 => ?_)
    cases hb : b with
    | true => exact ⟨keeps_trans k1' k2', rfl⟩
    | false => exact wpAny_allTrue_Or_nil ⟨keeps_trans k1' k2', rfl⟩
theorem tst_or3 {x y z : Expr} {pos : Pos} {a b c : Bool} (h1 : Tst W A env oa σ x a) (h2 : a = false → Tst W A env oa σ y b) (h3 : a = false → b = false → Tst W A env oa σ z c) : Tst W A env oa σ (.BoolOp .Or [x, y, z] pos) (a || (b || c)) := fun ao s E S => by
  refine wpAny_isTrue_BoolOp (wpAny_allTrue_Or_cons (tst_then h1 ao S fun s1 k1' S1 => ?_))
  cases ha : a with
  | true => exact ⟨k1', rfl⟩
  | false =>
    refine wpAny_allTrue_Or_cons (tst_then (h2 ha) ao S1 fun s2 k2' S2 => ?_)
    cases hb : b with
    | true => exact ⟨keeps_trans k1' k2', rfl⟩
    | false =>
      refine wpAny_allTrue_Or_cons (tst_then (h3 ha hb) ao S2 fun s3 k3' S3 => ?_)
      cases hc : c with
      | true => exact ⟨keeps_trans (keeps_trans k1' k2') k3', rfl⟩
      | false => exact wpAny_allTrue_Or_nil ⟨keeps_trans (keeps_trans k1' k2') k3', rfl⟩

/-- x and y, x or y as values -/
theorem ev_and {x y : Expr} {pos : Pos} {d1 d2 : D} {a k1 : Bool} (h1 : Ev W A env oa σ k x d1) (t : Tru W d1 a) (h2 : a = true → Ev W A env oa σ k y d2) : Ev W A env oa σ k (.BoolOp .And [x, y] pos) (if a then d2 else d1) := fun ao s E S => by
  refine wpAny_And2 (ev_then h1 ao S fun v s1 k1' S1 r1 => wpAny_mono (t A s1 _ _ v ao r1) (fun c s2 z => ?_) fun _ _ x => x)
  obtain ⟨k2', rfl⟩ := z
  cases hc : c with
  | false => exact ⟨keeps_trans k1' k2', r1.up (kups k2')⟩
  | true => exact ev_then (h2 hc) ao (S1.up (kups k2')) fun w s3 k3' _ r3 => ⟨keeps_trans (keeps_trans k1' k2') k3', r3⟩
theorem ev_or {x y : Expr} {pos : Pos} {d1 d2 : D} {a : Bool} (h1 : Ev W A env oa σ k x d1) (t : Tru W d1 a) (h2 : a = false → Ev W A env oa σ k y d2) : Ev W A env oa σ k (.BoolOp .Or [x, y] pos) (if a then d1 else d2) := fun ao s E S => by
  refine wpAny_Or2 (ev_then h1 ao S fun v s1 k1' S1 r1 => wpAny_mono (t A s1 _ _ v ao r1) (fun c s2 z => ?_) fun _ _ x => x)
  obtain ⟨k2', rfl⟩ := z
  cases hc : c with
  | true => exact ⟨keeps_trans k1' k2', r1.up (kups k2')⟩
  | false => exact ev_then (h2 hc) ao (S1.up (kups k2')) fun w s3 k3' _ r3 => ⟨keeps_trans (keeps_trans k1' k2') k3', r3⟩

theorem ev_if {t b o : Expr} {pos : Pos} {q : Bool} {d : D} (h : Tst W A env oa σ t q) (h1 : q = true → Ev W A env oa σ k b d) (h2 : q = false → Ev W A env oa σ k o d) : Ev W A env oa σ k (.IfExp t b o pos) d := fun ao s E S => by
  refine wpAny_IfExp (tst_then h ao S fun s1 k1' S1 => ?_)
  cases hq : q with
  | true => exact ev_then (h1 hq) ao S1 fun w s3 k3' _ r3 => ⟨keeps_trans k1' k3', r3⟩
  | false => exact ev_then (h2 hq) ao S1 fun w s3 k3' _ r3 => ⟨keeps_trans k1' k3', r3⟩

theorem ev_neg {e : Expr} {pos : Pos} {i : Int} {k1 : Bool} (h : Ev W A env oa σ k1 e (.int i)) : Ev W A env oa σ k (.UnaryOp .USub e pos) (.int (-i)) := fun ao s E S => by
  refine wpAny_UnaryOp (ev_then h ao S fun v s1 k1' S1 r1 => ?_)
  obtain ⟨t, rfl⟩ := r1
  exact PyProof.Rows.neg_int ⟨keeps_trans k1' (keeps_tok s1 _), _, rfl⟩
theorem ev_not {e : Expr} {pos : Pos} {d : D} {q : Bool} {k1 : Bool} (h : Ev W A env oa σ k1 e d) (t : Tru W d q) : Ev W A env oa σ k (.UnaryOp .Not e pos) (.bool (!q)) := fun ao s E S => by
  refine wpAny_UnaryOp (ev_then h ao S fun v s1 k1' S1 r1 => not_value (wpAny_mono (t A s1 _ _ v ao r1) (fun c s2 z => ?_) fun _ _ x => x))
  obtain ⟨k2', rfl⟩ := z
  exact ⟨keeps_trans k1' k2', rfl⟩
end
end Jg
end PartJg2

noncomputable section PartJg3
open PySem PySem.W PySem.Calls PyProof.Rows
namespace Jg

/-- a new list, whose items read l -/
def NewL (oa : List Addr) (s s' : Shared) (l : List D) (v : Value) : Prop := ∃ a vs, v = .ref a ∧ s.heap.get? a = none ∧ s'.heap.PlainList a vs.toArray ∧ Rds (Kp oa true) s'.heap l vs
def EvN (W : Wd) (A : Around) (env : Env) (oa : List Addr) (σ : Sg) (e : Expr) (l : List D) : Prop :=
  AOk A → ∀ s E, Sv W env oa σ s.heap → wpAny W.M A (eval e env) (fun v s' => Keeps s s' ∧ NewL oa s s' l v) E s
def Evs (W : Wd) (A : Around) (env : Env) (oa : List Addr) (σ : Sg) (k : Bool) (es : List Expr) (ds : List D) : Prop :=
  AOk A → ∀ pos s E (Q : List Value → Shared → Prop), Sv W env oa σ s.heap → (∀ vs s', Keeps s s' → Rds (Kp oa k) s'.heap ds vs → Q vs s') → wpAny W.M A (spliced (backTo pos (starEach es env))) Q E s

section
variable {W : Wd} {A : Around} {env : Env} {oa : List Addr} {σ : Sg} {k : Bool}

theorem ev_new {e : Expr} {l : List D} (h : EvN W A env oa σ e l) : Ev W A env oa σ k e (.list l) := fun ao s E S =>
  wpAny_mono (h ao s E S) (fun v s' x => by
    obtain ⟨x1, a, vs, rfl, hn, hp, r⟩ := x
    exact ⟨x1, a, vs, rfl, S.fresh hn k, hp.isList, r.mono (fun b o => by cases k with | true => exact o | false => exact fun q => by cases q) (Ups.refl _).seqs⟩) fun _ _ x => x
theorem evN_then {e : Expr} {l : List D} {s : Shared} {C : Value → Shared → Prop} {E : Value → Shared → Prop} (h : EvN W A env oa σ e l) (a : AOk A) (S : Sv W env oa σ s.heap)
    (c : ∀ v s', Keeps s s' → Sv W env oa σ s'.heap → NewL oa s s' l v → C v s') : wpAny W.M A (eval e env) C E s :=
  wpAny_mono (h a s E S) (fun v s' x => c v s' x.1 (S.up (kups x.1)) x.2) fun _ _ x => x

theorem evs_nil : Evs W A env oa σ k [] [] := fun _ pos s E Q S c => wpAny_items_nil (c [] s (keeps_refl s) rfl)
theorem evs_cons {e : Expr} {es : List Expr} {d : D} {ds : List D} (h1 : Ev W A env oa σ k e d) (h2 : Evs W A env oa σ k es ds) (he : starEach (e :: es) env = (false, eval e env) :: starEach es env := by rfl) :
    Evs W A env oa σ k (e :: es) (d :: ds) := fun ao pos s E Q S c => by
  refine wpAny_items_cons (ev_then h1 ao S fun v s1 k1 S1 r1 => h2 ao pos s1 E _ S1 fun vs s2 k2 r2 => c _ s2 (keeps_trans k1 k2) ⟨v, vs, rfl, r1.up (kups k2), r2⟩) he
theorem Rds.fresh_ok {h : Heap} {a : Addr} (S : Sv W env oa σ h) (e : h.get? a = none) : Kp oa k a := S.fresh e k

theorem size_none (h : Heap) : h.get? h.objs.size = none := by
  cases q : h.get? h.objs.size with
  | none => rfl
  | some o => exact absurd (Heap.lt_size q) (Nat.lt_irrefl _)

theorem ev_tuple {es : List Expr} {ds : List D} {n : Nat} {pos : Pos} (h : Evs W A env oa σ k es ds) (hs : ds.length ≤ 1000 := by decide) : Ev W A env oa σ k (.Tuple es n pos) (.tup ds) := fun ao s E S => by
  refine wpAny_Tuple (h ao pos s E _ S fun vs s1 k1 r1 => ⟨by rw [r1.length, sizeLine_eq]; omega, keeps_trans k1 (keeps_heap (Ups.push _ _)), s1.heap.objs.size, vs, rfl, ?_, ⟨_, Heap.get?_push_size _ rfl, rfl, 0, rfl⟩, r1.up (Ups.push _ _)⟩)
  exact (S.up (kups k1)).fresh (size_none _) k
theorem evN_list {es : List Expr} {ds : List D} {pos : Pos} (h : Evs W A env oa σ true es ds) (hs : ds.length ≤ 1000 := by decide) : EvN W A env oa σ (.List es pos) ds := fun ao s E S => by
  refine wpAny_List (h ao pos s E _ S fun vs s1 k1 r1 => ⟨by rw [r1.length, sizeLine_eq]; omega, keeps_trans k1 (keeps_heap (Ups.push _ _)), s1.heap.objs.size, vs, rfl, ?_, ⟨0, Heap.get?_push_size _ rfl⟩, r1.up (Ups.push _ _)⟩)
  cases q : s.heap.get? s1.heap.objs.size with
  | none => rfl
  | some o => have := kups k1 _ _ q; rw [size_none] at this; cases this

/-- subscripts -/
theorem ev_item {e i : Expr} {pos : Pos} {l : List D} {n : Int} {d : D} {k' : Bool} (h1 : Ev W A env oa σ k e (.list l)) (h2 : Ev W A env oa σ k' i (.int n)) (h0 : 0 ≤ n) (hf : n < 2 ^ 63) (hd : l[n.toNat]? = some d)
    (hs : ∀ o v, subscripted i false o v = operate [o, v] (getItem o v) := by intro _ _; rfl) : Ev W A env oa σ k (.Subscript e i pos) d := fun ao s E S => by
  refine Subscript_ (ev_then h1 ao S fun u s1 k1 S1 r1 => ev_then h2 ao S1 fun v s2 k2 S2 r2 => ?_)
  obtain ⟨a, vs, rfl, _, hl, r⟩ := r1.up (kups k2)
  obtain ⟨t, rfl⟩ := r2
  obtain ⟨x, hx, rx⟩ := r.get hd
  exact tail_any hl.typeIs slot_list_getitem.lookup (wpAny_getItem_list hl h0 hf (by simpa using hx) ⟨keeps_trans k1 k2, rx⟩) (hs _ _)
theorem ev_item_neg {e i : Expr} {pos : Pos} {l : List D} {n : Int} {d : D} {k' : Bool} (h1 : Ev W A env oa σ k e (.list l)) (h2 : Ev W A env oa σ k' i (.int n)) (h0 : n < 0) (h3 : -(l.length : Int) ≤ n) (hf : -(2 ^ 63) ≤ n) (hd : l[(n + l.length).toNat]? = some d)
    (hs : ∀ o v, subscripted i false o v = operate [o, v] (getItem o v) := by intro _ _; rfl) : Ev W A env oa σ k (.Subscript e i pos) d := fun ao s E S => by
  refine Subscript_ (ev_then h1 ao S fun u s1 k1 S1 r1 => ev_then h2 ao S1 fun v s2 k2 S2 r2 => ?_)
  obtain ⟨a, vs, rfl, _, hl, r⟩ := r1.up (kups k2)
  obtain ⟨t, rfl⟩ := r2
  have hlen := r.length
  obtain ⟨x, hx, rx⟩ := r.get hd
  exact tail_any hl.typeIs slot_list_getitem.lookup (wpAny_getItem_list_neg hl h0 (by rw [List.size_toArray, hlen]; exact h3) hf (by rw [List.size_toArray, hlen]; simpa using hx) ⟨keeps_trans k1 k2, rx⟩) (hs _ _)
theorem ev_itemT {e i : Expr} {pos : Pos} {l : List D} {n : Int} {d : D} {k' : Bool} (h1 : Ev W A env oa σ k e (.tup l)) (h2 : Ev W A env oa σ k' i (.int n)) (h0 : 0 ≤ n) (hf : n < 2 ^ 63) (hd : l[n.toNat]? = some d)
    (hs : ∀ o v, subscripted i false o v = operate [o, v] (getItem o v) := by intro _ _; rfl) : Ev W A env oa σ k (.Subscript e i pos) d := fun ao s E S => by
  refine Subscript_ (ev_then h1 ao S fun u s1 k1 S1 r1 => ev_then h2 ao S1 fun v s2 k2 S2 r2 => ?_)
  obtain ⟨a, vs, rfl, _, hl, r⟩ := r1.up (kups k2)
  obtain ⟨t, rfl⟩ := r2
  obtain ⟨x, hx, rx⟩ := r.get hd
  have hlt : n.toNat < vs.length := (List.getElem?_eq_some_iff.mp hx).1
  refine tail_any hl.typeIs slot_tuple_getitem.lookup (getItem_tuple hl (by omega) hf (j := n.toNat) ?_ (by simpa using hx) ⟨keeps_trans k1 k2, rx⟩) (hs _ _)
  have e1 : ¬ n < 0 := by omega
  have e2 : n < (vs.length : Int) := by omega
  simp [seqIndex?, e1, h0, e2]

/-- e[a:b], e[:b], e[:] with bounds that are not below nought -/
theorem slice_rd {ok : Addr → Prop} {h : Heap} {l : List D} {vs : List Value} (r : Rds ok h l vs) (a b : Nat) : Rds ok h ((l.drop a).take b) ((vs.drop a).take b) := (r.drop a).take b
theorem pick_nat (vs : List Value) (i j : Nat) : slicePick vs.toArray (some (i : Int)) (some (j : Int)) none = ((vs.drop i).take (j - i)).toArray := by
  rw [slicePick_plain]
  simp only [Option.elim, clipAt_nat, List.size_toArray]
  congr 1
  by_cases hi : i ≤ vs.length
  · rw [Nat.min_eq_left hi, show min j vs.length - i = min (j - i) (vs.drop i).length by rw [List.length_drop]; omega, ← List.take_eq_take_min]
  · rw [show min i vs.length = vs.length by omega, List.drop_length, List.drop_of_length_le (by omega)]; simp
theorem slice_core {s s3 : Shared} {ad : Addr} {l : List D} {vs : List Value} {vl vu : Value} {lo hi : Option Int} {i j : Nat} (S3 : Sv W env oa σ s3.heap) (K3 : Keeps s s3) (hl : s3.heap.IsList ad vs.toArray) (r : Rds (Kp oa true) s3.heap l vs) (hsz : l.length ≤ 10000000)
    (e1 : slicePick vs.toArray lo hi none = ((vs.drop i).take j).toArray) (pl : IsPart vl lo) (pu : IsPart vu hi) :
    ∃ l' items lo hi, Value.ref ad = .ref l' ∧ s3.heap.IsList l' items ∧ items.size ≤ sizeLine ∧ IsPart vl lo ∧ IsPart vu hi ∧
      (Keeps s { s3 with heap := (s3.heap.push { cls := .type "slice", data := .fields #[vl, vu, .none] }).push { cls := .type "list", data := .seq (slicePick items lo hi none) } } ∧
       NewL oa s { s3 with heap := (s3.heap.push { cls := .type "slice", data := .fields #[vl, vu, .none] }).push { cls := .type "list", data := .seq (slicePick items lo hi none) } } ((l.drop i).take j) (.ref (s3.heap.objs.size + 1))) := by
  have hlen := r.length
  refine ⟨ad, _, lo, hi, rfl, hl, by rw [List.size_toArray, hlen, sizeLine_eq]; omega, pl, pu, ?_⟩
  have U : Ups s3.heap ((s3.heap.push { cls := .type "slice", data := .fields #[vl, vu, .none] }).push { cls := .type "list", data := .seq (slicePick vs.toArray lo hi none) }) := (Ups.push _ _).trans (Ups.push _ _)
  refine ⟨keeps_trans K3 (keeps_heap U), s3.heap.objs.size + 1, (vs.drop i).take j, rfl, ?_, ?_, (slice_rd r i j).up U⟩
  · cases q : s.heap.get? (s3.heap.objs.size + 1) with
    | none => rfl
    | some o => exact absurd (Heap.lt_size (kups K3 _ _ q)) (Nat.not_lt.mpr (Nat.le_succ _))
  · rw [e1]
    refine ⟨0, ?_⟩
    have := Heap.get?_push_size (s3.heap.push { cls := .type "slice", data := .fields #[vl, vu, .none] }) (o := { cls := .type "list", data := .seq ((vs.drop i).take j).toArray }) rfl
    rw [Heap.size_push] at this
    exact this
theorem ev_slice {e a b : Expr} {p pos : Pos} {l : List D} {i j : Nat} {k1 k2 : Bool} (h1 : Ev W A env oa σ true e (.list l)) (h2 : Ev W A env oa σ k1 a (.int i)) (h3 : Ev W A env oa σ k2 b (.int j)) (hsz : l.length ≤ 10000000)
    (ht : ∀ o r, letTemporaryGo e o r = pure () := by intro _ _; rfl) : EvN W A env oa σ (.Subscript e (.Slice (some a) (some b) none p) pos) ((l.drop i).take (j - i)) := fun ao s E S => by
  refine wpAny_Subscript_list_slice (ev_then h1 ao S fun u s1 k1 S1 r1 => ?_) ht
  rw [evalPart_some, evalPart_some]
  refine ev_then h2 ao S1 fun v s2 k2 S2 r2 => ev_then h3 ao S2 fun w s3 k3 S3 r3 => ?_
  obtain ⟨ad, vs, rfl, _, hl, r⟩ := (r1.up (kups k2)).up (kups k3)
  obtain ⟨t2, rfl⟩ := r2
  obtain ⟨t3, rfl⟩ := r3
  exact slice_core S3 (keeps_trans (keeps_trans k1 k2) k3) hl r hsz (pick_nat vs i j) (.int _ _) (.int _ _)
theorem ev_slice_to {e b : Expr} {p pos : Pos} {l : List D} {j : Nat} {k2 : Bool} (h1 : Ev W A env oa σ true e (.list l)) (h3 : Ev W A env oa σ k2 b (.int j)) (hsz : l.length ≤ 10000000)
    (ht : ∀ o r, letTemporaryGo e o r = pure () := by intro _ _; rfl) : EvN W A env oa σ (.Subscript e (.Slice none (some b) none p) pos) (l.take j) := fun ao s E S => by
  refine wpAny_Subscript_list_slice (ev_then h1 ao S fun u s1 k1 S1 r1 => ?_) ht
  rw [evalPart_some, evalPart_none]
  refine wpAny_pure (ev_then h3 ao S1 fun w s3 k3 S3 r3 => ?_)
  obtain ⟨ad, vs, rfl, _, hl, r⟩ := r1.up (kups k3)
  obtain ⟨t3, rfl⟩ := r3
  have := slice_core (s := s) (i := 0) (j := j) S3 (keeps_trans k1 k3) hl r hsz (vl := .none) (vu := .int j t3) (lo := none) (hi := some (j : Int)) (by rw [slicePick_upto']; simp) .none (.int _ _)
  simpa using this
theorem ev_slice_all {e : Expr} {p pos : Pos} {l : List D} (h1 : Ev W A env oa σ true e (.list l)) (hsz : l.length ≤ 10000000)
    (ht : ∀ o r, letTemporaryGo e o r = pure () := by intro _ _; rfl) : EvN W A env oa σ (.Subscript e (.Slice none none none p) pos) l := fun ao s E S => by
  refine wpAny_Subscript_list_slice (ev_then h1 ao S fun u s1 k1 S1 r1 => ?_) ht
  rw [evalPart_none]
  refine wpAny_pure (wpAny_pure ?_)
  obtain ⟨ad, vs, rfl, _, hl, r⟩ := r1
  have hlen := r.length
  have := slice_core (s := s) (i := 0) (j := l.length) S1 k1 hl r hsz (vl := .none) (vu := .none) (lo := none) (hi := none) (by rw [slicePick_all, ← hlen]; simp) .none .none
  simpa using this

/-- lists glued and repeated -/
theorem evN_cat {l r : Expr} {pos : Pos} {a b : List D} (h1 : Ev W A env oa σ true l (.list a)) (h2 : Ev W A env oa σ true r (.list b)) (hsz : a.length + b.length ≤ 10000000) : EvN W A env oa σ (.BinOp l .Add r pos) (a ++ b) := fun ao s E S => by
  refine wpAny_BinOp (ev_then h1 ao S fun u s1 k1 S1 r1 => ev_then h2 ao S1 fun v s2 k2 S2 r2 => ?_)
  obtain ⟨x, vs, rfl, _, hl, ra⟩ := r1.up (kups k2)
  obtain ⟨y, ws, rfl, _, hb, rb⟩ := r2
  obtain ⟨⟨cls, dd, data, sl⟩, ho, hc, n, hd⟩ := id hl
  obtain ⟨⟨cls2, dd2, data2, sl2⟩, ho2, hc2, n2, hd2⟩ := id hb
  simp only at hc hd hc2 hd2
  subst hc hd hc2 hd2
  have e : vs.toArray ++ ws.toArray = (vs ++ ws).toArray := by simp
  refine concat_meets ⟨_, ho, rfl⟩ ⟨_, ho2, rfl⟩ noFill_list_add seq_list_add PySem.F.slot_list_add PySem.F.entry_list_add (PySem.F.args_list_add_2 _ _) (list_addW x y vs.toArray ws.toArray n n2 dd dd2 sl sl2 (by rw [List.size_toArray, List.size_toArray, ra.length, rb.length, sizeLine_eq]; omega)) ⟨ho, ho2, ?_⟩
  rw [e]
  refine ⟨keeps_trans (keeps_trans k1 k2) (keeps_heap (Ups.push _ _)), s2.heap.objs.size, vs ++ ws, rfl, ?_, ⟨0, Heap.get?_push_size _ rfl⟩, (ra.append rb).up (Ups.push _ _)⟩
  cases q : s.heap.get? s2.heap.objs.size with
  | none => rfl
  | some o => exact absurd (Heap.lt_size (kups (keeps_trans k1 k2) _ _ q)) (Nat.lt_irrefl _)
theorem foldl_rep (v : Value) : ∀ (n : Nat) (acc : Array Value), (List.replicate n #[v]).foldl (fun x y => x ++ y) acc = acc ++ (List.replicate n v).toArray
  | 0, acc => by simp
  | n + 1, acc => by
    rw [List.replicate_succ, List.foldl_cons, foldl_rep v n]
    apply Array.toList_inj.mp
    simp [List.replicate_succ]
theorem Rds.rep {ok : Addr → Prop} {h : Heap} {d : D} {v : Value} (x : Rd ok h d v) : ∀ n, Rds ok h (List.replicate n d) (List.replicate n v)
  | 0 => rfl
  | n + 1 => ⟨v, _, rfl, x, Rds.rep x n⟩
theorem fit1 {n : Nat} (hn : n ≤ 10000000) : ¬(!Builtin.List.listFitsIndex (n : Int)) = true := by
  have h1 : (-(2 : Int) ^ 63) ≤ n := by omega
  have h2 : (n : Int) < 2 ^ 63 := by omega
  unfold Builtin.List.listFitsIndex
  rw [decide_eq_true h1, decide_eq_true h2]; decide
theorem fit2 {n : Nat} {x : Value} (hn : n ≤ 10000000) : ¬ (#[x] : Array Value).size * (n : Int).toNat > (2 ^ 63 - 1) / 8 := by
  rw [Int.toNat_natCast, show (#[x] : Array Value).size = 1 from rfl]; omega
theorem fit3 {n : Nat} {x : Value} (hn : n ≤ 10000000) : ¬ Builtin.List.listTooLong ((#[x] : Array Value).size * (n : Int).toNat) = true := by
  rw [Int.toNat_natCast, show (#[x] : Array Value).size = 1 from rfl]
  unfold Builtin.List.listTooLong
  rw [sizeLine_eq]
  simp; omega
/-- [e] * n -/
theorem evN_rep {e r : Expr} {p pos : Pos} {d : D} {n : Nat} {k1 : Bool} (h1 : Ev W A env oa σ true e d) (h2 : Ev W A env oa σ k1 r (.int n)) (hn : n ≤ 10000000) (he : starEach [e] env = [(false, eval e env)] := by rfl) :
    EvN W A env oa σ (.BinOp (.List [e] p) .Mult r pos) (List.replicate n d) := fun ao s E S => by
  refine wpAny_BinOp (evN_then (evN_list (evs_cons h1 evs_nil he) (by simp)) ao S fun u s1 k1 S1 r1 => ev_then h2 ao S1 fun v s2 k2 S2 r2 => ?_)
  obtain ⟨a, vs, rfl, hn', ⟨c, hp⟩, x, y, rfl, hx, hy⟩ := r1
  rw [show y = [] from hy] at hp
  obtain ⟨t, rfl⟩ := r2
  have hp2 := kups k2 _ _ hp
  have f1 := fit1 hn
  have f2 := fit2 (x := x) hn
  have f3 := fit3 (x := x) hn
  generalize hn' : (n : Int) = z at f1 f2 f3 ⊢
  have c1 := AutoListH.list___mul___list_int_3 a #[x] c z t f1 f2 f3
  have c2 := int___rmul___int_list z t a #[x] c
  refine wpAny_binaryOp_repeat_ref (T := "list") (U := "int") (by decide) ⟨_, hp2, rfl⟩ (fun s' => typeIs_int s' z t) noFill_list_mul F.fills_int_mul F.slot_int_rmul repeat_list F.slot_int_index.lookup
    (call_meets F.slot_int_rmul (typeIs_int s2 z t) F.entry_int_rmul (F.args_int_rmul_2 _ _) c2
      ⟨hp2, rfl, ⟨_, hp2, rfl⟩, call_meets F.slot_list_mul ⟨_, hp2, rfl⟩ F.entry_list_mul (F.args_list_mul_2 _ _) c1 ⟨hp2, ?_⟩⟩)
  subst hn'
  have e1 : (List.foldl (fun x1 x2 => x1 ++ x2) #[] (List.replicate (if (#[x] : Array Value).isEmpty = true then 0 else (n : Int).toNat) #[x])) = (List.replicate n x).toArray := by
    rw [if_neg (by simp), Int.toNat_natCast, foldl_rep]; simp
  rw [e1]
  refine ⟨keeps_trans (keeps_trans k1 k2) (keeps_heap (Ups.push _ _)), s2.heap.objs.size, List.replicate n x, rfl, ?_, ⟨0, Heap.get?_push_size _ rfl⟩, (Rds.rep (hx.up (kups k2)) n).up (Ups.push _ _)⟩
  cases q : s.heap.get? s2.heap.objs.size with
  | none => rfl
  | some o => exact absurd (Heap.lt_size (kups (keeps_trans k1 k2) _ _ q)) (Nat.lt_irrefl _)
end
end Jg
end PartJg3

noncomputable section PartJg4
open PySem PySem.W PySem.Calls PyProof.Rows
namespace Jg

/-- a built-in's call over data -/
def Clv (W : Wd) (f : Value) (ds : List D) (d : D) : Prop := ∀ A s (E : Value → Shared → Prop) (ok : Addr → Prop) vs, AOk A → (∀ a, s.heap.get? a = none → ok a) → Rds ok s.heap ds vs →
  wpAny W.M A (call f vs) (fun v s' => Keeps s s' ∧ Rd ok s'.heap d v) E s
inductive Mach : Value → Prop
  | builtin (id) : Mach (.builtin id)
  | type (n) : Mach (.type n)

section
variable {W : Wd} {A : Around} {env : Env} {oa : List Addr} {σ : Sg} {k : Bool}

theorem callWith_mach {M : Model} {s : Shared} {E : Value → Shared → Prop} {pos : Pos} {f : Value} {first : List Value} {args : List (Bool × Sem Value)} {Q : Value → Shared → Prop} (m : Mach f) (hplain : args.any (·.1) = false)
    (h : wpAny M A (evalArgs f true args []) (fun a s₁ => wpAny M A (call f (first ++ a.pos) a.kw) Q E s₁) E s) : wpAny M A (callWith pos f first args []) Q E s := by
  cases m with
  | builtin id => exact Calls.callWith_builtin hplain h
  | type n => exact PyProof.Rows.callWith_type hplain h
theorem evalArgs_all {M : Model} {s : Shared} {E : Value → Shared → Prop} {f : Value} {ts : List (Bool × Sem Value)} {Q : Args → Shared → Prop} (hplain : ts.any (·.1) = false) (h : wpAny M A (spliced ts) (fun vs s' => Q ⟨vs, []⟩ s') E s) :
    wpAny M A (evalArgs f true ts []) Q E s := by
  match ts, hplain, h with
  | [], _, h =>
    unfold evalArgs
    show wpAny M A (spliced [] >>= _) Q E s
    refine wpAny_bind (wpAny_mono h (fun vs s' h' => ?_) fun _ _ x => x)
    refine wpAny_holding ?_
    exact wpAny_bind (wpAny_pure (wpAny_bind (wpAny_pure (wpAny_pure h'))))
  | (false, x) :: rest, _, h => exact Calls.evalArgs_plain h
  | (true, x) :: rest, e, _ => simp at e

/-- the call of a built-in -/
theorem ev_call {x : Str} {np pos : Pos} {es : List Expr} {ds : List D} {d : D} {f : Value} (hf : EvV W A env oa σ (.Name x np) f) (m : Mach f) (hs : Evs W A env oa σ k es ds) (c : Clv W f ds d)
    (hplain : (backTo pos (starEach es env)).any (·.1) = false := by rfl) : Ev W A env oa σ k (.Call (.Name x np) es [] pos) d := fun ao s E S => by
  refine wpAny_Call_ofName (evV_then hf ao S fun s1 k1 S1 => callWith_mach m hplain (evalArgs_all hplain (hs ao pos s1 E _ S1 fun vs s2 k2 r2 => ?_)))
  exact wpAny_mono (c A s2 E _ vs ao (fun a e => (S1.up (kups k2)).fresh e k) r2) (fun v s3 y => ⟨keeps_trans (keeps_trans k1 k2) y.1, y.2⟩) fun _ _ x => x

theorem clv_len {l : List D} (h : l.length < 2 ^ 62) : Clv W (.builtin "len") [.list l] (.int l.length) := fun A s E ok vs ao _ ⟨v, r, e, x, y⟩ => by
  subst e
  rw [show r = [] from y]
  obtain ⟨a, us, rfl, _, hl, rl⟩ := x
  refine Calls.call_len_list hl (by rw [List.size_toArray, rl.length]; omega) ⟨keeps_tok s _, ?_⟩
  rw [List.size_toArray, rl.length]
  exact ⟨_, rfl⟩
theorem clv_int {i : Int} : Clv W (.type "int") [.int i] (.int i) := fun A s E ok vs ao _ ⟨v, r, e, ⟨t, x⟩, y⟩ => by
  subst e x
  rw [show r = [] from y]
  exact call_int_int ⟨keeps_refl s, _, rfl⟩
theorem clv_abs {i : Int} : Clv W (.builtin "abs") [.int i] (.int (i.natAbs : Int)) := fun A s E ok vs ao _ ⟨v, r, e, ⟨t, x⟩, y⟩ => by
  subst e x
  rw [show r = [] from y]
  refine call_abs_int fun u tk => ⟨keeps_tok s _, u, ?_⟩
  rw [show (i.natAbs : Int) = if i < 0 then -i else i by split <;> omega]
theorem preSum_all (ns : List Int) : ∀ (xs : Array (Int × Tok)), (intItems xs).toList.length = xs.size := fun xs => by simp [intItems]
theorem clv_sum {l : List Int} : Clv W (.builtin "sum") [.list (l.map .int)] (.int l.sum) := fun A s E ok vs ao _ ⟨v, r, e, x, y⟩ => by
  subst e
  rw [show r = [] from y]
  obtain ⟨a, us, rfl, _, hl, rl⟩ := x
  have hi := rl.ints
  obtain ⟨xs, hx⟩ := hi.allInts.items
  have hn : numsOf us.toArray.toList = l := by rw [show us.toArray.toList = us from rfl, hi.numsOf]
  rw [hx] at hl hn
  rw [nums_intItems] at hn
  refine sum_intListG ao.hand hl fun h' tk t' hk => ⟨keeps_of hk, t', ?_⟩
  rw [preSum_eq, List.take_of_length_le (by simp), hn]
theorem clv_max2 {i j : Int} : Clv W (.builtin "max") [.int i, .int j] (.int (if j > i then j else i)) := fun A s E ok vs ao _ ⟨v, r, e, ⟨t, x⟩, v2, r2, e2, ⟨t2, x2⟩, y⟩ => by
  subst e x e2 x2
  rw [show r2 = [] from y]
  refine max_two_ints ao.hand fun h' tk hk => ⟨keeps_of hk, ?_⟩
  split
  · exact ⟨_, rfl⟩
  · exact ⟨_, rfl⟩

end

theorem ups_sorted (h : Heap) (vs : List Value) (out : Array Value) : Ups h (sortedAll h vs out) := fun _ _ e => sortedAll_old e
section
variable {W : Wd} {A : Around} {env : Env} {oa : List Addr} {σ : Sg} {k : Bool}
/-- sorted over ints: what it is -/
def SortOf (l m : List Int) : Prop := m.Perm l ∧ m.Pairwise (· ≤ ·)
theorem SortOf.uniq {l m m' : List Int} (x : SortOf l m) (y : SortOf l m') : m = m' := by
  have p : m.Perm m' := x.1.trans y.1.symm
  exact p.eq_of_pairwise (fun a b _ _ h1 h2 => Int.le_antisymm h1 h2) x.2 y.2
theorem clv_sorted {l m : List Int} (hm : SortOf l m) (h64 : l.length < 64) : Clv W (.builtin "sorted") [.list (l.map .int)] (.list (m.map .int)) := fun A s E ok vs ao hf ⟨v, r, e, x, y⟩ => by
  subst e
  rw [show r = [] from y]
  obtain ⟨a, us, rfl, _, hl, rl⟩ := x
  have hlen : us.length = l.length := by rw [rl.length, List.length_map]
  refine sorted_ints hl rl.ints (by omega) fun out ns' i' p' w' => ?_
  obtain rfl : ns' = m := SortOf.uniq (l := l) ⟨p', w'⟩ hm
  obtain ⟨c, hc⟩ := sortedAll_at s.heap us out
  refine ⟨keeps_heap (ups_sorted _ _ _), s.heap.objs.size + 1, out.toList, rfl, hf _ ?_, ⟨_, hc, rfl, c, rfl⟩, Rds.of_ints i'⟩
  cases q : s.heap.get? (s.heap.objs.size + 1) with
  | none => rfl
  | some o => exact absurd (Heap.lt_size q) (Nat.not_lt.mpr (Nat.le_succ _))

theorem argBest_of {f : Nat → Int} : ∀ n, ∃ j, j ≤ n ∧ argBest (fun i j => decide (f i > f j)) n = j ∧ ∀ i ≤ n, f i ≤ f j
  | 0 => ⟨0, Nat.le_refl _, rfl, fun i hi => by rw [Nat.le_zero.mp hi]; exact Int.le_refl _⟩
  | n + 1 => by
    obtain ⟨j, hj, e, h⟩ := argBest_of (f := f) n
    by_cases c : f (n + 1) > f j
    · refine ⟨n + 1, Nat.le_refl _, ?_, fun i hi => ?_⟩
      · simp [argBest, e, c]
      · rcases Nat.lt_or_ge i (n + 1) with q | q
        · have := h i (by omega); omega
        · obtain rfl : i = n + 1 := by omega
          exact Int.le_refl _
    · refine ⟨j, by omega, ?_, fun i hi => ?_⟩
      · simp [argBest, e, c]
      · rcases Nat.lt_or_ge i (n + 1) with q | q
        · exact h i (by omega)
        · obtain rfl : i = n + 1 := by omega
          omega
def MaxOf (l : List Int) (m : Int) : Prop := m ∈ l ∧ ∀ x ∈ l, x ≤ m
theorem clv_max {l : List Int} {m : Int} (hm : MaxOf l m) : Clv W (.builtin "max") [.list (l.map .int)] (.int m) := fun A s E ok vs ao _ ⟨v, r, e, x, y⟩ => by
  subst e
  rw [show r = [] from y]
  obtain ⟨a, us, rfl, _, hl, rl⟩ := x
  have hi := rl.ints
  obtain ⟨xs, hx⟩ := hi.allInts.items
  have hn : numsOf us.toArray.toList = l := by rw [show us.toArray.toList = us from rfl, hi.numsOf]
  rw [hx] at hl hn
  rw [nums_intItems] at hn
  have hlen : l.length = xs.size := by rw [← hn]; simp
  have hpos : 0 < l.length := by
    obtain ⟨h1, _⟩ := hm
    cases l with
    | nil => cases h1
    | cons _ _ => simp
  refine call_max_walk (iter_intList hl fun s₂ e st hfp hlI => ?_)
  subst e
  refine ⟨_, _, _, _, _, _, _, rfl, Walks.list (A := A.in1) ao.hand _ a hlI (intItems xs), st, hfp, by simpa [intItems] using hlen ▸ hpos, CmpOf.ints_gt (numAt xs) (fun _ _ => intItems_at), fun v h' tk hP hk => ?_⟩
  obtain ⟨t, rfl⟩ := intItems_at hP
  refine ⟨keeps_of (old_kept hk), t, ?_⟩
  obtain ⟨j, hj, hje, hbest⟩ := argBest_of (f := numAt xs) ((intItems xs).size - 1)
  rw [hje]
  have hsz : (intItems xs).size = xs.size := by simp [intItems]
  have key : ∀ i, i < xs.size → l[i]? = some (numAt xs i) := fun i hi => by
    rw [← hn]; simp [numAt, hi]
  have hjl : j < xs.size := by omega
  have h1 : numAt xs j ∈ l := List.mem_of_getElem? (key j hjl)
  have h2 : m ≤ numAt xs j := by
    obtain ⟨i, hi, e⟩ := List.getElem_of_mem hm.1
    have := key i (by omega)
    rw [List.getElem?_eq_getElem hi, e] at this
    rw [Option.some.inj this]
    exact hbest i (by omega)
  congr 1
  exact Int.le_antisymm (hm.2 _ h1) h2

theorem clv_isi_list {l : List D} : Clv W (.builtin "isinstance") [.list l] (.bool true) → True := fun _ => trivial
/-- isinstance(v, list), isinstance(v, bool) -/
theorem ev_isi_list {x y : Str} {np yp pos : Pos} {e : Expr} {l : List D} {k1 : Bool} (hf : EvV W A env oa σ (.Name x np) (.builtin "isinstance")) (h : Ev W A env oa σ k1 e (.list l)) (hc : EvV W A env oa σ (.Name y yp) (.type "list"))
    (he : ∀ r, starEach (e :: r) env = (false, eval e env) :: starEach r env := by intro _; rfl) : Ev W A env oa σ k (.Call (.Name x np) [e, .Name y yp] [] pos) (.bool true) := fun ao s E S => by
  refine wpAny_Call_ofName (evV_then hf ao S fun s1 k1 S1 => callWith_mach (.builtin _) (by rw [he]; rfl) (evalArgs_all (by rw [he]; rfl) (wpAny_items_cons (ev_then h ao S1 fun v s2 k2 S2 r2 => wpAny_items_cons (evV_then hc ao S2 fun s3 k3 S3 => wpAny_items_nil ?_) rfl) (he _))))
  obtain ⟨a, vs, rfl, _, hl, _⟩ := r2.up (kups k3)
  exact call_isinstance_yes hl.typeIs F.isi_meta_list F.isi_self_list ⟨keeps_trans (keeps_trans k1 k2) k3, rfl⟩
theorem ev_isi_bool {x y : Str} {np yp pos : Pos} {e : Expr} {i : Int} {k1 : Bool} (hf : EvV W A env oa σ (.Name x np) (.builtin "isinstance")) (h : Ev W A env oa σ k1 e (.int i)) (hc : EvV W A env oa σ (.Name y yp) (.type "bool"))
    (he : ∀ r, starEach (e :: r) env = (false, eval e env) :: starEach r env := by intro _; rfl) : Ev W A env oa σ k (.Call (.Name x np) [e, .Name y yp] [] pos) (.bool false) := fun ao s E S => by
  refine wpAny_Call_ofName (evV_then hf ao S fun s1 k1 S1 => callWith_mach (.builtin _) (by rw [he]; rfl) (evalArgs_all (by rw [he]; rfl) (wpAny_items_cons (ev_then h ao S1 fun v s2 k2 S2 r2 => wpAny_items_cons (evV_then hc ao S2 fun s3 k3 S3 => wpAny_items_nil ?_) rfl) (he _))))
  obtain ⟨t, rfl⟩ := r2
  exact call_isinstance (isinstance_false_int (by decide +kernel) F.isi_meta_bool F.sub_int_bool) ⟨keeps_trans (keeps_trans (keeps_trans k1 k2) k3) (keeps_tok _ _), rfl⟩
end
end Jg
end PartJg4

noncomputable section PartJg5
open PySem PySem.W PySem.Calls PyProof.Rows
namespace Jg

def ownedIters : List String := ["enumerate", "zip", "dict_itemiterator", "dict_reverseitemiterator", "odict_iterator", "itertools.zip_longest", "itertools.pairwise"]
/-- an iterator over l, off the places mo -/
def Wk (W : Wd) (A : Around) (oa mo : List Addr) (I : Addr) (l : List D) (s s₂ : Shared) : Prop :=
  ∃ fp wr P St, Walks W.prog W.w A I fp wr l.length P St ∧ St 0 s₂.heap ∧ (∀ b ∈ fp, ∃ o, s₂.heap.get? b = some o ∧ (∀ es n, o.data ≠ .dict es n) ∧ ∀ v, o.data ≠ .cell v) ∧ (∀ b ∈ wr, s.heap.get? b = none) ∧
    (∀ b ∈ wr, ∀ o xs n, s₂.heap.get? b = some o → o.data ≠ .seq xs n) ∧ (∀ i h, St i h → ∀ b ∈ wr, ∃ o vs, h.get? b = some o ∧ o.data = .fields vs) ∧ (∀ b ∈ fp, b ∉ mo) ∧ (∀ i h, St i h → ∃ o n, h.get? I = some o ∧ o.cls = .type n ∧ ownedIters.contains n = false) ∧ (∀ i v d, P i v → l[i]? = some d → Rd (Kp oa true) s₂.heap d v)
def Src (W : Wd) (A : Around) (env : Env) (oa : List Addr) (σ : Sg) (mo : List Addr) (e : Expr) (l : List D) : Prop :=
  AOk A → ∀ s E (C : Value → Shared → Prop), Sv W env oa σ s.heap → (∀ I s₂, Keeps s s₂ → Sv W env oa σ s₂.heap → Wk W A oa mo I l s s₂ → C (.ref I) s₂) →
    wpAny W.M A (eval e env) (fun x s₁ => wpAny W.M A (pyIter x) C E s₁) E s

theorem fresh_of {s s' : Shared} (k : Keeps s s') {a : Addr} (e : s'.heap.get? a = none) : s.heap.get? a = none := by
  cases q : s.heap.get? a with
  | none => rfl
  | some o => have := kups k _ _ q; rw [e] at this; cases this
theorem lt_none {h : Heap} {a : Addr} (e : h.objs.size ≤ a) : h.get? a = none := by
  cases q : h.get? a with
  | none => rfl
  | some o => exact absurd (Heap.lt_size q) (Nat.not_lt.mpr e)

section
variable {W : Wd} {A : Around} {env : Env} {oa : List Addr} {σ : Sg} {k : Bool}

theorem src_any {e : Expr} {l : List D} {mo : List Addr} {k : Bool} (h : Ev W A env oa σ k e (.list l)) (hm : ∀ a, Kp oa k a → a ∉ mo) (hf : k = true ∨ ∀ d ∈ l, d.flat = true) : Src W A env oa σ mo e l := fun ao s E C S c => by
  refine ev_then h ao S fun v s1 k1 S1 r1 => ?_
  obtain ⟨a, vs, rfl, ha, hl, r⟩ := r1
  have hlt : a < s1.heap.objs.size := by obtain ⟨_, e, _⟩ := hl; exact Heap.lt_size e
  refine wpAny_pyIter_list hl (c _ _ (keeps_trans k1 (keeps_heap (Ups.push _ _))) (S1.up (Ups.push _ _)) ?_)
  have W0 := Walks.list (prog := W.prog) (w := W.w) (A := A) ao.hand s1.heap.objs.size a (Nat.ne_of_lt hlt) vs.toArray
  rw [show vs.toArray.size = l.length by rw [List.size_toArray, r.length]] at W0
  refine ⟨_, _, _, _, W0, ⟨⟨_, Heap.get?_push_size _ rfl, rfl, rfl⟩, hl.push _⟩, fun b hb => ?_, fun b hb => ?_, fun b hb o xs n ho q => ?_, fun i h hs b hb => ?_, fun b hb => ?_, fun i h hs => ?_, fun i v d hP hd => ?_⟩
  · rcases List.mem_cons.mp hb with rfl | hb
    · exact ⟨_, Heap.get?_push_size _ rfl, (fun _ _ q => nomatch q), fun _ q => nomatch q⟩
    · obtain rfl := List.mem_singleton.mp hb
      obtain ⟨o, ho, _, n, hd⟩ := hl.push { cls := .type "list_iterator", data := .fields #[.ref b, .int 0 0] }
      exact ⟨o, ho, (fun _ _ q => by rw [hd] at q; cases q), fun _ q => by rw [hd] at q; cases q⟩
  · obtain rfl := List.mem_singleton.mp hb
    exact fresh_of k1 (size_none _)
  · obtain rfl := List.mem_singleton.mp hb
    rw [show (s1.heap.push _).get? s1.heap.objs.size = some _ from Heap.get?_push_size _ rfl] at ho
    cases ho; cases q
  · obtain rfl := List.mem_singleton.mp hb
    obtain ⟨⟨o, ho, _, hd⟩, _⟩ := hs
    exact ⟨o, _, ho, hd⟩
  · rcases List.mem_cons.mp hb with rfl | hb
    · intro hm'
      exact hm _ ((S1.fresh (size_none _)) k) hm'
    · obtain rfl := List.mem_singleton.mp hb
      exact hm _ ha
  · obtain ⟨⟨o, ho, hc, _⟩, _⟩ := hs
    exact ⟨o, _, ho, hc, by decide⟩
  · obtain ⟨d', hd', rd⟩ := r.get' (i := i) (v := v) (by simpa using hP)
    rw [hd] at hd'; cases hd'
    rcases hf with rfl | hf
    · exact rd.up (Ups.push _ _)
    · exact rd.flat (hf d (List.mem_of_getElem? hd))
theorem src_list {e : Expr} {l : List D} (h : Ev W A env oa σ true e (.list l)) : Src W A env oa σ oa e l := src_any h (fun a x => x rfl) (.inl rfl)
theorem src_weak {e : Expr} {l : List Int} (h : Ev W A env oa σ k e (.list (l.map .int))) : Src W A env oa σ [] e (l.map .int) := src_any h (fun a x q => nomatch q) (.inr fun d hd => by
  obtain ⟨i, _, rfl⟩ := List.mem_map.mp hd
  rfl)
theorem src_off {e : Expr} {l : List D} {mo : List Addr} (h : Src W A env oa σ mo e l) : Src W A env oa σ [] e l := fun ao s E C S c =>
  h ao s E C S fun I s2 k2 S2 ⟨fp, wr, P, St, w1, w2, w3, w4, w5, w6, _, w7⟩ => c I s2 k2 S2 ⟨fp, wr, P, St, w1, w2, w3, w4, w5, w6, (fun _ _ q => nomatch q), w7⟩
theorem src_tup {e : Expr} {l : List D} {k : Bool} (h : Ev W A env oa σ true e (.tup l)) : Src W A env oa σ oa e l := fun ao s E C S c => by
  refine ev_then h ao S fun v s1 k1 S1 r1 => ?_
  obtain ⟨a, vs, rfl, ha, hl, r⟩ := r1
  have hlt : a < s1.heap.objs.size := by obtain ⟨_, e, _⟩ := hl; exact Heap.lt_size e
  obtain ⟨o, ho, hc, n, hd⟩ := hl
  have hT : s1.heap.IsTuple a vs.toArray := ⟨o, ho, hc, n, hd⟩
  refine wpAny_pyIter_tuple hT (c _ _ (keeps_trans k1 (keeps_heap (Ups.push _ _))) (S1.up (Ups.push _ _)) ?_)
  have W0 := Walks.tuple (prog := W.prog) (w := W.w) (A := A) ao.hand s1.heap.objs.size a (Nat.ne_of_lt hlt) vs.toArray
  rw [show vs.toArray.size = l.length by rw [List.size_toArray, r.length]] at W0
  refine ⟨_, _, _, _, W0, ⟨⟨_, Heap.get?_push_size _ rfl, rfl, rfl⟩, hT.push _⟩, fun b hb => ?_, fun b hb => ?_, fun b hb o xs n ho q => ?_, fun i h hs b hb => ?_, fun b hb => ?_, fun i h hs => ?_, fun i v d hP hd => ?_⟩
  · rcases List.mem_cons.mp hb with rfl | hb
    · exact ⟨_, Heap.get?_push_size _ rfl, (fun _ _ q => nomatch q), fun _ q => nomatch q⟩
    · obtain rfl := List.mem_singleton.mp hb
      exact ⟨o, Heap.get?_push_of_some _ ho, (fun _ _ q => by rw [hd] at q; cases q), fun _ q => by rw [hd] at q; cases q⟩
  · obtain rfl := List.mem_singleton.mp hb
    exact fresh_of k1 (size_none _)
  · obtain rfl := List.mem_singleton.mp hb
    rw [show (s1.heap.push _).get? s1.heap.objs.size = some _ from Heap.get?_push_size _ rfl] at ho
    cases ho; cases q
  · obtain rfl := List.mem_singleton.mp hb
    obtain ⟨⟨o, ho, _, hd⟩, _⟩ := hs
    exact ⟨o, _, ho, hd⟩
  · rcases List.mem_cons.mp hb with rfl | hb
    · exact (S1.fresh (size_none _)) true rfl
    · obtain rfl := List.mem_singleton.mp hb
      exact ha rfl
  · obtain ⟨⟨o, ho, hc, _⟩, _⟩ := hs
    exact ⟨o, _, ho, hc, by decide⟩
  · obtain ⟨d', hd', rd⟩ := r.get' (i := i) (v := v) (by simpa using hP)
    rw [hd] at hd'; cases hd'
    exact rd.up (Ups.push _ _)

/-- range(a, b) as ints -/
def rangeD (a : Int) (n : Nat) : List D := (List.range n).map fun (i : Nat) => .int (a + (i : Int))
theorem rangeD_get {a : Int} {n i : Nat} {d : D} (h : (rangeD a n)[i]? = some d) : i < n ∧ d = .int (a + (i : Int)) := by
  unfold rangeD at h
  have hi : i < n := by
    have := (List.getElem?_eq_some_iff.mp h).1
    simpa using this
  refine ⟨hi, ?_⟩
  simp [List.getElem?_range, hi] at h
  exact h.symm
theorem rangeD_length (a : Int) (n : Nat) : (rangeD a n).length = n := by simp [rangeD]

theorem src_range_core {s s1 : Shared} {a b : Int} {t u : Tok} {v : Tok} {r : Addr} {C : Value → Shared → Prop} {E : Value → Shared → Prop} (ao : AOk A) (S1 : Sv W env oa σ s1.heap) (k1 : Keeps s s1) (hr : IsRange s1.heap r a b 1 t u v)
    (ha : -(2 ^ 62) ≤ a) (ha' : a < 2 ^ 62) (hb : -(2 ^ 62) ≤ b) (hb' : b < 2 ^ 62) (c : ∀ I s₂, Keeps s s₂ → Sv W env oa σ s₂.heap → Wk W A oa oa I (rangeD a (b - a).toNat) s s₂ → C (.ref I) s₂) :
    wpAny W.M A (pyIter (.ref r)) C E s1 := by
  refine wpAny_pyIter_range hr (small_one ha ha' hb hb') (c _ _ (keeps_trans k1 (keeps_heap (Ups.push _ _))) (S1.up (Ups.push _ _)) ?_)
  rw [rangeSize_nat]
  have W0 := Walks.range (prog := W.prog) (w := W.w) (A := A) ao.hand s1.heap.objs.size a 1 (b - a).toNat
  rw [show (b - a).toNat = (rangeD a (b - a).toNat).length by rw [rangeD_length]] at W0
  refine ⟨_, _, _, _, W0, ?_, fun b hb => ?_, fun b hb => ?_, fun b hb o xs n ho q => ?_, fun i h hs b hb => ?_, fun b hb => ?_, fun i h hs => ?_, fun i v d hP hd => ?_⟩
  · show IsRangeIter _ _ _ _ _
    rw [show a + ((0 : Nat) : Int) * 1 = a by omega, rangeD_length, show (((b - a).toNat : Nat) : Int) - ((0 : Nat) : Int) = ((b - a).toNat : Int) by omega]
    exact Heap.get?_push_size _ rfl
  · obtain rfl := List.mem_singleton.mp hb
    exact ⟨_, Heap.get?_push_size _ rfl, (fun _ _ q => nomatch q), fun _ q => nomatch q⟩
  · obtain rfl := List.mem_singleton.mp hb
    exact fresh_of k1 (size_none _)
  · obtain rfl := List.mem_singleton.mp hb
    rw [show (s1.heap.push _).get? s1.heap.objs.size = some _ from Heap.get?_push_size _ rfl] at ho
    cases ho; cases q
  · obtain rfl := List.mem_singleton.mp hb
    exact ⟨_, _, hs, rfl⟩
  · obtain rfl := List.mem_singleton.mp hb
    exact (S1.fresh (size_none _)) true rfl
  · exact ⟨_, _, hs, rfl, by decide⟩
  · obtain ⟨hi, rfl⟩ := rangeD_get hd
    obtain ⟨t, rfl⟩ := hP
    exact ⟨t, by rw [Int.mul_one]⟩
theorem src_range1 {x : Str} {np pos : Pos} {e : Expr} {n : Int} {k1 : Bool} (hf : EvV W A env oa σ (.Name x np) (.type "range")) (h : Ev W A env oa σ k1 e (.int n)) (h1 : -(2 ^ 62) ≤ n) (h2 : n < 2 ^ 62)
    (he : ∀ r, starEach (e :: r) env = (false, eval e env) :: starEach r env := by intro _; rfl) : Src W A env oa σ oa (.Call (.Name x np) [e] [] pos) (rangeD 0 n.toNat) := fun ao s E C S c => by
  refine wpAny_Call_ofName (evV_then hf ao S fun s1 k1 S1 => callWith_mach (.type _) (by rw [he]; rfl) (evalArgs_all (by rw [he]; rfl) (wpAny_items_cons (ev_then h ao S1 fun v s2 k2 S2 r2 => wpAny_items_nil ?_) (he _))))
  obtain ⟨t, rfl⟩ := r2
  refine call_range_1 ?_
  have := src_range_core (W := W) (A := A) (C := C) (E := E) (s := s) (s1 := { s2 with heap := s2.heap.push { cls := .type "range", data := .fields #[.int 0 s2.toks, .int n t, .int 1 (s2.toks + 1)] }, toks := s2.toks + 1 + 1 }) (b := n) ao (S2.up (Ups.push _ _))
    (keeps_trans (keeps_trans k1 k2) (keeps_of (Ups.push _ _))) (Heap.get?_push_size _ rfl) (by omega) (by omega) h1 h2
  rw [Int.sub_zero] at this
  exact this c
theorem src_range2 {x : Str} {np pos : Pos} {e f : Expr} {m n : Int} {k1 k2 : Bool} (hf : EvV W A env oa σ (.Name x np) (.type "range")) (h : Ev W A env oa σ k1 e (.int m)) (h' : Ev W A env oa σ k2 f (.int n)) (h1 : -(2 ^ 62) ≤ m) (h2 : m < 2 ^ 62) (h3 : -(2 ^ 62) ≤ n) (h4 : n < 2 ^ 62)
    (he : ∀ r, starEach (e :: r) env = (false, eval e env) :: starEach r env := by intro _; rfl) (he' : ∀ r, starEach (f :: r) env = (false, eval f env) :: starEach r env := by intro _; rfl) :
    Src W A env oa σ oa (.Call (.Name x np) [e, f] [] pos) (rangeD m (n - m).toNat) := fun ao s E C S c => by
  refine wpAny_Call_ofName (evV_then hf ao S fun s1 k1 S1 => callWith_mach (.type _) (by rw [he, he']; rfl) (evalArgs_all (by rw [he, he']; rfl) (wpAny_items_cons (ev_then h ao S1 fun v s2 k2 S2 r2 => wpAny_items_cons (ev_then h' ao S2 fun w s3 k3 S3 r3 => wpAny_items_nil ?_) (he' _)) (he _))))
  obtain ⟨t, rfl⟩ := r2
  obtain ⟨u, rfl⟩ := r3
  refine call_range_2 ?_
  exact src_range_core (W := W) (A := A) (C := C) (E := E) (s := s) (s1 := { s3 with heap := s3.heap.push { cls := .type "range", data := .fields #[.int m t, .int n u, .int 1 s3.toks] }, toks := s3.toks + 1 }) ao (S3.up (Ups.push _ _))
    (keeps_trans (keeps_trans (keeps_trans k1 k2) k3) (keeps_of (Ups.push _ _))) (Heap.get?_push_size _ rfl) h1 h2 h3 h4 c
end
end Jg
end PartJg5

noncomputable section PartJg6
open PySem PySem.W PySem.Calls PyProof.Rows
namespace Jg

theorem newEnv_comp {M : Model} {A : Around} {E : Value → Shared → Prop} {s : Shared} {scope : Scope} {globals : Addr} {closure : List (Str × Addr)} {qual : Str} {outer : Env} {Q : Env → Shared → Prop}
    (hQ : Q { scope, locals := s.heap.objs.size, globals, cells := cellsFrom (s.heap.objs.size + 1) scope.names closure, qual, func := none, code := outer.code, frame := outer.frame, builtins := outer.builtins }
      { s with heap := pushCells (s.heap.push { cls := .type "dict", data := .dict #[] }) scope.names }) : wpAny M A (newFunctionEnv scope globals closure [] qual none .none (some outer)) Q E s := by
  simp only [newFunctionEnv, Option.isSome_some, if_true]
  refine wpAny_bind (wpAny_alloc ?_)
  refine wpAny_bind (wpAny_layCells _ (fun name kind cells => by cases hkc : kind == NameKind.cell <;> simp [hkc]) _ _ _ _ ?_)
  rw [show ({ s with heap := s.heap.push { cls := .type "dict", data := .dict #[] } } : Shared).heap.objs.size = s.heap.objs.size + 1 from Heap.size_push ..]
  refine wpAny_bind ?_
  rw [List.forIn_nil]
  exact wpAny_pure (wpAny_pure hQ)

abbrev emptyCell : Obj := { cls := .type "cell", data := .cell none }
/-- the comprehension's own name: a name of its frame, or a cell -/
inductive Own (env : Env) (scope : Scope) (cl : List (Str × Addr)) (x : Str) : (Addr → List (Str × Addr)) → Prop
  | loc : (∀ n, cellsFrom n scope.names cl = cl) → (∀ h, pushCells h scope.names = h) → (∀ C, (compEnvC scope cl C env).kindOf x = some .local) → Own env scope cl x (fun _ => cl)
  | cell : (∀ n, cellsFrom n scope.names cl = (x, n) :: cl) → (∀ h, pushCells h scope.names = h.push emptyCell) → (∀ C c, (compEnvC scope c C env).kindOf x = some .cell) → Own env scope cl x (fun C => (x, C + 1) :: cl)
/-- what it takes along -/
def Cap (env : Env) (scope : Scope) (cl : List (Str × Addr)) (x : Str) (σ σc : Sg) : Prop :=
  ∀ p ∈ σc, p.1 ≠ x ∧ σ.lookup p.1 = some p.2 ∧ (env.kindOf p.1 = some .cell ∨ env.kindOf p.1 = some .free) ∧ cl.lookup p.1 = env.cells.lookup p.1 ∧
    ((compEnvC scope cl 0 env).kindOf p.1 = some .cell ∨ (compEnvC scope cl 0 env).kindOf p.1 = some .free)

section
variable {W : Wd} {A : Around} {env : Env} {oa : List Addr} {σ σc : Sg} {k : Bool} {scope : Scope} {cl : List (Str × Addr)} {x : Str}

theorem comp_sv {s : Shared} {h2 : Heap} {X : List Addr} {C : Addr} {cl' : List (Str × Addr)} {v : Value} {d : D} (S : Sv W env oa σ s.heap) (U : Ups s.heap h2) (hcap : Cap env scope cl x σ σc) (hD : ∀ a ∈ X, s.heap.get? a = none) (hD2 : ∀ a ∈ X, ∃ o, h2.get? a = some o)
    (hkind : scope.kind = .function) (hx : Loc (compEnvC scope cl' C env) h2 x v) (hv : Rd (Kp (X ++ oa) true) h2 d v) (hcl' : ∀ y, y ≠ x → cl'.lookup y = cl.lookup y) :
    Sv W (compEnvC scope cl' C env) (X ++ oa) ((x, (true, d)) :: σc) h2 where
  kin := S.kin.keeps U
  top := S.top.keeps U
  vars := fun y k d' e => by
    rw [List.lookup_cons] at e
    by_cases hy : y = x
    · subst hy
      rw [show (y == y) = true from by simp] at e
      cases e
      exact ⟨v, hx, hv⟩
    · have hb : (y == x) = false := beq_eq_false_iff_ne.mpr hy
      rw [hb] at e
      obtain ⟨_, h1, h2', h3, h4⟩ := hcap (y, (k, d')) (mem_of_lookup e)
      obtain ⟨u, l, r⟩ := S.vars y k d' h1
      refine ⟨u, ?_, ?_⟩
      · rcases l with ⟨hl, _⟩ | ⟨_, c, hc, hv'⟩
        · rcases h2' with q | q <;> (rw [hl] at q; cases q)
        · refine .inr ⟨h4, c, ?_, hv'.keeps U⟩
          show cl'.lookup y = some c
          rw [hcl' y hy]
          exact h3.trans hc
      · refine (r.strong (ok' := Kp (X ++ oa) k) fun b o _ _ hb _ hk => ?_).up U
        intro hk' hm
        rcases List.mem_append.mp hm with hm | hm
        · rw [hD b hm] at hb; cases hb
        · exact hk hk' hm
  dom := fun a ha => by
    rcases List.mem_append.mp ha with ha | ha
    · exact hD2 a ha
    · obtain ⟨o, ho⟩ := S.dom a ha
      exact ⟨o, U _ _ ho⟩
  kind := hkind
  glob := S.glob
  blt := S.blt

/-- the tests of one turn -/
inductive Ifs (W : Wd) (A : Around) (env : Env) (oa : List Addr) (σ : Sg) : List Expr → Bool → Prop
  | nil : Ifs W A env oa σ [] true
  | one {c : Expr} {b : Bool} : Tst W A env oa σ c b → Ifs W A env oa σ [c] b

/-- the list that a comprehension leaves: its place is new, none of its items is that place or one of oa -/
structure Left (oa : List Addr) (s s' : Shared) (C : Addr) (l : List D) (v : Value) : Prop where
  ex : ∃ a vs, v = .ref a ∧ s.heap.get? a = none ∧ a ≠ C ∧ s'.heap.PlainList a vs.toArray ∧ Rds (Kp oa true) s'.heap l vs
  newC : s.heap.get? C = none
  ns : ∃ m, s'.heap.Ns C m

theorem seqs_same {ok : Addr → Prop} {a : Addr} {h h' : Heap} (hs : Heap.SameBut a h h') (hn : ∀ o xs n, h.get? a = some o → o.data = .seq xs n → ¬ ok a) : Seqs ok h h' := fun b o xs n hb e hd => by
  by_cases q : b = a
  · subst q; exact absurd hb (hn o xs n e hd)
  · exact (hs.2 b q).trans e
theorem seqs_trans {ok : Addr → Prop} {a b c : Heap} (x : Seqs ok a b) (y : Seqs ok b c) : Seqs ok a c := fun q o xs n hk e hd => y q o xs n hk (x q o xs n hk e hd) hd

theorem lt3 {b n D C : Nat} (h : b < n) (h1 : D = n) (h2 : C = D + 1) : b ≠ D ∧ b ≠ C ∧ b ≠ C + 1 := by omega
theorem ne1 {D C : Nat} (h : C = D + 1) : C + 1 ≠ D ∧ D ≠ C + 1 ∧ C ≠ C + 1 := by omega
theorem comp_core {elt iter : Expr} {px : Pos} {ifs : List Expr} {pos posx : Pos} {l : List D} {f : Nat → Option D} {cl' : Addr → List (Str × Addr)} {use : Option (Value → Sem Unit)} {Q : Value → Shared → Prop} {s : Shared} {E : Value → Shared → Prop}
    (ao : AOk A) (S : Sv W env oa σ s.heap) (hsrc : Src W A env oa σ [] iter l) (hl : l.length ≤ 10000000)
    (hs : ∀ x, foldedSetIterable iter env x = pure x) (hclos : closureFor scope env = pure cl) (hkind : scope.kind = .function) (hnames : ∀ x ∈ scope.names, x.2 = .local → scope.names.lookup x.1 = some .local)
    (hown : Own env scope cl x cl') (hcap : Cap env scope cl x σ σc)
    (htest : ∀ i C X d, l[i]? = some d → Ifs W A (compEnvC scope (cl' C) C env) (X ++ oa) ((x, (true, d)) :: σc) ifs (f i).isSome)
    (helt : ∀ i C X d e, l[i]? = some d → f i = some e → Ev W A (compEnvC scope (cl' C) C env) (X ++ oa) ((x, (true, d)) :: σc) true elt e)
    (fin : ∀ C s₃ v, Keeps s s₃ → Left oa s s₃ C ((List.range l.length).filterMap f) v → compPost W.M A E use Q v C (.ok .next) s₃) :
    wpAny W.M A (comprehension (.ListComp elt [⟨.Name x px, iter, ifs, 0⟩] scope pos) scope env posx (newList []) false (eval iter env) use) Q E s := by
  refine wpAny_comprehension_free rfl hs hclos hkind hnames (hsrc ao s E _ S fun I s₂ K₂ S₂ hw => ?_)
  obtain ⟨fp, wr, P, St, Wl, hst, hfp, hwr, hwq, hwe, _, _, hrd⟩ := hw
  refine wpAny_newObj_type ?_
  generalize hH2 : s₂.heap.push { cls := .type "list", dict := none, data := .seq ([] : List Value).toArray } = H2
  obtain ⟨D', hDn⟩ : ∃ D', D' = s₂.heap.objs.size := ⟨_, rfl⟩
  obtain ⟨C, hCn⟩ : ∃ C, C = H2.objs.size := ⟨_, rfl⟩
  have hC : C = D' + 1 := by rw [hCn, hDn, ← hH2, Heap.size_push]
  have U2 : Ups s₂.heap H2 := hH2 ▸ Ups.push _ _
  have hDl : H2.PlainList D' #[] := hH2 ▸ hDn ▸ ⟨0, Heap.get?_push_size _ rfl⟩
  have hC' : H2.Ns C (fun _ => none) → True := fun _ => trivial
  refine newEnv_comp ?_
  generalize hh : pushCells (H2.push { cls := .type "dict", data := .dict #[] }) scope.names = H3
  rw [← hDn]
  show codeAny W.M A (.compStart (.ListComp elt [⟨.Name x px, iter, ifs, 0⟩] scope pos) 0 (.ref I) (.ref D') (compEnvC scope (cellsFrom (H2.objs.size + 1) scope.names cl) H2.objs.size env)) (compPost W.M A E use Q (.ref D') H2.objs.size) { s₂ with heap := H3 }
  rw [← hCn]
  have hD0 : s₂.heap.get? D' = none := lt_none (Nat.le_of_eq hDn.symm)
  have hC0 : s₂.heap.get? C = none := lt_none (by omega)
  have hDC : D' ≠ C := by omega
  -- the frame of the comprehension, behind its making
  have base : Ups H2 H3 ∧ (∃ m, H3.Ns C m) ∧ ∀ cv, cellsFrom (C + 1) scope.names cl = cv → cv = cl' C ∧ ((∀ C', (compEnvC scope cl C' env).kindOf x = some .local) ∧ cl' C = cl ∨ (cl' C = (x, C + 1) :: cl ∧ (∀ C' c, (compEnvC scope c C' env).kindOf x = some .cell) ∧ H3.IsCell (C + 1) none)) := by
    cases hown with
    | loc h1 h2 h3 =>
      rw [h2] at hh
      subst hh
      refine ⟨Ups.push _ _, ⟨_, hCn.symm ▸ Heap.Ns.new H2 (.type "dict")⟩, fun cv e => ⟨e.symm.trans (h1 _), .inl ⟨h3, rfl⟩⟩⟩
    | cell h1 h2 h3 =>
      rw [h2] at hh
      subst hh
      refine ⟨(Ups.push _ _).trans (Ups.push _ _), ⟨_, (hCn.symm ▸ Heap.Ns.new H2 (.type "dict")).keeps (Ups.push _ _)⟩, fun cv e => ⟨e.symm.trans (h1 _), .inr ⟨rfl, h3, ?_⟩⟩⟩
      have := Heap.get?_push_size (H2.push { cls := .type "dict", data := .dict #[] }) (o := emptyCell) rfl
      rw [Heap.size_push, ← hCn] at this
      exact ⟨_, this, rfl⟩
  obtain ⟨U3, ⟨m0, hns0⟩, hcv⟩ := base
  obtain ⟨hcv1, hcase⟩ := hcv _ rfl
  rw [hcv1]
  have hfpD : ∀ b ∈ fp, b ≠ D' ∧ b ≠ C ∧ b ≠ C + 1 := fun b hb => by
    obtain ⟨o, ho, _⟩ := hfp b hb
    exact lt3 (Heap.lt_size ho) hDn hC
  have hcl'l : ∀ y, y ≠ x → (cl' C).lookup y = cl.lookup y := fun y hy => by
    rcases hcase with ⟨_, e⟩ | ⟨e, _⟩
    · rw [e]
    · rw [e, List.lookup_cons, show (y == x) = false from beq_eq_false_iff_ne.mpr hy]
  have hwD : ∀ b ∈ wr, s₂.heap.get? b ≠ none := fun b hb => by
    obtain ⟨o, ho, _⟩ := hfp b (Wl.sub _ hb)
    rw [ho]; exact nofun
  have hX : ∀ a ∈ D' :: wr, s.heap.get? a = none := fun a ha => by
    rcases List.mem_cons.mp ha with rfl | ha
    · exact fresh_of K₂ hD0
    · exact hwr a ha
  have hDw : D' ∉ wr := fun hb => (hfpD _ (Wl.sub _ hb)).1 rfl
  have hCw : C ∉ wr := fun hb => (hfpD _ (Wl.sub _ hb)).2.1 rfl
  have hXw : C + 1 ∉ wr := fun hb => (hfpD _ (Wl.sub _ hb)).2.2 rfl
  have hsw : ∀ b o, s.heap.get? b = some o → b ∉ wr := fun b o e hb => by rw [hwr b hb] at e; cases e
  have hsC : ∀ b o, s.heap.get? b = some o → b ≠ D' ∧ b ≠ C ∧ b ≠ C + 1 := fun b o e => lt3 (Heap.lt_size (kups K₂ _ _ e)) hDn hC
  -- the items, off the places that turn
  have hrd' : ∀ i v d, P i v → l[i]? = some d → Rd (Kp ((D' :: wr) ++ oa) true) s₂.heap d v := fun i v d hP hd => (hrd i v d hP hd).strong fun b o xs n hb hq hk _ hm => by
    rcases List.mem_append.mp hm with hm | hm
    · rcases List.mem_cons.mp hm with rfl | hm
      · rw [hD0] at hb; cases hb
      · exact hwq b hm o xs n hb hq
    · exact hk rfl hm
  have loop : ∀ s₄ : Shared, s₄ = { s₂ with heap := H3 } → codeAny W.M A (.compLoop (.ListComp elt [⟨.Name x px, iter, ifs, 0⟩] scope pos) 0 (.ref I) (.ref D') (compEnvC scope (cl' C) C env)) (compPost W.M A E use Q (.ref D') C) s₄ := by
    rintro s₄ rfl
    refine codeAny_compLoop_tests
      (fun kk s' => ∃ i h' tk ys, s' = { s₂ with heap := h', toks := tk } ∧ i ≤ l.length ∧ kk = l.length + 1 - i ∧ St i h' ∧ Ups s.heap h' ∧ Seqs (Kp ((D' :: wr) ++ oa) true) s₂.heap h' ∧ h'.PlainList D' (List.toArray ys) ∧ (∃ m, h'.Ns C m) ∧
        (((∀ C', (compEnvC scope cl C' env).kindOf x = some .local) ∧ cl' C = cl) ∨ (cl' C = (x, C + 1) :: cl ∧ (∀ C' c, (compEnvC scope c C' env).kindOf x = some .cell) ∧ ∃ v, h'.IsCell (C + 1) v)) ∧
        Rds (Kp ((D' :: wr) ++ oa) true) h' ((List.range i).filterMap f) ys ∧ ys.length ≤ i) ?_ (l.length + 1)
      ⟨0, H3, s₂.toks, [], rfl, Nat.zero_le _, rfl, Wl.frame _ _ _ hst (fun b _ o e => U3 _ _ (U2 _ _ e)), ((kups K₂).trans U2).trans U3, (U2.trans U3).seqs, hDl.at fun o e => U3 _ _ e, ⟨m0, hns0⟩, ?_, rfl, Nat.le_refl _⟩
    · rintro kk s' ⟨i, h', tk, ys, rfl, hi, rfl, hst', hU, hSq, hDl', ⟨m, hm⟩, hcl0, hR, hys⟩
      have hkw : ∀ {h₁ : Heap}, (∀ b o, b ∉ wr → h'.get? b = some o → h₁.get? b = some o) → Ups s.heap h₁ ∧ Seqs (Kp ((D' :: wr) ++ oa) true) h' h₁ := fun hk => ⟨fun b o e => hk b o (hsw b o e) (hU b o e), fun b o xs n hb e _ => hk b o (fun hm => hb rfl (List.mem_append_left _ (List.mem_cons_of_mem _ hm))) e⟩
      by_cases hlt : i < l.length
      · refine Wl.item i _ _ _ hlt hst' fun v h₁ tk₁ hPv hst₁ hk₁ => ?_
        have hd : l[i]? = some l[i] := by simp [hlt]
        obtain ⟨hU1, hS1⟩ := hkw hk₁
        have hcl1 : ((∀ C', (compEnvC scope cl C' env).kindOf x = some .local) ∧ cl' C = cl) ∨ (cl' C = (x, C + 1) :: cl ∧ (∀ C' c, (compEnvC scope c C' env).kindOf x = some .cell) ∧ ∃ v, h₁.IsCell (C + 1) v) := by
          rcases hcl0 with q | ⟨q1, q2, v0, o0, q3, q4⟩
          · exact .inl q
          · exact .inr ⟨q1, q2, v0, o0, hk₁ _ _ hXw q3, q4⟩
        have hD1 : h₁.PlainList D' (List.toArray ys) := hDl'.at fun o e => hk₁ _ o hDw e
        have hn1 : h₁.Ns C m := hm.at' fun o e => hk₁ _ o hCw e
        have step : ∀ h₂ tk₂, Ups s.heap h₂ → Seqs (Kp ((D' :: wr) ++ oa) true) h₁ h₂ → h₂.PlainList D' (List.toArray ys) → (∃ m, h₂.Ns C m) → St (i + 1) h₂ → Loc (compEnvC scope (cl' C) C env) h₂ x v →
            (((∀ C', (compEnvC scope cl C' env).kindOf x = some .local) ∧ cl' C = cl) ∨ (cl' C = (x, C + 1) :: cl ∧ (∀ C' c, (compEnvC scope c C' env).kindOf x = some .cell) ∧ ∃ v, h₂.IsCell (C + 1) v)) →
            ∀ E', wpAny W.M A (forIn ifs true fun c r => if r = true then do let ok ← isTrue c (compEnvC scope (cl' C) C env) (eval c (compEnvC scope (cl' C) C env)); pure (ForInStep.yield ok) else pure (ForInStep.yield r)) (fun ok s₃ =>
              if ok = true then wpAny W.M A (eval elt (compEnvC scope (cl' C) C env)) (fun yy s₄ =>
                wpAny W.M A (call (.builtin "list.append") [.ref D', yy]) (fun _ s₅ => ∃ m, m < l.length + 1 - i ∧ ∃ i h' tk ys, s₅ = { s₂ with heap := h', toks := tk } ∧ i ≤ l.length ∧ m = l.length + 1 - i ∧ St i h' ∧ Ups s.heap h' ∧ Seqs (Kp ((D' :: wr) ++ oa) true) s₂.heap h' ∧ h'.PlainList D' (List.toArray ys) ∧ (∃ m, h'.Ns C m) ∧
                  (((∀ C', (compEnvC scope cl C' env).kindOf x = some .local) ∧ cl' C = cl) ∨ (cl' C = (x, C + 1) :: cl ∧ (∀ C' c, (compEnvC scope c C' env).kindOf x = some .cell) ∧ ∃ v, h'.IsCell (C + 1) v)) ∧
                  Rds (Kp ((D' :: wr) ++ oa) true) h' ((List.range i).filterMap f) ys ∧ ys.length ≤ i) E' s₄) E' s₃
              else ∃ m, m < l.length + 1 - i ∧ ∃ i h' tk ys, s₃ = { s₂ with heap := h', toks := tk } ∧ i ≤ l.length ∧ m = l.length + 1 - i ∧ St i h' ∧ Ups s.heap h' ∧ Seqs (Kp ((D' :: wr) ++ oa) true) s₂.heap h' ∧ h'.PlainList D' (List.toArray ys) ∧ (∃ m, h'.Ns C m) ∧
                  (((∀ C', (compEnvC scope cl C' env).kindOf x = some .local) ∧ cl' C = cl) ∨ (cl' C = (x, C + 1) :: cl ∧ (∀ C' c, (compEnvC scope c C' env).kindOf x = some .cell) ∧ ∃ v, h'.IsCell (C + 1) v)) ∧
                  Rds (Kp ((D' :: wr) ++ oa) true) h' ((List.range i).filterMap f) ys ∧ ys.length ≤ i) E' { s₂ with heap := h₂, toks := tk₂ } := by
          intro h₂ tk₂ hU2 hS2 hD2 hn2 hst2 hL2 hcl2 E'
          have hv2 : Rd (Kp ((D' :: wr) ++ oa) true) h₂ l[i] v := (hrd' i v _ hPv hd).mono (fun _ q => q) (seqs_trans (seqs_trans hSq hS1) hS2)
          have S2' : Sv W (compEnvC scope (cl' C) C env) ((D' :: wr) ++ oa) ((x, (true, l[i])) :: σc) h₂ := comp_sv S hU2 hcap hX (fun a ha => by
            rcases List.mem_cons.mp ha with rfl | ha
            · obtain ⟨n, e⟩ := hD2
              exact ⟨_, e⟩
            · obtain ⟨o, _, h, _⟩ := hwe _ _ hst2 _ ha
              exact ⟨o, h⟩) hkind hL2 hv2 hcl'l
          have tests : ∀ (Q' : Bool → Shared → Prop), (∀ h₃ tk₃, Ups h₂ h₃ → Q' (f i).isSome { s₂ with heap := h₃, toks := tk₃ }) → wpAny W.M A (forIn ifs true fun c r => if r = true then do let ok ← isTrue c (compEnvC scope (cl' C) C env) (eval c (compEnvC scope (cl' C) C env)); pure (ForInStep.yield ok) else pure (ForInStep.yield r)) Q' E' { s₂ with heap := h₂, toks := tk₂ } := fun Q' hq => by
            have ht := htest i C (D' :: wr) _ hd
            generalize (f i).isSome = bb at ht hq
            cases ht with
            | nil => exact wpAny_tests_nil (hq h₂ tk₂ (Ups.refl _))
            | one h1 =>
              refine wpAny_tests_one (tst_then h1 ao S2' fun s3 k3 _ => ?_)
              obtain ⟨h₃, tk₃, rfl, u3⟩ := k3
              exact hq h₃ tk₃ u3
          refine tests _ fun h₃ tk₃ u3 => ?_
          have hrange : (List.range (i + 1)).filterMap f = (List.range i).filterMap f ++ (f i).toList := by
            rw [List.range_succ, List.filterMap_append]
            cases hfi : f i <;> simp [hfi]
          have hRs : Rds (Kp ((D' :: wr) ++ oa) true) h₃ ((List.range i).filterMap f) ys := (hR.mono (fun _ q => q) (seqs_trans hS1 hS2)).up u3
          have hcl3 : ∀ h₄, Ups h₂ h₄ → (((∀ C', (compEnvC scope cl C' env).kindOf x = some .local) ∧ cl' C = cl) ∨ (cl' C = (x, C + 1) :: cl ∧ (∀ C' c, (compEnvC scope c C' env).kindOf x = some .cell) ∧ ∃ v, h₄.IsCell (C + 1) v)) := fun h₄ u => by
            rcases hcl2 with q | ⟨q1, q2, v0, q3⟩
            · exact .inl q
            · exact .inr ⟨q1, q2, v0, q3.keeps u⟩
          cases hfi : f i with
          | none =>
            simp only [Option.isSome_none, Bool.false_eq_true, if_false]
            refine ⟨l.length + 1 - (i + 1), by omega, i + 1, h₃, tk₃, ys, rfl, hlt, rfl, Wl.frame _ _ _ hst2 (fun b _ o e => u3 b o e), hU2.trans u3, seqs_trans (seqs_trans (seqs_trans hSq hS1) hS2) u3.seqs, hD2.at fun o e => u3 _ _ e, ?_, hcl3 _ u3, ?_, by omega⟩
            · obtain ⟨m2, e2⟩ := hn2; exact ⟨m2, e2.keeps u3⟩
            · rw [hrange, hfi]; simpa using hRs
          | some ee =>
            simp only [Option.isSome_some, if_true]
            refine ev_then (s := { s₂ with heap := h₃, toks := tk₃ }) (helt i C (D' :: wr) _ ee hd hfi) ao (S2'.up u3) fun y s4 k4 S4 r4 => ?_
            obtain ⟨h₄, tk₄, rfl, u4⟩ := k4
            have u4' : Ups h₃ h₄ := u4
            have hD4 : h₄.PlainList D' (List.toArray ys) := (hD2.at fun o e => u3 _ _ e).at fun o e => u4' _ _ e
            refine wpAny_list_append_plain (s := { s₂ with heap := h₄, toks := tk₄ }) hD4 (fun h₅ hl₅ hs₅ => ?_) (by rw [List.size_toArray, sizeLine_eq]; omega)
            have hs5 : Heap.SameBut D' h₄ h₅ := hs₅
            have S5 : Seqs (Kp ((D' :: wr) ++ oa) true) h₄ h₅ := seqs_same hs5 fun o xs n _ _ q => q rfl (List.mem_append_left _ (List.mem_cons_self ..))
            have hne : ∀ b o, s.heap.get? b = some o → b ≠ D' := fun b o e => (hsC b o e).1
            refine ⟨l.length + 1 - (i + 1), by omega, i + 1, h₅, tk₄, ys ++ [y], rfl, hlt, rfl, Wl.frame _ _ _ hst2 (fun b hb o e => (hs5.2 b (hfpD b hb).1).trans (u4' _ _ (u3 b o e))), fun b o e => (hs5.2 b (hne b o e)).trans (u4' _ _ (u3 _ _ (hU2 _ _ e))), ?_, ?_, ?_, ?_, ?_, ?_⟩
            · exact seqs_trans (seqs_trans (seqs_trans (seqs_trans (seqs_trans hSq hS1) hS2) u3.seqs) u4'.seqs) S5
            · have : (List.toArray ys).push y = List.toArray (ys ++ [y]) := by simp
              rw [← this]; exact hl₅
            · obtain ⟨m2, e2⟩ := hn2
              exact ⟨m2, ((e2.keeps u3).keeps u4').sameBut hs5 (Ne.symm hDC)⟩
            · rcases hcl3 _ (u3.trans u4') with q | ⟨q1, q2, v0, q3⟩
              · exact .inl q
              · exact .inr ⟨q1, q2, v0, q3.sameBut hs5 (ne1 hC).1⟩
            · rw [hrange, hfi]
              exact ((hRs.up u4').append (Rds.one r4)).mono (fun _ q => q) S5
            · simp; omega
        rcases hcl1 with ⟨q1, q2⟩ | ⟨q1, q2, v0, q3⟩
        · have hkx : (compEnvC scope (cl' C) C env).kindOf x = some .local := by rw [q2]; exact q1 C
          refine wpAny_assign_Name (wpAny_storeName_local (env := compEnvC scope (cl' C) C env) hkx hn1 (fun h₂ hn₂ hs₂ => ?_) (by show (scope.kind == .class || (scope.kind == .module && _)) = false; rw [hkind]; rfl))
          have hs2 : Heap.SameBut C h₁ h₂ := hs₂
          refine step h₂ (tk₁ + 1) (fun b o e => (hs2.2 b (hsC b o e).2.1).trans (hU1 b o e)) (seqs_same hs2 fun o xs n e q => ?_) (hD1.extBut hs2.extBut hDC) ⟨_, hn₂⟩ (Wl.frame _ _ _ hst₁ fun b hb o e => hs2.extBut b o (hfpD b hb).2.1 e) (.inl ⟨hkx, _, hn₂, by simp⟩) (.inl ⟨q1, q2⟩) _
          obtain ⟨o', es, ep, ho', hd', _⟩ := hn1
          rw [e] at ho'; cases ho'; rw [q] at hd'; cases hd'
        · have hkx : (compEnvC scope (cl' C) C env).kindOf x = some .cell := q2 C _
          have hlk : (compEnvC scope (cl' C) C env).cells.lookup x = some (C + 1) := by show (cl' C).lookup x = _; rw [q1]; simp
          refine wpAny_assign_Name (wpAny_storeName_cell (env := compEnvC scope (cl' C) C env) hkind hkx hlk q3 (fun h₂ hc₂ hs₂ => ?_))
          have hs2 : Heap.SameBut (C + 1) h₁ h₂ := hs₂
          refine step h₂ tk₁ (fun b o e => (hs2.2 b (hsC b o e).2.2).trans (hU1 b o e)) (seqs_same hs2 fun o xs n e q => ?_) (hD1.extBut hs2.extBut (ne1 hC).2.1) ⟨m, hn1.sameBut hs2 (ne1 hC).2.2⟩ (Wl.frame _ _ _ hst₁ fun b hb o e => hs2.extBut b o (hfpD b hb).2.2 e) (.inr ⟨.inl hkx, _, hlk, hc₂⟩) (.inr ⟨q1, q2, _, hc₂⟩) _
          obtain ⟨o', ho', hd'⟩ := q3
          rw [e] at ho'; cases ho'; rw [q] at hd'; cases hd'
      · have hin : i = l.length := by omega
        subst hin
        refine Wl.done _ _ _ hst' fun h₁ tk₁ hk₁ => ?_
        obtain ⟨hU1, hS1⟩ := hkw hk₁
        refine fin C _ _ ⟨h₁, tk₁, ?_, hU1⟩ ⟨⟨D', ys, rfl, fresh_of K₂ hD0, hDC, hDl'.at fun o e => hk₁ _ o hDw e, ?_⟩, fresh_of K₂ hC0, ⟨m, hm.at' fun o e => hk₁ _ o hCw e⟩⟩
        · obtain ⟨h5, t5, e5, _⟩ := K₂
          rw [e5]
        · exact (hR.mono (fun b hb hk hm => hb hk (List.mem_append_right _ hm)) hS1)
    · rcases hcase with q | ⟨q1, q2, q3⟩
      · exact .inl q
      · exact .inr ⟨q1, q2, _, q3⟩
  exact codeAny_compStart_list (loop _ rfl) (Wl.self 0 _ _ _ (Wl.frame _ _ _ hst (fun b _ o e => U3 _ _ (U2 _ _ e))) (loop _ rfl))
end
end Jg
end PartJg6

noncomputable section PartJg7
open PySem PySem.W PySem.Calls PyProof.Rows
namespace Jg

section
variable {W : Wd} {A : Around} {env : Env} {oa : List Addr} {σ σc : Sg} {k : Bool} {scope : Scope} {cl : List (Str × Addr)} {x : Str}

theorem left_new {s s₃ : Shared} {C : Addr} {l : List D} {v : Value} {h' : Heap} (K : Keeps s s₃) (L : Left oa s s₃ C l v) (hs : Heap.SameBut C s₃.heap h') : Keeps s { s₃ with heap := h' } ∧ NewL oa s { s₃ with heap := h' } l v := by
  obtain ⟨⟨a, vs, rfl, h1, h2, h3, h4⟩, hC, m, hm⟩ := L
  have hsq : ∀ ok, Seqs ok s₃.heap h' := fun ok => seqs_same hs fun o xs n e q => by
    obtain ⟨o', es, ep, ho', hd', _⟩ := hm
    rw [e] at ho'; cases ho'; rw [q] at hd'; cases hd'
  refine ⟨?_, a, vs, rfl, h1, h3.extBut hs.extBut h2, h4.mono (fun _ q => q) (hsq _)⟩
  obtain ⟨h3', t3, rfl, u3⟩ := K
  refine ⟨h', t3, rfl, fun b o e => (hs.2 b (fun q => ?_)).trans (u3 b o e)⟩
  subst q; rw [hC] at e; cases e

/-- a comprehension as a value -/
theorem evN_comp {elt iter : Expr} {px : Pos} {ifs : List Expr} {pos : Pos} {l r : List D} {f : Nat → Option D} {cl' : Addr → List (Str × Addr)}
    (hsrc : Src W A env oa σ [] iter l) (hl : l.length ≤ 10000000) (hr : (List.range l.length).filterMap f = r)
    (hs : ∀ x, foldedSetIterable iter env x = pure x) (hclos : closureFor scope env = pure cl) (hkind : scope.kind = .function) (hnames : ∀ x ∈ scope.names, x.2 = .local → scope.names.lookup x.1 = some .local)
    (hown : Own env scope cl x cl') (hcap : Cap env scope cl x σ σc)
    (htest : ∀ i C X d, l[i]? = some d → Ifs W A (compEnvC scope (cl' C) C env) (X ++ oa) ((x, (true, d)) :: σc) ifs (f i).isSome)
    (helt : ∀ i C X d e, l[i]? = some d → f i = some e → Ev W A (compEnvC scope (cl' C) C env) (X ++ oa) ((x, (true, d)) :: σc) true elt e) :
    EvN W A env oa σ (.ListComp elt [⟨.Name x px, iter, ifs, 0⟩] scope pos) r := fun ao s E S => by
  rw [eval_ListComp]
  refine comp_core (use := none) ao S hsrc hl hs hclos hkind hnames hown hcap htest helt fun C s₃ v K L => ?_
  rw [hr] at L
  obtain ⟨m, hm⟩ := L.ns
  exact ⟨m, hm, fun h' hs' => left_new K L hs'⟩

theorem range_get (r : List D) : ∀ n, r.length = n → (List.range n).filterMap (fun i => r[i]?) = r := fun n hn => by
  subst hn
  have : ∀ m, m ≤ r.length → (List.range m).filterMap (fun i => r[i]?) = r.take m := by
    intro m
    induction m with
    | zero => intro _; simp
    | succ m ih =>
      intro hm
      rw [List.range_succ, List.filterMap_append, ih (by omega)]
      have e : r[m]? = some (r[m]'(by omega)) := by simp
      simp only [List.filterMap_cons, List.filterMap_nil, e]
      rw [List.take_add_one, e]; rfl
  rw [this _ (Nat.le_refl _), List.take_length]
end

/-- the call's surroundings -/
structure Cx where
  A₀ : Around
  base : Heap
  outer : List Env
  g : Heap
  env : Env
abbrev Cx.A (c : Cx) : Around := c.A₀.deeper c.env
abbrev Ow := Option (Str × Addr)
def oas (ow : Ow) : List Addr := (ow.map (·.2)).toList

structure COk (W : Wd) (c : Cx) : Prop where
  bw : Below c.A₀ c.base c.outer c.g
  ao : AOk c.A
  fr : c.env.frame = some c.env.locals
  kind : c.env.scope.kind = .function
  kin : W.K.In c.base
  top : Top W.p W.loose W.mean W.mg W.mb c.base
  outs : ∀ env ∈ c.outer, ∃ L m, env.frame = some L ∧ c.g.Ns L m

/-- all stays, but the slots of the frames -/
def Rk (l : List Env) (h h' : Heap) : Prop := ∀ b o, h.get? b = some o → ∃ sl, h'.get? b = some { o with slots := sl } ∧ ((∀ env ∈ l, env.frame ≠ some b) → sl = o.slots)
theorem Rk.refl (l : List Env) (h : Heap) : Rk l h h := fun b o e => ⟨o.slots, e, fun _ => rfl⟩
theorem Rk.trans {l : List Env} {a b c : Heap} (x : Rk l a b) (y : Rk l b c) : Rk l a c := fun p o e => by
  obtain ⟨s1, e1, f1⟩ := x p o e
  obtain ⟨s2, e2, f2⟩ := y p _ e1
  exact ⟨s2, e2, fun n => (f2 n).trans (f1 n)⟩
theorem Ups.rk {l : List Env} {h h' : Heap} (u : Ups h h') : Rk l h h' := fun b o e => ⟨o.slots, u b o e, fun _ => rfl⟩
theorem Rk.fresh {l : List Env} {h h' : Heap} (x : Rk l h h') {a : Addr} (e : h'.get? a = none) : h.get? a = none := by
  cases q : h.get? a with
  | none => rfl
  | some o => obtain ⟨sl, z, _⟩ := x a o q; rw [e] at z; cases z
theorem Rk.but {l : List Env} {g h h' : Heap} {p : Addr} (x : Rk l g h) (hs : Heap.SameBut p h h') (hg : g.get? p = none) : Rk l g h' := fun b o e => by
  obtain ⟨sl, z, f⟩ := x b o e
  exact ⟨sl, (hs.2 b (fun q => by subst q; rw [hg] at e; cases e)).trans z, f⟩
theorem Rk.exact {l : List Env} {h h' : Heap} (x : Rk l h h') {b : Addr} {o : Obj} (e : h.get? b = some o) (n : ∀ env ∈ l, env.frame ≠ some b) : h'.get? b = some o := by
  obtain ⟨sl, z, f⟩ := x b o e
  rw [f n] at z; exact z
abbrev Kg (c : Cx) (h : Heap) : Prop := Rk c.outer c.g h
theorem kg_base {W : Wd} {c : Cx} {h : Heap} (ok : COk W c) (k : Kg c h) : Ups c.base h := fun b o e => k.exact (ok.bw.stays b o e) fun env he hf => by
  have := (ok.bw.frames.mem (List.mem_filterMap.mpr ⟨env, he, hf⟩)).1
  rw [this] at e; cases e
theorem kinH {W : Wd} {c : Cx} {h : Heap} (ok : COk W c) (k : Kg c h) : W.K.In h := ok.kin.keeps (kg_base ok k)
theorem topH {W : Wd} {c : Cx} {h : Heap} (ok : COk W c) (k : Kg c h) : Top W.p W.loose W.mean W.mg W.mb h := ok.top.keeps (kg_base ok k)

/-- the state of a frame: what its names read -/
structure St (W : Wd) (c : Cx) (ow : Ow) (σ : Sg) (h : Heap) : Prop where
  sv : Sv W c.env (oas ow) σ h
  keep : Kg c h
  frame : ∃ m, h.Ns c.env.locals m
  newL : c.g.get? c.env.locals = none
  cells : ∀ x a, c.env.cells.lookup x = some a → (∃ v, h.IsCell a v) ∧ c.g.get? a = none
  apart : c.env.cells.Pairwise fun x y => x.2 ≠ y.2
  own : ∀ y a, ow = some (y, a) → c.g.get? a = none ∧ Loc c.env h y (.ref a) ∧ (∃ xs, h.IsList a xs) ∧ ∀ z d, σ.lookup z = some (false, d) → z = y
  strict : ow = none → ∀ z d, σ.lookup z ≠ some (false, d)

theorem St.up {W : Wd} {c : Cx} {ow : Ow} {σ : Sg} {h h' : Heap} (S : St W c ow σ h) (u : Ups h h') : St W c ow σ h' where
  sv := S.sv.up u
  keep := S.keep.trans u.rk
  frame := let ⟨m, e⟩ := S.frame; ⟨m, e.keeps u⟩
  newL := S.newL
  cells := fun x a e => let ⟨⟨v, q⟩, r⟩ := S.cells x a e; ⟨⟨v, q.keeps u⟩, r⟩
  apart := S.apart
  own := fun y a e => let ⟨h1, h2, ⟨xs, o, h3, h5⟩, h4⟩ := S.own y a e; ⟨h1, h2.up u, ⟨xs, o, u _ _ h3, h5⟩, h4⟩
  strict := S.strict

/-- all stays but the frame, its cells, the places mo -/
def Stb (c : Cx) (mo : List Addr) (h h' : Heap) : Prop := ∀ b o, h.get? b = some o → b ≠ c.env.locals → (∀ x a, c.env.cells.lookup x = some a → b ≠ a) → b ∉ mo → h'.get? b = some o
theorem Ups.stb {c : Cx} {mo : List Addr} {h h' : Heap} (u : Ups h h') : Stb c mo h h' := fun b o e _ _ _ => u b o e
theorem Stb.trans {c : Cx} {mo : List Addr} {h h' h'' : Heap} (x : Stb c mo h h') (y : Stb c mo h' h'') : Stb c mo h h'' := fun b o e h1 h2 h3 => y b o (x b o e h1 h2 h3) h1 h2 h3
theorem Stb.more {c : Cx} {mo mo' : List Addr} {h h' : Heap} (x : Stb c mo h h') (k : ∀ a ∈ mo, a ∈ mo') : Stb c mo' h h' := fun b o e h1 h2 h3 => x b o e h1 h2 fun q => h3 (k _ q)
def Adv (s s' : Shared) : Prop := ∃ h tk, s' = { s with heap := h, toks := tk }
theorem Adv.refl (s : Shared) : Adv s s := ⟨s.heap, s.toks, rfl⟩
theorem Adv.trans {a b c : Shared} (x : Adv a b) (y : Adv b c) : Adv a c := by
  obtain ⟨h1, t1, rfl⟩ := x; obtain ⟨h2, t2, rfl⟩ := y; exact ⟨h2, t2, rfl⟩
theorem adv_of {s s' : Shared} (k : Keeps s s') : Adv s s' := by obtain ⟨h, t, e, _⟩ := k; exact ⟨h, t, e⟩

inductive Fl where
  | next | brk | cont | ret (k : Bool) (d : D)
def FlR (oa : List Addr) (h : Heap) : Fl → Flow → Prop
  | .next, .next => True
  | .brk, .brk => True
  | .cont, .cont => True
  | .ret k d, .ret v => Rd (Kp oa k) h d v
  | _, _ => False

/-- an exception on its way out of the frames -/
def Raz (base : Heap) (l : List Env) (cls : Value) (h : Heap) (e : Addr) (h' : Heap) : Prop :=
  (∃ B a0, base.StaysIn B ∧ (∀ b o, h.get? b = some o → (∀ env ∈ l, env.frame ≠ some b) → B.get? b = some o) ∧ Heap.FlyingW B l e cls a0 h') ∧ h.UpToSlots h'
/-- an exception of one's own was made and raised in this frame, or comes from below -/
def Boom (W : Wd) (c : Cx) (cls : Value) (s s' : Shared) (e : Addr) : Prop := Adv s s' ∧ ∃ h₁ ow σ, St W c ow σ h₁ ∧ ((∃ vs, Heap.MadeExcOf h₁ s'.heap e cls vs) ∨ Raz c.base (c.env :: c.outer) cls h₁ e s'.heap)

/-- the places that are to stay: none of them is the frame's, a cell or the list that is changed -/
def Fx (fx : Addr → Prop) (ow : Ow) (h : Heap) : Prop := ∀ b, fx b → ∃ o, h.get? b = some o ∧ (∀ es n, o.data ≠ .dict es n) ∧ ∀ v, o.data ≠ .cell v
def Kx (fx : Addr → Prop) (ow : Ow) (h h' : Heap) : Prop := Fx fx ow h' ∧ ∀ b o, fx b → h.get? b = some o → h'.get? b = some o

abbrev Post := Fl → Ow → Sg → Prop
def Good (W : Wd) (c : Cx) (fx : Addr → Prop) (Q : Post) (s : Shared) (f : Flow) (s' : Shared) : Prop :=
  ∃ fl ow' σ', Q fl ow' σ' ∧ FlR (oas ow') s'.heap fl f ∧ St W c ow' σ' s'.heap ∧ Adv s s' ∧ Kx fx ow' s.heap s'.heap
def Ex (W : Wd) (c : Cx) (cls : Value) (fx : Addr → Prop) (ow : Ow) (σ : Sg) (ss : List Stmt) (Q : Post) (T : Prop) : Prop :=
  ∀ s E, St W c ow σ s.heap → Fx fx ow s.heap → PassesOwn W.M c.A c.env E → (T → ∀ s' e, Boom W c cls s s' e → E (.ref e) s') → wpAny W.M c.A (execs ss c.env) (Good W c fx Q s) E s

section
variable {W : Wd} {c : Cx} {cls : Value} {fx : Addr → Prop} {ow : Ow} {σ : Sg} {Q : Post} {T : Prop}

theorem kx_refl {h : Heap} (F : Fx fx ow h) : Kx fx ow h h := ⟨F, fun _ _ _ e => e⟩
theorem kx_stbA {mo : List Addr} {h h' : Heap} (S : St W c ow σ h) (F : Fx fx ow h) (b : Stb c mo h h') (hm : ∀ a ∈ mo, ¬ fx a) : Kx fx ow h h' := by
  have k : ∀ b o, fx b → h.get? b = some o → h'.get? b = some o := fun p o f e => by
    obtain ⟨o', e', h2, h3⟩ := F p f
    refine b p o e (fun q => ?_) (fun x a q r => ?_) fun m => hm p m f
    · subst q
      obtain ⟨m, o2, es, n, e2, hd, _⟩ := S.frame
      rw [e'] at e2; cases e2
      exact h2 _ _ hd
    · subst r
      obtain ⟨⟨v, o2, e2, hd⟩, _⟩ := S.cells x p q
      rw [e'] at e2; cases e2
      exact h3 _ hd
  exact ⟨fun p f => by obtain ⟨o', e', h23⟩ := F p f; exact ⟨o', k p o' f e', h23⟩, k⟩
theorem kx_stb {h h' : Heap} (S : St W c ow σ h) (F : Fx fx ow h) (b : Stb c [] h h') : Kx fx ow h h' := kx_stbA S F b fun _ q => nomatch q
theorem kx_trans {ow0 : Ow} {a b d : Heap} (x : Kx fx ow0 a b) (y : Kx fx ow b d) : Kx fx ow a d := ⟨y.1, fun p o f e => y.2 p o f (x.2 p o f e)⟩
theorem Good.pre {ow0 : Ow} {s s1 : Shared} {f : Flow} {s' : Shared} (a : Adv s s1) (b : Kx fx ow0 s.heap s1.heap) (g : Good W c fx Q s1 f s') : Good W c fx Q s f s' :=
  let ⟨fl, ow', σ', q, r, st, ad, sb⟩ := g; ⟨fl, ow', σ', q, r, st, a.trans ad, kx_trans b sb⟩
theorem Boom.pre {s s1 s' : Shared} {e : Addr} (a : Adv s s1) (b : Boom W c cls s1 s' e) : Boom W c cls s s' e := ⟨a.trans b.1, b.2⟩
/-- go on from a later state -/
theorem ex_go {ss : List Stmt} {s s1 : Shared} {E : Value → Shared → Prop} (h : Ex W c cls fx ow σ ss Q T) (S : St W c ow σ s1.heap) (a : Adv s s1) (b : Kx fx ow s.heap s1.heap) (hp : PassesOwn W.M c.A c.env E)
    (hb : T → ∀ s' e, Boom W c cls s s' e → E (.ref e) s') : wpAny W.M c.A (execs ss c.env) (Good W c fx Q s) E s1 :=
  wpAny_mono (h s1 E S b.1 hp fun t s' e x => hb t s' e (x.pre a)) (fun f s' g => g.pre a b) fun _ _ x => x
theorem ex_mono {ss : List Stmt} {Q' : Post} {T' : Prop} (h : Ex W c cls fx ow σ ss Q T) (hq : ∀ fl ow' σ', Q fl ow' σ' → Q' fl ow' σ') (ht : T → T') : Ex W c cls fx ow σ ss Q' T' := fun s E S F hp hb =>
  wpAny_mono (h s E S F hp fun t => hb (ht t)) (fun f s' ⟨fl, ow', σ', q, r⟩ => ⟨fl, ow', σ', hq _ _ _ q, r⟩) fun _ _ x => x
theorem ex_nil (h : Q .next ow σ) : Ex W c cls fx ow σ [] Q T := fun s E S F _ _ => wpAny_execs_nil ⟨.next, ow, σ, h, trivial, S, Adv.refl s, kx_refl F⟩
/-- what is left after a statement that came to its end -/
def Then (W : Wd) (c : Cx) (cls : Value) (fx : Addr → Prop) (rest : List Stmt) (Q : Post) (T : Prop) : Post := fun fl ow' σ' => match fl with
  | .next => Ex W c cls fx ow' σ' rest Q T
  | fl => Q fl ow' σ'
theorem ex_seq {st : Stmt} {rest : List Stmt} (h : Ex W c cls fx ow σ [st] (Then W c cls fx rest Q T) T) : Ex W c cls fx ow σ (st :: rest) Q T := fun s E S F hp hb => by
  have h1 := h s E S F hp hb
  refine wpAny_execs_cons ?_
  have h2 : wpAny W.M c.A (exec st c.env) (fun f s' => match f with | .next => Good W c fx (Then W c cls fx rest Q T) s .next s' | f => Good W c fx (Then W c cls fx rest Q T) s f s') E s := by
    have h3 : wpAny W.M c.A (exec st c.env >>= fun f => match f with | .next => pure .next | f => pure f) (Good W c fx (Then W c cls fx rest Q T) s) E s := h1
    intro Γ p hΓ
    have h4 := h3 Γ p hΓ
    rw [Sem.wp_bind'] at h4
    refine Sem.wp_mono _ Γ _ (fun f p' s' h' => ?_) (fun _ _ _ x => x) _ _ h4
    cases f <;> exact h'
  refine wpAny_mono h2 (fun f s' g => ?_) fun _ _ x => x
  have go : Good W c fx (Then W c cls fx rest Q T) s f s' := by cases f <;> exact g
  obtain ⟨fl, ow', σ', q, r, st', ad, sb⟩ := go
  cases f with
  | next =>
    cases fl <;> first | exact r.elim | skip
    exact ex_go q st' ad sb hp hb
  | brk =>
    cases fl <;> first | exact r.elim | skip
    exact ⟨.brk, ow', σ', q, r, st', ad, sb⟩
  | cont =>
    cases fl <;> first | exact r.elim | skip
    exact ⟨.cont, ow', σ', q, r, st', ad, sb⟩
  | ret v =>
    cases fl <;> first | exact r.elim | skip
    rename_i k d
    exact ⟨.ret k d, ow', σ', q, r, st', ad, sb⟩
end
end Jg
end PartJg7

noncomputable section PartJg8
open PySem PySem.W PySem.Calls PyProof.Rows
namespace Jg

theorem ns_uniq {h : Heap} {a : Addr} {m m' : Str → Option Value} (x : h.Ns a m) (y : h.Ns a m') : m = m' := funext (x.agree y)

/-- a name that may be stored -/
def StOk (c : Cx) (x : Str) : Prop := c.env.kindOf x = some .local ∨ (c.env.kindOf x = some .cell ∧ ∃ a, c.env.cells.lookup x = some a)

section
variable {W : Wd} {c : Cx} {cls : Value} {fx : Addr → Prop} {ow : Ow} {σ : Sg} {Q : Post} {T : Prop}

theorem cell_ne {h : Heap} {a L : Addr} {m : Str → Option Value} {v : Option Value} (x : h.IsCell a v) (y : h.Ns L m) : a ≠ L := by
  rintro rfl
  obtain ⟨o, ho, hd⟩ := x
  obtain ⟨o', es, ep, ho', hd', _⟩ := y
  rw [ho] at ho'; cases ho'; rw [hd] at hd'; cases hd'
theorem list_ne {h : Heap} {a L : Addr} {m : Str → Option Value} {xs : Array Value} (x : h.IsList a xs) (y : h.Ns L m) : a ≠ L := by
  rintro rfl
  obtain ⟨o, ho, _, n, hd⟩ := x
  obtain ⟨o', es, ep, ho', hd', _⟩ := y
  rw [ho] at ho'; cases ho'; rw [hd] at hd'; cases hd'
theorem list_cell {h : Heap} {a b : Addr} {v : Option Value} {xs : Array Value} (x : h.IsList a xs) (y : h.IsCell b v) : a ≠ b := by
  rintro rfl
  obtain ⟨o, ho, _, n, hd⟩ := x
  obtain ⟨o', ho', hd'⟩ := y
  rw [ho] at ho'; cases ho'; rw [hd] at hd'; cases hd'
theorem list_same {h h' : Heap} {a b : Addr} {xs : Array Value} (x : h.IsList a xs) (hs : Heap.SameBut b h h') (n : a ≠ b) : h'.IsList a xs := x.extBut hs.extBut n

theorem oas_mem {ow : Ow} {a : Addr} (h : a ∈ oas ow) : ∃ y, ow = some (y, a) := by
  cases ow with
  | none => cases h
  | some p =>
    obtain ⟨y, b⟩ := p
    obtain rfl := List.mem_singleton.mp h
    exact ⟨y, rfl⟩

/-- a store into a name -/
theorem st_store {A : Around} {x : Str} {v : Value} {d : D} {s : Shared} {E : Value → Shared → Prop} {C : Unit → Shared → Prop} (ok : COk W c) (S : St W c ow σ s.heap) (hx : StOk c x) (hy : ∀ y a, ow = some (y, a) → x ≠ y) (r : Rd (Kp (oas ow) true) s.heap d v)
    (q : ∀ h' tk, St W c ow ((x, (true, d)) :: σ) h' → Stb c [] s.heap h' → Loc c.env h' x v → (∀ ok, Seqs ok s.heap h') → (∀ y u, y ≠ x → Loc c.env s.heap y u → Loc c.env h' y u) → (∀ C' m, s.heap.Ns C' m → C' ≠ c.env.locals → h'.Ns C' m) → C () { s with heap := h', toks := tk }) : wpAny W.M A (storeName c.env x v) C E s := by
  obtain ⟨m, hm⟩ := S.frame
  -- what one store leaves
  have fin : ∀ (p : Addr) (h' : Heap), Heap.SameBut p s.heap h' → c.g.get? p = none → (∀ o xs n, s.heap.get? p = some o → o.data ≠ .seq xs n) → (∃ o, h'.get? p = some o) → (∃ m', h'.Ns c.env.locals m') → (∀ y a, c.env.cells.lookup y = some a → ∃ u, h'.IsCell a u) →
      Loc c.env h' x v → (∀ y u, y ≠ x → Loc c.env s.heap y u → Loc c.env h' y u) → St W c ow ((x, (true, d)) :: σ) h' := fun p h' hs hg hq hp hf hc hl ho => by
    have hsq : ∀ ok, Seqs ok s.heap h' := fun ok => seqs_same hs fun o xs n e z => absurd z (hq o xs n e)
    have hk : Kg c h' := S.keep.but hs hg
    refine ⟨⟨kinH ok hk, topH ok hk, fun y k d' e => ?_, fun a ha => ?_, S.sv.kind, S.sv.glob, S.sv.blt⟩, hk, hf, S.newL, fun y a e => ⟨hc y a e, (S.cells y a e).2⟩, S.apart, fun y a e => ?_, fun e z d' => ?_⟩
    · rw [List.lookup_cons] at e
      by_cases hyx : y = x
      · subst hyx
        rw [show (y == y) = true from by simp] at e
        cases e
        exact ⟨v, hl, r.mono (fun _ z => z) (hsq _)⟩
      · rw [show (y == x) = false from beq_eq_false_iff_ne.mpr hyx] at e
        obtain ⟨u, l, ru⟩ := S.sv.vars y k d' e
        exact ⟨u, ho y u hyx l, ru.mono (fun _ z => z) (hsq _)⟩
    · obtain ⟨o, ho'⟩ := S.sv.dom a ha
      by_cases z : a = p
      · subst z; exact hp
      · exact ⟨o, (hs.2 a z).trans ho'⟩
    · obtain ⟨h1, h2, ⟨xs, h3⟩, h4⟩ := S.own y a e
      refine ⟨h1, ho y _ (fun z => hy y a e z.symm) h2, ⟨xs, list_same h3 hs fun z => ?_⟩, fun z d' e' => ?_⟩
      · subst z
        obtain ⟨o, ho', _, n, hd⟩ := h3
        exact hq o xs n ho' hd
      · rw [List.lookup_cons] at e'
        by_cases hzx : z = x
        · subst hzx; rw [show (z == z) = true from by simp] at e'; cases e'
        · rw [show (z == x) = false from beq_eq_false_iff_ne.mpr hzx] at e'
          exact h4 z d' e'
    · intro e'
      rw [List.lookup_cons] at e'
      by_cases hzx : z = x
      · subst hzx; rw [show (z == z) = true from by simp] at e'; cases e'
      · rw [show (z == x) = false from beq_eq_false_iff_ne.mpr hzx] at e'
        exact S.strict e z d' e'
  rcases hx with hl | ⟨hl, a, ha⟩
  · refine wpAny_storeName_local hl hm (fun h' hn hs => ?_) (by show (c.env.scope.kind == .class || (c.env.scope.kind == .module && _)) = false; rw [S.sv.kind]; rfl)
    have hnq : ∀ o xs n, s.heap.get? c.env.locals = some o → o.data ≠ .seq xs n := fun o xs n e z => by
      obtain ⟨o', es, ep, ho', hd', _⟩ := hm
      rw [e] at ho'; cases ho'; rw [z] at hd'; cases hd'
    have hcl : ∀ y b u, c.env.cells.lookup y = some b → s.heap.IsCell b u → h'.IsCell b u := fun y b u e x => x.sameBut hs (cell_ne x hm)
    have hloc : Loc c.env h' x v := .inl ⟨hl, _, hn, by simp⟩
    have hoth : ∀ y u, y ≠ x → Loc c.env s.heap y u → Loc c.env h' y u := fun y u hyx l => by
      rcases l with ⟨kl, m', hm', hv'⟩ | ⟨kl, b, hb, hv'⟩
      · refine .inl ⟨kl, _, hn, ?_⟩
        rw [if_neg hyx, ns_uniq hm hm']; exact hv'
      · exact .inr ⟨kl, b, hb, hcl y b _ hb hv'⟩
    refine q h' _ (fin c.env.locals h' hs S.newL hnq ⟨_, hn.choose_spec.choose_spec.choose_spec.1⟩ ⟨_, hn⟩ (fun y b e => ?_) hloc hoth) (fun b o e h1 _ _ => (hs.2 b h1).trans e) hloc (fun ok => seqs_same hs fun o xs n e z => absurd z (hnq o xs n e)) hoth fun C' m' hn' hne => hn'.sameBut hs hne
    · obtain ⟨⟨u, z⟩, _⟩ := S.cells y b e
      exact ⟨u, hcl y b u e z⟩
  · obtain ⟨⟨u0, hu0⟩, hg⟩ := S.cells x a ha
    refine wpAny_storeName_cell S.sv.kind hl ha hu0 (fun h' hc hs => ?_)
    have hnq : ∀ o xs n, s.heap.get? a = some o → o.data ≠ .seq xs n := fun o xs n e z => by
      obtain ⟨o', ho', hd'⟩ := hu0
      rw [e] at ho'; cases ho'; rw [z] at hd'; cases hd'
    have hLa := cell_ne hu0 hm
    have hloc : Loc c.env h' x v := .inr ⟨.inl hl, a, ha, hc⟩
    have q' := q h' s.toks
    have hoth : ∀ y u, y ≠ x → Loc c.env s.heap y u → Loc c.env h' y u := fun y u hyx l => by
      rcases l with ⟨kl, m', hm', hv'⟩ | ⟨kl, b, hb, hv'⟩
      · exact .inl ⟨kl, m', hm'.sameBut hs hLa.symm, hv'⟩
      · exact .inr ⟨kl, b, hb, hv'.sameBut hs fun z => hyx (name_of_addr S.apart (mem_of_lookup hb) (z ▸ mem_of_lookup ha))⟩
    refine q' (fin a h' hs hg hnq ⟨_, hc.choose_spec.1⟩ ⟨m, hm.sameBut hs hLa.symm⟩ (fun y b e => ?_) hloc hoth) (fun b o e _ h2 _ => (hs.2 b (h2 x a ha)).trans e) hloc (fun ok => seqs_same hs fun o xs n e z => absurd z (hnq o xs n e)) hoth fun C' m' hn' hne => hn'.sameBut hs fun z => ?_
    · by_cases z : b = a
      · subst z; exact ⟨_, hc⟩
      · obtain ⟨⟨u, w⟩, _⟩ := S.cells y b e
        exact ⟨u, w.sameBut hs z⟩
    · subst z
      obtain ⟨o, ho, hd⟩ := hu0
      obtain ⟨o', es, ep, ho', hd', _⟩ := hn'
      rw [ho] at ho'; cases ho'; rw [hd] at hd'; cases hd'
end
end Jg
end PartJg8

noncomputable section PartJg9
open PySem PySem.W PySem.Calls PyProof.Rows
namespace Jg

theorem Loc.uniq {env : Env} {h : Heap} {x : Str} {v u : Value} (a : Loc env h x v) (b : Loc env h x u) : v = u := by
  rcases a with ⟨k, m, hm, hv⟩ | ⟨k, c, hc, o, ho, hd⟩ <;> rcases b with ⟨k', m', hm', hv'⟩ | ⟨k', c', hc', o', ho', hd'⟩
  · have := ns_uniq hm hm'; subst this
    rw [hv] at hv'; exact Option.some.inj hv'
  · rcases k' with q | q <;> (rw [k] at q; cases q)
  · rcases k with q | q <;> (rw [k'] at q; cases q)
  · rw [hc] at hc'; cases hc'
    rw [ho] at ho'; cases ho'
    rw [hd] at hd'; cases hd'; rfl

section
variable {W : Wd} {c : Cx} {cls : Value} {fx : Addr → Prop} {ow : Ow} {σ : Sg} {Q : Post} {T : Prop}

/-- x = e -/
theorem ex_assign {x : Str} {px pos : Pos} {e : Expr} {d : D} {rest : List Stmt} (ok : COk W c) (hx : StOk c x) (hy : ∀ y a, ow = some (y, a) → x ≠ y) (h : Ev W c.A c.env (oas ow) σ true e d)
    (k : Ex W c cls fx ow ((x, (true, d)) :: σ) rest Q T) (hs : swapsWith e (some (.Name x px)) pos.line c.env = pure false := by rfl) : Ex W c cls fx ow σ (.Assign [.Name x px] e pos :: rest) Q T := fun s E S F hp hb =>
  wpAny_execs_cons (wpAny_Assign_Name (ev_then h ok.ao S.sv fun v s1 k1 S1 r1 => st_store ok (S.up (kups k1)) hx hy r1 fun h' tk S2 b2 _ _ _ _ =>
    ex_go k S2 ((adv_of k1).trans ⟨h', tk, rfl⟩) (kx_stb S F ((kups k1).stb.trans b2)) hp hb) hs)

theorem st_own {x : Str} {l : List D} {s : Shared} {h' : Heap} {a : Addr} (S : St W c none σ s.heap) (S' : St W c none ((x, (true, .list l)) :: σ) h') (hl : Loc c.env h' x (.ref a)) (hoth : ∀ y u, y ≠ x → Loc c.env s.heap y u → Loc c.env h' y u)
    (hn : s.heap.get? a = none) (hsq : ∀ ok, Seqs ok s.heap h') : St W c (some (x, a)) ((x, (false, .list l)) :: σ) h' := by
  obtain ⟨v, lv, rv⟩ := S'.sv.vars x true (.list l) (by simp)
  obtain rfl := lv.uniq hl
  obtain ⟨a', vs, e, ha, hli, rs⟩ := rv
  cases e
  refine ⟨⟨S'.sv.kin, S'.sv.top, fun y k d e => ?_, fun b hb => ?_, S'.sv.kind, S'.sv.glob, S'.sv.blt⟩, S'.keep, S'.frame, S'.newL, S'.cells, S'.apart, fun y b e => ?_, fun e => by cases e⟩
  · rw [List.lookup_cons] at e
    by_cases hyx : y = x
    · subst hyx
      rw [show (y == y) = true from by simp] at e
      cases e
      exact ⟨.ref a, hl, a, vs, rfl, (fun q => by cases q), hli, rs.mono (fun _ _ q => by cases q) (Ups.refl _).seqs⟩
    · rw [show (y == x) = false from beq_eq_false_iff_ne.mpr hyx] at e
      obtain ⟨u, lu, ru⟩ := S.sv.vars y k d e
      refine ⟨u, hoth y u hyx lu, (ru.strong fun b o xs n hb hq hk hk' hm => ?_).mono (fun _ q => q) (hsq _)⟩
      obtain rfl := List.mem_singleton.mp hm
      rw [hn] at hb; cases hb
  · obtain rfl := List.mem_singleton.mp hb
    obtain ⟨o, ho, _⟩ := hli
    exact ⟨o, ho⟩
  · cases e
    refine ⟨S.keep.fresh hn, hl, ⟨_, hli⟩, fun z d e => ?_⟩
    · rw [List.lookup_cons] at e
      by_cases hzx : z = x
      · exact hzx
      · rw [show (z == x) = false from beq_eq_false_iff_ne.mpr hzx] at e
        exact absurd e (S.strict rfl z d)

theorem kx_own {y : Str} {a : Addr} {h h' : Heap} (x : Kx fx none h h') : Kx fx (some (y, a)) h h' := x
theorem fx_fresh {a : Addr} {h : Heap} (F : Fx fx ow h) (hn : h.get? a = none) : ¬ fx a := fun f => by
  obtain ⟨o, ho, _⟩ := F a f
  rw [hn] at ho; cases ho
/-- x = a new list, that is to be changed in place -/
theorem ex_own {x : Str} {px pos : Pos} {e : Expr} {l : List D} {rest : List Stmt} (ok : COk W c) (hx : StOk c x) (h : EvN W c.A c.env [] σ e l)
    (k : ∀ a, ¬ fx a → Ex W c cls fx (some (x, a)) ((x, (false, .list l)) :: σ) rest Q T) (hs : swapsWith e (some (.Name x px)) pos.line c.env = pure false := by rfl) : Ex W c cls fx none σ (.Assign [.Name x px] e pos :: rest) Q T := fun s E S F hp hb =>
  wpAny_execs_cons (wpAny_Assign_Name (evN_then h ok.ao S.sv fun v s1 k1 S1 r1 => by
    obtain ⟨a, vs, rfl, hn, hpl, rs⟩ := r1
    refine st_store (d := .list l) ok (S.up (kups k1)) hx (fun y a q => by cases q) ⟨a, vs, rfl, S.sv.fresh hn true, hpl.isList, rs⟩ fun h' tk S2 b2 hl hsq hoth _ => ?_
    exact ex_go (k a (fx_fresh F hn)) (st_own S S2 hl (fun y u hyx l => hoth y u hyx (l.up (kups k1))) hn fun ok' => seqs_trans (kups k1).seqs (hsq ok')) ((adv_of k1).trans ⟨h', tk, rfl⟩) (kx_own (kx_stb S F ((kups k1).stb.trans b2))) hp hb) hs)

/-- a dict that nothing of the frame names may go -/
theorem st_garbage {h h' : Heap} {C : Addr} {m : Str → Option Value} (ok : COk W c) (S : St W c ow σ h) (hm : h.Ns C m) (hL : C ≠ c.env.locals) (hg : c.g.get? C = none) (hs : Heap.SameBut C h h') (hex : ∃ o, h'.get? C = some o ∨ C ∉ oas ow) : St W c ow σ h' := by
  have hnq : ∀ o xs n, h.get? C = some o → o.data ≠ .seq xs n := fun o xs n e z => by
    obtain ⟨o', es, ep, ho', hd', _⟩ := hm
    rw [e] at ho'; cases ho'; rw [z] at hd'; cases hd'
  have hsq : ∀ ok, Seqs ok h h' := fun ok => seqs_same hs fun o xs n e z => absurd z (hnq o xs n e)
  have hk : Kg c h' := S.keep.but hs hg
  have hcell : ∀ b u, h.IsCell b u → h'.IsCell b u := fun b u x => x.sameBut hs (cell_ne x hm)
  have hloc : ∀ y u, Loc c.env h y u → Loc c.env h' y u := fun y u l => by
    rcases l with ⟨kl, m', hm', hv'⟩ | ⟨kl, b, hb, hv'⟩
    · exact .inl ⟨kl, m', hm'.sameBut hs hL.symm, hv'⟩
    · exact .inr ⟨kl, b, hb, hcell _ _ hv'⟩
  refine ⟨⟨kinH ok hk, topH ok hk, fun y k d e => ?_, fun b hb => ?_, S.sv.kind, S.sv.glob, S.sv.blt⟩, hk, ?_, S.newL, fun y a e => ?_, S.apart, fun y a e => ?_, S.strict⟩
  · obtain ⟨v, l, r⟩ := S.sv.vars y k d e
    exact ⟨v, hloc y v l, r.mono (fun _ q => q) (hsq _)⟩
  · obtain ⟨y, e⟩ := oas_mem hb
    obtain ⟨_, _, ⟨xs, h3⟩, _⟩ := S.own y b e
    have := list_same h3 hs (list_ne h3 hm)
    obtain ⟨o, ho, _⟩ := this
    exact ⟨o, ho⟩
  · obtain ⟨m', hm'⟩ := S.frame
    exact ⟨m', hm'.sameBut hs hL.symm⟩
  · obtain ⟨⟨v, h1⟩, h2⟩ := S.cells y a e
    exact ⟨⟨v, hcell _ _ h1⟩, h2⟩
  · obtain ⟨h1, h2, ⟨xs, h3⟩, h4⟩ := S.own y a e
    exact ⟨h1, hloc _ _ h2, ⟨xs, list_same h3 hs (list_ne h3 hm)⟩, h4⟩

/-- x = [.. for .. in ..], the stores exchanged -/
theorem exec_comp {y x : Str} {py px pos spos : Pos} {elt iter : Expr} {ifs : List Expr} {scope : Scope} {cl : List (Str × Addr)} {σc : Sg} {l r : List D} {f : Nat → Option D} {cl' : Addr → List (Str × Addr)} {s : Shared} {E : Value → Shared → Prop} {K : Flow → Shared → Prop}
    (ok : COk W c) (S : St W c ow σ s.heap) (hy : StOk c y) (hyo : ∀ z a, ow = some (z, a) → y ≠ z) (hsw : swapsWith (.ListComp elt [⟨.Name x px, iter, ifs, 0⟩] scope pos) (some (.Name y py)) spos.line c.env = pure true)
    (hsrc : Src W c.A c.env (oas ow) σ [] iter l) (hl : l.length ≤ 10000000) (hr : (List.range l.length).filterMap f = r)
    (hs : ∀ x, foldedSetIterable iter c.env x = pure x) (hclos : closureFor scope c.env = pure cl) (hkind : scope.kind = .function) (hnames : ∀ x ∈ scope.names, x.2 = .local → scope.names.lookup x.1 = some .local)
    (hown : Own c.env scope cl x cl') (hcap : Cap c.env scope cl x σ σc)
    (htest : ∀ i C X d, l[i]? = some d → Ifs W c.A (compEnvC scope (cl' C) C c.env) (X ++ oas ow) ((x, (true, d)) :: σc) ifs (f i).isSome)
    (helt : ∀ i C X d e, l[i]? = some d → f i = some e → Ev W c.A (compEnvC scope (cl' C) C c.env) (X ++ oas ow) ((x, (true, d)) :: σc) true elt e)
    (k : ∀ h' tk a, St W c ow ((y, (true, .list r)) :: σ) h' → Stb c [] s.heap h' → Loc c.env h' y (.ref a) → s.heap.get? a = none → (∀ ok, Seqs ok s.heap h') → (∀ z u, z ≠ y → Loc c.env s.heap z u → Loc c.env h' z u) → K .next { s with heap := h', toks := tk }) :
    wpAny W.M c.A (exec (.Assign [.Name y py] (.ListComp elt [⟨.Name x px, iter, ifs, 0⟩] scope pos) spos) c.env) K E s := by
  rw [exec_Assign_Name_used _ _ _ _ hsw]
  refine wpAny_bind (wpAny_standAt (wpAny_bind ?_))
  show wpAny _ c.A (do let _ ← comprehension (.ListComp elt [⟨.Name x px, iter, ifs, 0⟩] scope pos) scope c.env _ (newList []) false (eval iter c.env) (some (assign (.Name y py) c.env))) _ _ s
  refine wpAny_bind (wpAny_mono (comp_core (use := some (assign (.Name y py) c.env)) (Q := fun _ s' => K .next s') ok.ao S.sv hsrc hl hs hclos hkind hnames hown hcap htest helt fun C s₃ v K1 L => ?_) (fun _ s' hq => wpAny_pure (wpAny_pure hq)) fun _ _ e => e)
  rw [hr] at L
  obtain ⟨⟨a, vs, rfl, h1, h2, h3, h4⟩, hC, m, hm⟩ := L
  have S3 := S.up (kups K1)
  have hCL : C ≠ c.env.locals := by
    rintro rfl
    obtain ⟨m0, o, es, ep, ho, _⟩ := S.frame
    rw [hC] at ho; cases ho
  have hgC : c.g.get? C = none := S.keep.fresh hC
  have hCo : C ∉ oas ow := fun q => by
    obtain ⟨o, ho⟩ := S.sv.dom C q
    rw [hC] at ho; cases ho
  show wpAny _ c.A (assign (.Name y py) c.env (.ref a)) _ _ _
  refine wpAny_assign_Name (st_store (d := .list r) ok S3 hy hyo ⟨a, vs, rfl, S.sv.fresh h1 true, h3.isList, h4⟩ fun h' tk S2 b2 hl' hsq hoth hns => ⟨m, hns C m hm hCL, fun h'' hs'' => ?_⟩)
  have hs2 : Heap.SameBut C h' h'' := hs''
  have hm' := hns C m hm hCL
  have hsq' : ∀ ok, Seqs ok h' h'' := fun ok => seqs_same hs2 fun o xs n e z => by
    obtain ⟨o', es, ep, ho', hd', _⟩ := hm'
    rw [e] at ho'; cases ho'; rw [z] at hd'; cases hd'
  have hloc : ∀ z u, Loc c.env h' z u → Loc c.env h'' z u := fun z u lz => by
    rcases lz with ⟨kl, m', hm'', hv'⟩ | ⟨kl, b, hb, hv'⟩
    · exact .inl ⟨kl, m', hm''.sameBut hs2 hCL.symm, hv'⟩
    · exact .inr ⟨kl, b, hb, hv'.sameBut hs2 (cell_ne hv' hm')⟩
  have u3 := kups K1
  obtain ⟨g3, t3, rfl, _⟩ := K1
  refine k h'' tk a (st_garbage ok S2 hm' hCL hgC hs2 ⟨default, .inr hCo⟩) (fun b o e q1 q2 q3 => (hs2.2 b (fun z => ?_)).trans (b2 b o (u3 b o e) q1 q2 (by simp))) (hloc _ _ hl') h1 (fun ok => seqs_trans (seqs_trans u3.seqs (hsq ok)) (hsq' ok)) fun z u hz lz => hloc z u (hoth z u hz (lz.up u3))
  subst z; rw [hC] at e; cases e

/-- x = [.. for .. in ..] -/
theorem ex_comp {y x : Str} {py px pos spos : Pos} {elt iter : Expr} {ifs : List Expr} {scope : Scope} {cl : List (Str × Addr)} {σc : Sg} {l r : List D} {f : Nat → Option D} {cl' : Addr → List (Str × Addr)} {rest : List Stmt}
    (ok : COk W c) (hy : StOk c y) (hyo : ∀ z a, ow = some (z, a) → y ≠ z) (hsw : swapsWith (.ListComp elt [⟨.Name x px, iter, ifs, 0⟩] scope pos) (some (.Name y py)) spos.line c.env = pure true)
    (hsrc : Src W c.A c.env (oas ow) σ [] iter l) (hl : l.length ≤ 10000000) (hr : (List.range l.length).filterMap f = r)
    (hs : ∀ x, foldedSetIterable iter c.env x = pure x) (hclos : closureFor scope c.env = pure cl) (hkind : scope.kind = .function) (hnames : ∀ x ∈ scope.names, x.2 = .local → scope.names.lookup x.1 = some .local)
    (hown : Own c.env scope cl x cl') (hcap : Cap c.env scope cl x σ σc)
    (htest : ∀ i C X d, l[i]? = some d → Ifs W c.A (compEnvC scope (cl' C) C c.env) (X ++ oas ow) ((x, (true, d)) :: σc) ifs (f i).isSome)
    (helt : ∀ i C X d e, l[i]? = some d → f i = some e → Ev W c.A (compEnvC scope (cl' C) C c.env) (X ++ oas ow) ((x, (true, d)) :: σc) true elt e)
    (k : Ex W c cls fx ow ((y, (true, .list r)) :: σ) rest Q T) : Ex W c cls fx ow σ (.Assign [.Name y py] (.ListComp elt [⟨.Name x px, iter, ifs, 0⟩] scope pos) spos :: rest) Q T := fun s E S F hp hb =>
  wpAny_execs_cons (exec_comp ok S hy hyo hsw hsrc hl hr hs hclos hkind hnames hown hcap htest helt fun h' tk a S2 b2 _ _ _ _ => ex_go k S2 ⟨h', tk, rfl⟩ (kx_stb S F b2) hp hb)
theorem ex_comp_own {y x : Str} {py px pos spos : Pos} {elt iter : Expr} {ifs : List Expr} {scope : Scope} {cl : List (Str × Addr)} {σc : Sg} {l r : List D} {f : Nat → Option D} {cl' : Addr → List (Str × Addr)} {rest : List Stmt}
    (ok : COk W c) (hy : StOk c y) (hsw : swapsWith (.ListComp elt [⟨.Name x px, iter, ifs, 0⟩] scope pos) (some (.Name y py)) spos.line c.env = pure true)
    (hsrc : Src W c.A c.env [] σ [] iter l) (hl : l.length ≤ 10000000) (hr : (List.range l.length).filterMap f = r)
    (hs : ∀ x, foldedSetIterable iter c.env x = pure x) (hclos : closureFor scope c.env = pure cl) (hkind : scope.kind = .function) (hnames : ∀ x ∈ scope.names, x.2 = .local → scope.names.lookup x.1 = some .local)
    (hown : Own c.env scope cl x cl') (hcap : Cap c.env scope cl x σ σc)
    (htest : ∀ i C X d, l[i]? = some d → Ifs W c.A (compEnvC scope (cl' C) C c.env) (X ++ []) ((x, (true, d)) :: σc) ifs (f i).isSome)
    (helt : ∀ i C X d e, l[i]? = some d → f i = some e → Ev W c.A (compEnvC scope (cl' C) C c.env) (X ++ []) ((x, (true, d)) :: σc) true elt e)
    (k : ∀ a, ¬ fx a → Ex W c cls fx (some (y, a)) ((y, (false, .list r)) :: σ) rest Q T) : Ex W c cls fx none σ (.Assign [.Name y py] (.ListComp elt [⟨.Name x px, iter, ifs, 0⟩] scope pos) spos :: rest) Q T := fun s E S F hp hb =>
  wpAny_execs_cons (exec_comp ok S hy (fun _ _ q => by cases q) hsw hsrc hl hr hs hclos hkind hnames hown hcap htest helt fun h' tk a S2 b2 hl' hn hsq hoth => ex_go (k a (fx_fresh F hn)) (st_own S S2 hl' hoth hn hsq) ⟨h', tk, rfl⟩ (kx_own (kx_stb S F b2)) hp hb)

/-- if -/
theorem ex_if {t : Expr} {body orelse rest : List Stmt} {pos : Pos} {b : Bool} (ok : COk W c) (ht : Tst W c.A c.env (oas ow) σ t b) (k : Ex W c cls fx ow σ (if b then body else orelse) (Then W c cls fx rest Q T) T) : Ex W c cls fx ow σ (.If t body orelse pos :: rest) Q T :=
  ex_seq fun s E S F hp hb => wpAny_execs_cons (wpAny_If (tst_then ht ok.ao S.sv fun s1 k1 S1 => by
    have go := ex_go k (S.up (kups k1)) (adv_of k1) (kx_stb S F (kups k1).stb) hp hb
    cases b with
    | true =>
      refine wpAny_mono go (fun f s' g => ?_) fun _ _ x => x
      cases f with
      | next => exact wpAny_execs_nil g
      | _ => exact g
    | false =>
      refine wpAny_mono go (fun f s' g => ?_) fun _ _ x => x
      cases f with
      | next => exact wpAny_execs_nil g
      | _ => exact g))

theorem ex_return {e : Expr} {pos : Pos} {rest : List Stmt} {k : Bool} {d : D} (ok : COk W c) (h : Ev W c.A c.env (oas ow) σ k e d) (q : Q (.ret k d) ow σ) : Ex W c cls fx ow σ (.Return (some e) pos :: rest) Q T := fun s E S F hp hb =>
  wpAny_execs_cons (wpAny_Return_some (ev_then h ok.ao S.sv fun v s1 k1 S1 r1 => ⟨.ret k d, ow, σ, q, r1, S.up (kups k1), adv_of k1, kx_stb S F (kups k1).stb⟩))
theorem ex_continue {pos : Pos} {rest : List Stmt} (q : Q .cont ow σ) : Ex W c cls fx ow σ (.Continue pos :: rest) Q T := fun s E S F hp hb =>
  wpAny_execs_cons (wpAny_Continue ⟨.cont, ow, σ, q, trivial, S, Adv.refl s, kx_refl F⟩)
theorem ex_pass {pos : Pos} {rest : List Stmt} (k : Ex W c cls fx ow σ rest Q T) : Ex W c cls fx ow σ (.Pass pos :: rest) Q T := fun s E S F hp hb =>
  wpAny_execs_cons (wpAny_Pass (ex_go k S (Adv.refl s) (kx_refl F) hp hb))

/-- the names may be forgotten, or put in another order -/
def Sub (σ' σ : Sg) : Prop := ∀ p ∈ σ', σ.lookup p.1 = some p.2
theorem ex_forget {σ' : Sg} {ss : List Stmt} (h : Sub σ' σ) (k : Ex W c cls fx ow σ' ss Q T) : Ex W c cls fx ow σ ss Q T := fun s E S F hp hb => by
  refine k s E ⟨⟨S.sv.kin, S.sv.top, fun x k d e => S.sv.vars x k d (h (x, (k, d)) (mem_of_lookup e)), S.sv.dom, S.sv.kind, S.sv.glob, S.sv.blt⟩, S.keep, S.frame, S.newL, S.cells, S.apart, fun y a e => ?_, fun e z d q => S.strict e z d (h (z, (false, d)) (mem_of_lookup q))⟩ F hp hb
  obtain ⟨h1, h2, h3, h4⟩ := S.own y a e
  exact ⟨h1, h2, h3, fun z d q => h4 z d (h (z, (false, d)) (mem_of_lookup q))⟩

/-- y[i] = value on the list that is changed in place -/
theorem st_item {A : Around} {y : Str} {a : Addr} {l : List D} {n : Int} {t : Tok} {d : D} {v : Value} {s : Shared} {E : Value → Shared → Prop} {C : Unit → Shared → Prop} (ok : COk W c) (S : St W c (some (y, a)) σ s.heap) (hl : σ.lookup y = some (false, .list l)) (h0 : 0 ≤ n) (hn : n < l.length) (hfit : n < 2 ^ 63)
    (r : Rd (Kp [a] false) s.heap d v) (hf : d.flat = true) (hlf : ∀ e ∈ l, e.flat = true)
    (q : ∀ h', St W c (some (y, a)) ((y, (false, .list (l.set n.toNat d))) :: σ) h' → Stb c [a] s.heap h' → C () { s with heap := h' }) : wpAny W.M A (setItem (.ref a) (.int n t) v) C E s := by
  obtain ⟨u, lu, a', vs, e, ha, hli, rs⟩ := S.sv.vars y false _ hl
  obtain ⟨hg, hly, _, huni⟩ := S.own y a rfl
  obtain rfl := lu.uniq hly
  cases e
  obtain ⟨m, hm⟩ := S.frame
  refine wpAny_setItem_list hli h0 hfit (by rw [List.size_toArray, rs.length]; exact hn) fun h' hli' hs => ?_
  have haL := list_ne hli hm
  have hcell : ∀ b u, s.heap.IsCell b u → h'.IsCell b u := fun b u x => x.sameBut hs (list_cell hli x).symm
  have hloc : ∀ z u, Loc c.env s.heap z u → Loc c.env h' z u := fun z u lz => by
    rcases lz with ⟨kl, m', hm', hv'⟩ | ⟨kl, b, hb, hv'⟩
    · exact .inl ⟨kl, m', hm'.sameBut hs haL.symm, hv'⟩
    · exact .inr ⟨kl, b, hb, hcell _ _ hv'⟩
  have hk : Kg c h' := S.keep.but hs hg
  have hsq : Seqs (Kp [a] true) s.heap h' := seqs_same hs fun o xs n _ _ z => z rfl (by simp)
  have hflat : ∀ {l : List D} {vs : List Value}, (∀ e ∈ l, e.flat = true) → Rds (Kp [a] false) s.heap l vs → Rds (Kp [a] false) h' l vs := by
    intro l
    induction l with
    | nil => intro vs _ x; exact x
    | cons e l ih => intro vs hf ⟨v, r, e1, x, y⟩; exact ⟨v, r, e1, x.flat (hf e (by simp)), ih (fun z hz => hf z (by simp [hz])) y⟩
  refine q h' ⟨⟨kinH ok hk, topH ok hk, fun z k d' e => ?_, fun b hb => ?_, S.sv.kind, S.sv.glob, S.sv.blt⟩, hk, ⟨m, hm.sameBut hs haL.symm⟩, S.newL, fun z b e => ?_, S.apart, fun z b e => ?_, fun e => by cases e⟩ fun b o e _ _ q3 => (hs.2 b (fun z => q3 (by simp [z]))).trans e
  · rw [List.lookup_cons] at e
    by_cases hz : z = y
    · subst hz
      rw [show (z == z) = true from by simp] at e
      cases e
      refine ⟨.ref a, hloc _ _ hly, a, vs.set n.toNat v, rfl, ha, ?_, Rds.set (r.flat hf) n.toNat (hflat hlf rs)⟩
      have : vs.toArray.setIfInBounds n.toNat v = (vs.set n.toNat v).toArray := by simp
      rw [← this]; exact hli'
    · rw [show (z == y) = false from beq_eq_false_iff_ne.mpr hz] at e
      cases k with
      | false => exact absurd (huni z d' e) hz
      | true =>
        obtain ⟨u, lz, rz⟩ := S.sv.vars z true d' e
        exact ⟨u, hloc z u lz, rz.mono (fun _ w => w) hsq⟩
  · obtain rfl := List.mem_singleton.mp hb
    obtain ⟨o, ho, _⟩ := hli'
    exact ⟨o, ho⟩
  · obtain ⟨⟨v, h1⟩, h2⟩ := S.cells z b e
    exact ⟨⟨v, hcell _ _ h1⟩, h2⟩
  · cases e
    refine ⟨hg, hloc _ _ hly, ⟨_, hli'⟩, fun z d' e => ?_⟩
    rw [List.lookup_cons] at e
    by_cases hz : z = y
    · exact hz
    · rw [show (z == y) = false from beq_eq_false_iff_ne.mpr hz] at e
      exact huni z d' e

theorem ex_aug {y : Str} {a : Addr} {ty pos spos : Pos} {i e : Expr} {l : List D} {n m j : Int} {k1 k2 : Bool} {rest : List Stmt} (ok : COk W c) (hl : σ.lookup y = some (false, .list l)) (hlf : ∀ e ∈ l, e.flat = true) (hfa : ¬ fx a)
    (hi : Ev W c.A c.env [a] σ k1 i (.int n)) (he : Ev W c.A c.env [a] σ k2 e (.int j)) (h0 : 0 ≤ n) (hfit : n < 2 ^ 63) (hm : l[n.toNat]? = some (.int m))
    (k : Ex W c cls fx (some (y, a)) ((y, (false, .list (l.set n.toNat (.int (m + j))))) :: σ) rest Q T)
    (hd : (y == ("__debug__" : Str)) = false := by decide) (hn : (y == ("__classdict__" : Str)) = false := by decide)
    (hag : ∀ ov iv new, augStore i ov iv new = (do holding [new, ov, iv] (setItem ov iv new); release [new, ov, iv] []; pure .next) := by intros; rfl) :
    Ex W c cls fx (some (y, a)) σ (.AugAssign (.Subscript (.Name y ty) i spos) .Add e pos :: rest) Q T := fun s E S F hp hb => by
  refine wpAny_execs_cons (wpAny_AugAssign_SubscriptAny ?_ hag)
  obtain ⟨hg, hly, _, huni⟩ := S.own y a rfl
  refine wpAny_Name (loadName_loc S.sv.kind hly ?_ hn) hd
  refine ev_then hi ok.ao S.sv fun iv s1 k1 S1 r1 => ?_
  obtain ⟨t, rfl⟩ := r1
  have S1' := S.up (kups k1)
  obtain ⟨u, lu, a', vs, e1, ha1, hli, rs⟩ := S1.vars y false _ hl
  obtain rfl := lu.uniq (S1'.own y a rfl).2.1
  cases e1
  obtain ⟨x, hx, t2, rfl⟩ := rs.get hm
  refine wpAny_getItem_list hli h0 hfit (by simpa using hx) ?_
  refine ev_then he ok.ao S1 fun w s2 k2 S2 r2 => ?_
  obtain ⟨t3, rfl⟩ := r2
  refine PyProof.Rows.iadd_int ?_
  have hlt : n < l.length := by
    have := (List.getElem?_eq_some_iff.mp hm).1
    omega
  have k3 := keeps_trans (keeps_trans k1 k2) (keeps_tok s2 (s2.toks + 1))
  refine st_item (s := { s2 with toks := s2.toks + 1 }) (d := .int (m + j)) ok (S.up (kups k3)) hl h0 hlt hfit ⟨_, rfl⟩ rfl hlf fun h' S4 b4 => ?_
  exact ex_go k S4 ((adv_of k3).trans ⟨h', _, rfl⟩) (kx_stbA S F ((kups k3).stb.trans b4) fun b hb => by rw [List.mem_singleton.mp hb]; exact hfa) hp hb
end
end Jg
end PartJg9

noncomputable section PartJg10
open PySem PySem.W PySem.Calls PyProof.Rows
namespace Jg

section
variable {W : Wd} {c : Cx} {cls : Value} {fx : Addr → Prop} {ow : Ow} {σ : Sg} {Q : Post} {T : Prop}

theorem st_fields {wr : List Addr} {h h' : Heap} (ok : COk W c) (S : St W c ow σ h) (k : ∀ b o, b ∉ wr → h.get? b = some o → h'.get? b = some o) (hf : ∀ b ∈ wr, ∃ o vs, h.get? b = some o ∧ o.data = .fields vs) (hg : ∀ b ∈ wr, c.g.get? b = none) : St W c ow σ h' := by
  have hk : Kg c h' := fun b o e => by
    obtain ⟨sl, z, f⟩ := S.keep b o e
    exact ⟨sl, k b _ (fun q => by rw [hg b q] at e; cases e) z, f⟩
  have hsq : ∀ ok, Seqs ok h h' := fun ok b o xs n _ e q => k b o (fun m => by
    obtain ⟨o', vs, e', q'⟩ := hf b m
    rw [e] at e'; cases e'; rw [q] at q'; cases q') e
  have hns : ∀ L m, h.Ns L m → h'.Ns L m := fun L m x => by
    obtain ⟨o, es, ep, ho, hd, r⟩ := x
    exact ⟨o, es, ep, k L o (fun m => by
      obtain ⟨o', vs, e', q'⟩ := hf L m
      rw [ho] at e'; cases e'; rw [hd] at q'; cases q') ho, hd, r⟩
  have hcell : ∀ b u, h.IsCell b u → h'.IsCell b u := fun b u x => by
    obtain ⟨o, ho, hd⟩ := x
    exact ⟨o, k b o (fun m => by
      obtain ⟨o', vs, e', q'⟩ := hf b m
      rw [ho] at e'; cases e'; rw [hd] at q'; cases q') ho, hd⟩
  have hlist : ∀ b xs, h.IsList b xs → h'.IsList b xs := fun b xs x => by
    obtain ⟨o, ho, hc, n, hd⟩ := x
    exact ⟨o, hsq (fun _ => True) b o xs n trivial ho hd, hc, n, hd⟩
  have hloc : ∀ y u, Loc c.env h y u → Loc c.env h' y u := fun y u l => by
    rcases l with ⟨kl, m', hm', hv'⟩ | ⟨kl, b, hb, hv'⟩
    · exact .inl ⟨kl, m', hns _ _ hm', hv'⟩
    · exact .inr ⟨kl, b, hb, hcell _ _ hv'⟩
  refine ⟨⟨kinH ok hk, topH ok hk, fun y k' d e => ?_, fun b hb => ?_, S.sv.kind, S.sv.glob, S.sv.blt⟩, hk, ?_, S.newL, fun y a e => ?_, S.apart, fun y a e => ?_, S.strict⟩
  · obtain ⟨v, l, r⟩ := S.sv.vars y k' d e
    exact ⟨v, hloc y v l, r.mono (fun _ q => q) (hsq _)⟩
  · obtain ⟨y, e⟩ := oas_mem hb
    obtain ⟨_, _, ⟨xs, h3⟩, _⟩ := S.own y b e
    obtain ⟨o, ho, _⟩ := hlist _ _ h3
    exact ⟨o, ho⟩
  · obtain ⟨m', hm'⟩ := S.frame
    exact ⟨m', hns _ _ hm'⟩
  · obtain ⟨⟨v, h1⟩, h2⟩ := S.cells y a e
    exact ⟨⟨v, hcell _ _ h1⟩, h2⟩
  · obtain ⟨h1, h2, ⟨xs, h3⟩, h4⟩ := S.own y a e
    exact ⟨h1, hloc _ _ h2, ⟨xs, hlist _ _ h3⟩, h4⟩

/-- what a turn of a loop may end with -/
def Turn (ow : Ow) (I : Sg → Prop) (Q : Post) : Post := fun fl ow' σ' => match fl with
  | .next => ow' = ow ∧ I σ'
  | .cont => ow' = ow ∧ I σ'
  | .brk => False
  | .ret k d => Q (.ret k d) ow' σ'

/-- the target of a loop -/
def Asg (W : Wd) (c : Cx) (ow : Ow) (target : Expr) (dom : D → Prop) (τ : D → Sg → Sg) : Prop := ∀ (d : D) (σ : Sg) (v : Value) (s : Shared) (E : Value → Shared → Prop) (C : Unit → Shared → Prop), dom d → St W c ow σ s.heap → Rd (Kp (oas ow) true) s.heap d v →
  (∀ h' tk, St W c ow (τ d σ) h' → Stb c [] s.heap h' → C () { s with heap := h', toks := tk }) → wpAny W.M c.A (assign target c.env v) C E s
def GoOk (W : Wd) (c : Cx) (target : Expr) : Prop := ∀ (I : Addr) (v : Value) (s : Shared) (E : Value → Shared → Prop) (C : Unit → Shared → Prop), (∃ o n, s.heap.get? I = some o ∧ o.cls = .type n ∧ ownedIters.contains n = false) → C () s →
  wpAny W.M c.A (letOwnedTupleGo target (.ref I) v) C E s

theorem ex_for_core {target iter : Expr} {body rest : List Stmt} {pos : Pos} {l : List D} {mo : List Addr} {dom : D → Prop} {τ : D → Sg → Sg} (ok : COk W c) (Inv : Nat → Sg → Prop) (hasg : Asg W c ow target dom τ) (hdom : ∀ (i : Nat) (d : D), l[i]? = some d → dom d) (hgo : GoOk W c target)
    (hsrc : Src W c.A c.env (oas ow) σ mo iter l) (h0 : Inv 0 σ)
    (step : ∀ (fx' : Addr → Prop) i d σ', (∀ a ∈ oas ow, a ∈ mo → ¬ fx a → ¬ fx' a) → l[i]? = some d → Inv i σ' → Ex W c cls fx' ow (τ d σ') body (Turn ow (Inv (i + 1)) Q) T)
    (fin : ∀ σ', Inv l.length σ' → Ex W c cls fx ow σ' rest Q T) (hs : ∀ x, foldedSetIterable iter c.env x = pure x := by intro _; rfl) :
    Ex W c cls fx ow σ (.For target iter body [] pos :: rest) Q T := fun s E S F hp hb => by
  refine wpAny_execs_cons (wpAny_For (hsrc ok.ao s E _ S.sv fun I s2 k2 _ wk => ?_) hs)
  obtain ⟨fp, wr, P, Sw, Wl, hst, hfp, hwr, hwq, hwe, hfm, hcl, hrd⟩ := wk
  have hwg : ∀ b ∈ wr, c.g.get? b = none := fun b m => S.keep.fresh (hwr b m)
  have hoff : ∀ a ∈ oas ow, a ∈ mo → ¬ fx a → ¬ ((fx a ∨ (a ∉ oas ow ∧ ∃ o xs n, s2.heap.get? a = some o ∧ o.data = .seq xs n)) ∨ a ∈ fp) := fun a h1 h2 h3 h4 => by
    rcases h4 with (h4 | ⟨h4, _⟩) | h4
    · exact h3 h4
    · exact h4 h1
    · exact hfm a h4 h2
  let G : Addr → Prop := fun b => fx b ∨ (b ∉ oas ow ∧ ∃ o xs n, s2.heap.get? b = some o ∧ o.data = .seq xs n)
  have hGF : Fx G ow s2.heap := fun b g => by
    rcases g with f | ⟨h1, o, xs, n, e, hd⟩
    · exact (kx_stb S F (kups k2).stb).1 b f
    · exact ⟨o, e, (fun _ _ q => by rw [hd] at q; cases q), fun _ q => by rw [hd] at q; cases q⟩
  have kx0 : ∀ {ow' : Ow} {h : Heap}, Kx G ow' s2.heap h → Kx fx ow' s.heap h := fun k => ⟨fun b f => k.1 b (.inl f), fun b o f e => k.2 b o (.inl f) (kups k2 b o e)⟩
  have hwf : ∀ b ∈ wr, ¬ G b := fun b m f => by
    rcases f with f | ⟨_, o, xs, n, e, hd⟩
    · obtain ⟨o, e, _⟩ := F b f
      rw [hwr b m] at e; cases e
    · exact hwq b m o xs n e hd
  refine codeAny_forLoop_any (fun n s' => ∃ i σ', i ≤ l.length ∧ n = l.length + 1 - i ∧ Inv i σ' ∧ St W c ow σ' s'.heap ∧ Adv s s' ∧ Kx G ow s2.heap s'.heap ∧ Fx (· ∈ fp) ow s'.heap ∧ Sw i s'.heap) ?_ (l.length + 1)
    ⟨0, σ, Nat.zero_le _, rfl, h0, S.up (kups k2), adv_of k2, kx_refl hGF, fun b m => ?_, hst⟩
  · rintro n s' ⟨i, σ', hi, rfl, hI, S', a', kx', Fp', st'⟩
    by_cases hlt : i < l.length
    · have hd : l[i]? = some l[i] := by simp [hlt]
      refine Wl.item i _ _ _ hlt st' fun v h1 tk1 hP st1 hk1 => ?_
      have S1 : St W c ow σ' h1 := st_fields ok S' hk1 (hwe i _ st') hwg
      have Fp1 : Fx (· ∈ fp) ow h1 := fun b m => by
        obtain ⟨o, e, h2, h3⟩ := Fp' b m
        by_cases mw : b ∈ wr
        · obtain ⟨o', vs, e', q'⟩ := hwe _ _ st1 b mw
          exact ⟨o', e', (fun _ _ q => by rw [q'] at q; cases q), fun _ q => by rw [q'] at q; cases q⟩
        · exact ⟨o, hk1 b o mw e, h2, h3⟩
      have kx1 : Kx G ow s2.heap h1 := ⟨fun b f => by
        obtain ⟨o, e, q2⟩ := kx'.1 b f
        exact ⟨o, hk1 b o (fun m => hwf b m f) e, q2⟩, fun b o f e => hk1 b o (fun m => hwf b m f) (kx'.2 b o f e)⟩
      refine hgo I v _ _ _ (hcl _ _ st1) ?_
      have r : Rd (Kp (oas ow) true) h1 l[i] v :=
        (hrd i v _ hP hd).mono (fun _ q => q) fun b o xs n hb e hd => kx1.2 b o (.inr ⟨hb rfl, o, xs, n, e, hd⟩) e
      refine hasg l[i] σ' v _ _ _ (hdom i _ hd) S1 r fun h2 tk2 S2 b2 => ?_
      have Fx1 : Fx (fun b => G b ∨ b ∈ fp) ow h1 := fun b m => m.elim (kx1.1 b) (Fp1 b)
      have kx2 := kx_stb S1 Fx1 b2
      refine wpAny_passesOwn hp (wpAny_mono (step (fun b => G b ∨ b ∈ fp) i _ _ hoff hd hI _ E S2 kx2.1 hp fun t s3 e b3 => hb t s3 e (b3.pre (a'.trans ⟨h2, tk2, rfl⟩))) (fun f s3 g => ?_) fun _ _ x => x)
      obtain ⟨fl, ow', σ3, q, fr, S3, a3, kx3⟩ := g
      have a0 : Adv s s3 := (a'.trans ⟨h2, tk2, rfl⟩).trans a3
      have kxe : Kx G ow' s2.heap s3.heap := ⟨fun b f => kx3.1 b (.inl f), fun b o f e => kx3.2 b o (.inl f) (kx2.2 b o (.inl f) (kx1.2 b o f e))⟩
      have goon : ow' = ow → Inv (i + 1) σ3 → ∃ m, m < l.length + 1 - i ∧ ∃ j σ4, j ≤ l.length ∧ m = l.length + 1 - j ∧ Inv j σ4 ∧ St W c ow σ4 s3.heap ∧ Adv s s3 ∧ Kx G ow s2.heap s3.heap ∧ Fx (· ∈ fp) ow s3.heap ∧ Sw j s3.heap := fun e hI3 => by
        subst e
        refine ⟨l.length + 1 - (i + 1), by omega, i + 1, σ3, hlt, rfl, hI3, S3, a0, kxe, fun b m => kx3.1 b (.inr m), ?_⟩
        exact Wl.frame _ _ _ st1 fun b m o e => kx3.2 b o (.inr m) (kx2.2 b o (.inr m) e)
      cases fl with
      | next => cases f <;> first | exact fr.elim | exact goon q.1 q.2
      | cont => cases f <;> first | exact fr.elim | exact goon q.1 q.2
      | brk => exact q.elim
      | ret k d =>
        cases f <;> first | exact fr.elim | skip
        exact ⟨.ret k d, ow', σ3, q, fr, S3, a0, kx0 kxe⟩
    · obtain rfl : i = l.length := by omega
      refine Wl.done _ _ _ st' fun h1 tk1 hk1 => wpAny_execs_nil ?_
      have S1 : St W c ow σ' h1 := st_fields ok S' hk1 (hwe _ _ st') hwg
      exact ex_go (fin σ' hI) S1 (a'.trans ⟨h1, tk1, rfl⟩) (kx0 ⟨fun b f => by
        obtain ⟨o, e, q2⟩ := kx'.1 b f
        exact ⟨o, hk1 b o (fun m => hwf b m f) e, q2⟩, fun b o f e => hk1 b o (fun m => hwf b m f) (kx'.2 b o f e)⟩) hp hb
  · exact hfp b m

theorem asg_name {x : Str} {px : Pos} (ok : COk W c) (hx : StOk c x) (hy : ∀ y a, ow = some (y, a) → x ≠ y) : Asg W c ow (.Name x px) (fun _ => True) (fun d σ => (x, (true, d)) :: σ) := fun d σ v s E C _ S r k =>
  wpAny_assign_Name (st_store ok S hx hy r fun h' tk S' b _ _ _ _ => k h' tk S' b)
theorem go_name {x : Str} {px : Pos} : GoOk W c (.Name x px) := fun I v s E C _ k => wpAny_of_eq (a := ()) rfl k

/-- for x in e -/
theorem ex_for {x : Str} {px : Pos} {iter : Expr} {body rest : List Stmt} {pos : Pos} {l : List D} {mo : List Addr} (ok : COk W c) (hx : StOk c x) (hy : ∀ y a, ow = some (y, a) → x ≠ y) (Inv : Nat → Sg → Prop)
    (hsrc : Src W c.A c.env (oas ow) σ mo iter l) (h0 : Inv 0 σ)
    (step : ∀ (fx' : Addr → Prop) i d σ', (∀ a ∈ oas ow, a ∈ mo → ¬ fx a → ¬ fx' a) → l[i]? = some d → Inv i σ' → Ex W c cls fx' ow ((x, (true, d)) :: σ') body (Turn ow (Inv (i + 1)) Q) T)
    (fin : ∀ σ', Inv l.length σ' → Ex W c cls fx ow σ' rest Q T) (hs : ∀ x, foldedSetIterable iter c.env x = pure x := by intro _; rfl) :
    Ex W c cls fx ow σ (.For (.Name x px) iter body [] pos :: rest) Q T :=
  ex_for_core ok Inv (asg_name ok hx hy) (fun _ _ _ => trivial) go_name hsrc h0 step fin hs

/-- values into names, one after the other -/
theorem st_stores {x y : Str} {px py : Pos} {v u : Value} {d e : D} {s : Shared} {E : Value → Shared → Prop} {C : Unit → Shared → Prop} (ok : COk W c) (S : St W c ow σ s.heap) (hx : StOk c x) (hy : StOk c y) (ho : ∀ z a, ow = some (z, a) → x ≠ z ∧ y ≠ z)
    (r : Rd (Kp (oas ow) true) s.heap d v) (r' : Rd (Kp (oas ow) true) s.heap e u)
    (k : ∀ h' tk, St W c ow ((y, (true, e)) :: (x, (true, d)) :: σ) h' → Stb c [] s.heap h' → C () { s with heap := h', toks := tk }) : wpAny W.M c.A (assignInOrder ((assignEach [.Name x px, .Name y py] c.env).map (·.2)) [v, u]) C E s := by
  show wpAny _ c.A (do holding [u] (assign (.Name x px) c.env v); do holding [] (assign (.Name y py) c.env u); pure ()) _ _ _
  refine wpAny_bind (wpAny_holding (wpAny_assign_Name (st_store ok S hx (fun z a q => (ho z a q).1) r fun h1 t1 S1 b1 _ sq _ _ => ?_)))
  refine wpAny_bind (wpAny_holding (wpAny_assign_Name (st_store (s := { s with heap := h1, toks := t1 }) ok S1 hy (fun z a q => (ho z a q).2) (r'.mono (fun _ q => q) (sq _)) fun h2 t2 S2 b2 _ _ _ _ => wpAny_pure ?_)))
  exact k h2 t2 S2 (b1.trans b2)
theorem asg_pair {x y : Str} {px py pt : Pos} {n : Nat} (ok : COk W c) (hx : StOk c x) (hy : StOk c y) (ho : ∀ z a, ow = some (z, a) → x ≠ z ∧ y ≠ z) {d e : D} {s : Shared} {E : Value → Shared → Prop} {C : Unit → Shared → Prop} {v : Value} (S : St W c ow σ s.heap) (r : Rd (Kp (oas ow) true) s.heap (.tup [d, e]) v)
    (k : ∀ h' tk, St W c ow ((y, (true, e)) :: (x, (true, d)) :: σ) h' → Stb c [] s.heap h' → C () { s with heap := h', toks := tk }) : wpAny W.M c.A (assign (.Tuple [.Name x px, .Name y py] n pt) c.env v) C E s := by
  obtain ⟨a, vs, rfl, _, ht, v0, r0, rfl, h1, v1, r1, rfl, h2, h3⟩ := r
  obtain rfl := h3
  refine assign_Tuple_tuple ok.ao.hand ht rfl rfl fun h' he => ?_
  have up : Ups s.heap h' := fun b o e => he b o (Nat.ne_of_lt (Heap.lt_size e)) e
  exact st_stores (s := { s with heap := h' }) ok (S.up up) hx hy ho (h1.up up) (h2.up up) fun h2 tk S2 b2 => k h2 tk S2 (up.stb.trans b2)

/-- x, y = e -/
theorem ex_pair {x y : Str} {px py pt pos : Pos} {n : Nat} {e : Expr} {d1 d2 : D} {rest : List Stmt} (ok : COk W c) (hx : StOk c x) (hy : StOk c y) (ho : ∀ z a, ow = some (z, a) → x ≠ z ∧ y ≠ z) (h : Ev W c.A c.env (oas ow) σ true e (.tup [d1, d2]))
    (k : Ex W c cls fx ow ((y, (true, d2)) :: (x, (true, d1)) :: σ) rest Q T) (hs : swapsWithSole [.Tuple [.Name x px, .Name y py] n pt] e pos.line c.env = pure false := by rfl)
    (hw : swappedStores [.Tuple [.Name x px, .Name y py] n pt] e c.env = pure none := by rfl) : Ex W c cls fx ow σ (.Assign [.Tuple [.Name x px, .Name y py] n pt] e pos :: rest) Q T := fun s E S F hp hb =>
  wpAny_execs_cons (Assign_Tuple (ev_then h ok.ao S.sv fun v s1 k1 S1 r1 => asg_pair ok hx hy ho (S.up (kups k1)) r1 fun h' tk S2 b2 =>
    ex_go k S2 ((adv_of k1).trans ⟨h', tk, rfl⟩) (kx_stb S F ((kups k1).stb.trans b2)) hp hb) hs hw)
end
end Jg
end PartJg10

noncomputable section PartJg11
open PySem PySem.W PySem.Calls PyProof.Rows
namespace Jg

section
variable {W : Wd} {c : Cx} {cls : Value} {fx : Addr → Prop} {ow : Ow} {σ : Sg} {Q : Post} {T : Prop}

theorem Rk.ns {l : List Env} {h h' : Heap} {L : Addr} {m : Str → Option Value} (x : Rk l h h') (n : h.Ns L m) : h'.Ns L m := by
  obtain ⟨o, es, ep, ho, hd, r⟩ := n
  obtain ⟨sl, z, _⟩ := x L o ho
  exact ⟨_, es, ep, z, hd, r⟩
theorem frame_ns (ok : COk W c) {h : Heap} (S : St W c ow σ h) : ∀ env ∈ c.env :: c.outer, ∃ L m, env.frame = some L ∧ h.Ns L m := fun env he => by
  rcases List.mem_cons.mp he with rfl | he
  · obtain ⟨m, hm⟩ := S.frame
    exact ⟨_, m, ok.fr, hm⟩
  · obtain ⟨L, m, hf, hn⟩ := ok.outs env he
    exact ⟨L, m, hf, S.keep.ns hn⟩
theorem rk_exact (ok : COk W c) {h h' : Heap} (S : St W c ow σ h) (x : Rk (c.env :: c.outer) h h') {b : Addr} {o : Obj} (e : h.get? b = some o) (nd : ∀ es n, o.data ≠ .dict es n) : h'.get? b = some o :=
  x.exact e fun env he hf => by
    obtain ⟨L, m, hf', o', es, ep, ho, hd, _⟩ := frame_ns ok S env he
    rw [hf] at hf'; cases hf'
    rw [e] at ho; cases ho
    exact nd _ _ hd
theorem rk_seqs (ok : COk W c) {h h' : Heap} (S : St W c ow σ h) (x : Rk (c.env :: c.outer) h h') (ok' : Addr → Prop) : Seqs ok' h h' := fun b o xs n _ e hd => rk_exact ok S x e fun _ _ q => by rw [hd] at q; cases q

theorem st_rk (ok : COk W c) {h h' : Heap} (S : St W c ow σ h) (x : Rk (c.env :: c.outer) h h') : St W c ow σ h' := by
  have hk : Kg c h' := fun b o e => by
    obtain ⟨s1, z1, f1⟩ := S.keep b o e
    obtain ⟨s2, z2, f2⟩ := x b _ z1
    refine ⟨s2, z2, fun n => (f2 fun env he hf => ?_).trans (f1 n)⟩
    rcases List.mem_cons.mp he with rfl | he
    · rw [ok.fr] at hf; cases hf
      rw [S.newL] at e; cases e
    · exact n env he hf
  have hcell : ∀ b u, h.IsCell b u → h'.IsCell b u := fun b u x' => by
    obtain ⟨o, ho, hd⟩ := x'
    exact ⟨o, rk_exact ok S x ho (fun _ _ q => by rw [hd] at q; cases q), hd⟩
  have hlist : ∀ b xs, h.IsList b xs → h'.IsList b xs := fun b xs x' => by
    obtain ⟨o, ho, hc, n, hd⟩ := x'
    exact ⟨o, rk_exact ok S x ho (fun _ _ q => by rw [hd] at q; cases q), hc, n, hd⟩
  have hloc : ∀ y u, Loc c.env h y u → Loc c.env h' y u := fun y u l => by
    rcases l with ⟨kl, m', hm', hv'⟩ | ⟨kl, b, hb, hv'⟩
    · exact .inl ⟨kl, m', x.ns hm', hv'⟩
    · exact .inr ⟨kl, b, hb, hcell _ _ hv'⟩
  refine ⟨⟨kinH ok hk, topH ok hk, fun y k d e => ?_, fun b hb => ?_, S.sv.kind, S.sv.glob, S.sv.blt⟩, hk, ?_, S.newL, fun y a e => ?_, S.apart, fun y a e => ?_, S.strict⟩
  · obtain ⟨v, l, r⟩ := S.sv.vars y k d e
    exact ⟨v, hloc y v l, r.mono (fun _ q => q) (rk_seqs ok S x _)⟩
  · obtain ⟨o, ho⟩ := S.sv.dom b hb
    obtain ⟨sl, z, _⟩ := x b o ho
    exact ⟨_, z⟩
  · obtain ⟨m, hm⟩ := S.frame
    exact ⟨m, x.ns hm⟩
  · obtain ⟨⟨v, h1⟩, h2⟩ := S.cells y a e
    exact ⟨⟨v, hcell _ _ h1⟩, h2⟩
  · obtain ⟨h1, h2, ⟨xs, h3⟩, h4⟩ := S.own y a e
    exact ⟨h1, hloc _ _ h2, ⟨xs, hlist _ _ h3⟩, h4⟩
theorem kx_rk (ok : COk W c) {h h' : Heap} (S : St W c ow σ h) (F : Fx fx ow h) (x : Rk (c.env :: c.outer) h h') : Kx fx ow h h' := by
  have k : ∀ b o, fx b → h.get? b = some o → h'.get? b = some o := fun b o f e => by
    obtain ⟨o', e', h2, _⟩ := F b f
    rw [e] at e'; cases e'
    exact rk_exact ok S x e h2
  exact ⟨fun b f => by obtain ⟨o', e', h23⟩ := F b f; exact ⟨o', k b o' f e', h23⟩, k⟩

theorem cx_frames (ok : COk W c) {h : Heap} (S : St W c ow σ h) : h.FunFrames c.base (c.env :: c.outer) := by
  obtain ⟨m, hm⟩ := S.frame
  have hnew : c.base.get? c.env.locals = none := by
    cases q : c.base.get? c.env.locals with
    | none => rfl
    | some o => have := ok.bw.stays _ _ q; rw [S.newL] at this; cases this
  exact .cons (by rw [ok.kind]; decide) ok.fr hm hnew (ok.bw.frames.of_keeps fun b o e _ => by
    obtain ⟨sl, z, _⟩ := S.keep b o e
    exact ⟨_, z, rfl⟩)

theorem fly_leaves (ok : COk W c) {s s' : Shared} {e : Addr} {C : Unit → Shared → Prop} {E : Value → Shared → Prop} (x : Boom W c cls s s' e) (k : ∀ h', Raz c.base c.outer cls c.g e h' → C () { s' with heap := h' }) :
    wpAny W.M c.A (leaving c.env (.ref e)) C E s' := by
  have hfr : c.A.frames = some (c.env :: c.outer) := Around.frames_deeper ok.bw.stack
  have upg : ∀ {h : Heap}, Kg c h → c.g.UpToSlots h := fun x b o e _ => let ⟨sl, z, _⟩ := x b o e; ⟨sl, z⟩
  obtain ⟨_, h1, ow, σ, S, ⟨vs, hx⟩ | ⟨⟨B, a0, hB, hl, hfl⟩, hup⟩⟩ := x
  · have K' := cx_frames ok S
    have hin : ∀ env ∈ (c.env :: c.outer), ∀ b, env.frame = some b → b ∈ (c.env :: c.outer).filterMap (·.frame) := fun env he b hb => List.mem_filterMap.mpr ⟨env, he, hb⟩
    have hnot : ∀ b o, h1.get? b = some o → (∀ env ∈ c.env :: c.outer, env.frame ≠ some b) → (hideAll h1 ((c.env :: c.outer).filterMap (·.frame))).get? b = some o := fun b o q n => hideAll_get _ q fun hm => by
      obtain ⟨env, he, hf⟩ := List.mem_filterMap.mp hm
      exact n env he hf
    have st : c.base.StaysIn (hideAll h1 ((c.env :: c.outer).filterMap (·.frame))) := fun b o q => hideAll_get _ (kg_base ok S.keep b o q) fun hm => by
      rw [(K'.mem hm).1] at q; cases q
    refine wpAny_leaves_madeW hfr ok.fr (fun b o q => of_hideAll _ q) (funFrames_hide K' hin) hx fun h' t x1 x2 x3 x4 => k h' ⟨⟨_, _, st, fun b o q n => ?_, x1⟩, ?_⟩
    · refine hnot b o (S.keep.exact q n) fun env he hf => ?_
      rcases List.mem_cons.mp he with rfl | he
      · rw [ok.fr] at hf; cases hf
        rw [S.newL] at q; cases q
      · exact n env he hf
    · exact (upg S.keep).trans ((Heap.UpToSlots.of_keeps hx.keeps).trans x4)
  · refine wpAny_leaves_onW hfr ok.fr hfl fun h' x1 x2 => k h' ⟨⟨B, a0, hB, fun b o q n => ?_, x1⟩, (upg S.keep).trans (hup.trans x2)⟩
    refine hl b o (S.keep.exact q n) fun env he hf => ?_
    rcases List.mem_cons.mp he with rfl | he
    · rw [ok.fr] at hf; cases hf
      rw [S.newL] at q; cases q
    · exact n env he hf
theorem raz_rk {base : Heap} {l : List Env} {h h' : Heap} {e : Addr} (x : Raz base l cls h e h') (hl : ∀ env ∈ l, ∃ L m, env.frame = some L ∧ h.Ns L m) : Rk l h h' := fun b o q => by
  obtain ⟨⟨B, a0, hB, hk, hfl⟩, hup⟩ := x
  by_cases hn : ∀ env ∈ l, env.frame ≠ some b
  · exact ⟨o.slots, hfl.1 b o (hk b o q hn), fun _ => rfl⟩
  · have : ∃ env ∈ l, env.frame = some b := by
      apply Classical.byContradiction
      intro hc
      exact hn fun env he hf => hc ⟨env, he, hf⟩
    obtain ⟨env, he, hf⟩ := this
    obtain ⟨L, m, hf', o', es, ep, ho, hd, _⟩ := hl env he
    rw [hf] at hf'; cases hf'
    rw [q] at ho; cases ho
    obtain ⟨sl, z⟩ := hup b o q (fun vs w => by rw [hd] at w; cases w)
    exact ⟨sl, z, fun n => absurd hf (n env he)⟩

/-- how many calls there is room for -/
def Lv (c : Cx) (n : Nat) : Prop := c.A₀.handled = none ∧ c.A₀.depth + n ≤ 320 ∧ c.A₀.units + 3 * n ≤ 100
theorem Lv.ao {n : Nat} (x : Lv c n) : AOk c.A := ⟨x.1, by
  show c.A₀.depth + 1 + 150 < 1000
  have := x.2.1; omega, by
  show c.A₀.units + 3 + 300 < 9900
  have := x.2.2; omega⟩
theorem Lv.next {n : Nat} {b h : Heap} {o : List Env} {env : Env} (x : Lv c (n + 1)) : Lv ⟨c.A, b, o, h, env⟩ n := ⟨x.1, by
  show c.A₀.depth + 1 + n ≤ 320
  have := x.2.1; omega, by
  show c.A₀.units + 3 + 3 * n ≤ 100
  have := x.2.2; omega⟩

/-- the parameters -/
noncomputable def sgOf : List Str → List D → Sg
  | p :: ps, d :: ds => (p, (true, d)) :: sgOf ps ds
  | _, _ => []
theorem sgOf_strict : ∀ (ps : List Str) (ds : List D) (z : Str) (d : D), (sgOf ps ds).lookup z ≠ some (false, d)
  | p :: ps, d :: ds, z, e => by
    unfold sgOf
    rw [List.lookup_cons]
    split
    · intro q; cases q
    · exact sgOf_strict ps ds z e
  | [], _, z, e => by unfold sgOf; simp
  | _ :: _, [], z, e => by unfold sgOf; simp
theorem bindL_off {kindOf : Str → Option NameKind} {x : Str} : ∀ (ps : List Str) (vs : List Value) (m : Str → Option Value), x ∉ ps → bindL kindOf (ps.zip vs) m x = m x
  | [], vs, m, _ => rfl
  | p :: ps, [], m, _ => rfl
  | p :: ps, v :: vs, m, h => by
    have hx : x ≠ p := fun e => h (e ▸ List.mem_cons_self)
    show bindL kindOf (ps.zip vs) _ x = m x
    rw [bindL_off ps vs _ fun e => h (List.mem_cons_of_mem _ e)]
    by_cases q : kindOf p = some .local
    · rw [if_pos q]; exact if_neg hx
    · rw [if_neg q]
theorem bindC_off {kindOf : Str → Option NameKind} {x : Str} : ∀ (ps : List Str) (vs : List Value) (m : Str → Option Value), x ∉ ps → bindC kindOf (ps.zip vs) m x = m x
  | [], vs, m, _ => rfl
  | p :: ps, [], m, _ => rfl
  | p :: ps, v :: vs, m, h => by
    have hx : x ≠ p := fun e => h (e ▸ List.mem_cons_self)
    show bindC kindOf (ps.zip vs) _ x = m x
    rw [bindC_off ps vs _ fun e => h (List.mem_cons_of_mem _ e)]
    by_cases q : kindOf p = some .local
    · rw [if_pos q]
    · rw [if_neg q]; exact if_neg hx
theorem bind_get {kindOf : Str → Option NameKind} {ok : Addr → Prop} {h : Heap} {x : Str} {k : Bool} {d : D} : ∀ (ps : List Str) (ds : List D) (vs : List Value) (m cm : Str → Option Value), ps.Nodup → Rds ok h ds vs → (sgOf ps ds).lookup x = some (k, d) →
    k = true ∧ x ∈ ps ∧ ∃ v, Rd ok h d v ∧ (kindOf x = some .local → bindL kindOf (ps.zip vs) m x = some v) ∧ (kindOf x ≠ some .local → bindC kindOf (ps.zip vs) cm x = some v)
  | [], ds, vs, m, cm, _, _, e => by unfold sgOf at e; cases e
  | p :: ps, [], vs, m, cm, _, _, e => by unfold sgOf at e; cases e
  | p :: ps, d' :: ds, vs, m, cm, hn, ⟨v, r, hv, h1, h2⟩, e => by
    subst hv
    unfold sgOf at e
    rw [List.lookup_cons] at e
    obtain ⟨hp, hn'⟩ := List.nodup_cons.mp hn
    by_cases hx : x = p
    · subst hx
      rw [show (x == x) = true from by simp] at e
      cases e
      refine ⟨rfl, List.mem_cons_self, v, h1, fun hl => ?_, fun hl => ?_⟩
      · show bindL kindOf (ps.zip r) _ x = some v
        rw [bindL_off ps r _ hp, if_pos hl]; exact if_pos rfl
      · show bindC kindOf (ps.zip r) _ x = some v
        rw [bindC_off ps r _ hp, if_neg hl]; exact if_pos rfl
    · rw [show (x == p) = false from beq_eq_false_iff_ne.mpr hx] at e
      obtain ⟨q1, q2, u, q3, q4, q5⟩ := bind_get (kindOf := kindOf) (x := x) ps ds r (if kindOf p = some .local then fun y => if y = p then some v else m y else m) (if kindOf p = some .local then cm else fun y => if y = p then some v else cm y) hn' h2 e
      exact ⟨q1, List.mem_cons_of_mem _ q2, u, q3, q4, q5⟩

/-- what is known of a def -/
structure Fn (W : Wd) (f : Addr) (fd : FuncData) (ps : List Str) (body : List Stmt) : Prop where
  body : fd.body = .stmts body
  clo : fd.closure = []
  glob : fd.globals = mainGlobals
  blt : fd.builtins = builtinsNs
  kind : fd.scope.kind = .function
  co : fd.scope.isCoroutine = false
  gen : fd.scope.isGenerator = false
  nodup : ps.Nodup
  bind : ∀ (s : Shared) (vs : List Value), W.K.In s.heap → vs.length = ps.length → BindsTo s fd ⟨vs, []⟩ (ps.zip vs)
  kinds : ∀ x ∈ ps, ∀ n, fd.scope.names.lookup x = some .local ∨ (fd.scope.names.lookup x = some .cell ∧ ((cellsFrom n fd.scope.names []).lookup x).isSome = true)
  there : ∃ oc od osl, W.K.lookup f = some ⟨oc, od, .func fd, osl⟩
  code : codeIn W.K fd.code fd.qualname = true

/-- what a def's body gives over data -/
def Does (W : Wd) (cls : Value) (n : Nat) (f : Addr) (fd : FuncData) (ps : List Str) (body : List Stmt) (ds : List D) (P : D → Prop) (T : Prop) : Prop :=
  ∀ c, COk W c → Lv c n → (∃ L, c.env = callEnvC fd L f) → Ex W c cls (fun _ => False) none (sgOf ps ds) body (fun fl _ _ => ∃ k d, fl = .ret k d ∧ P d) T

theorem call_def {n : Nat} {f : Addr} {fd : FuncData} {ps : List Str} {body : List Stmt} {ds : List D} {P : D → Prop} {s : Shared} {vals : List Value} {R : Result → Shared → Prop} (ok : COk W c) (lv : Lv c (n + 1)) (S : St W c ow σ s.heap)
    (F : Fn W f fd ps body) (D : Does W cls n f fd ps body ds P T) (hlen : ps.length = ds.length) (hv : Rds (fun _ => True) s.heap ds vals)
    (k : ∀ v s' d, Adv s s' → Rk (c.env :: c.outer) s.heap s'.heap → P d → Rd (fun _ => True) s'.heap d v → R (.ok (.ret v)) s')
    (kt : T → ∀ s' e, Adv s s' → Raz c.base (c.env :: c.outer) cls s.heap e s'.heap → R (.error (.ref e)) s') : codeAny W.M c.A (.call (.ref f) ⟨vals, []⟩) R s := by
  obtain ⟨oc, od, osl, ho⟩ := F.there
  have hlv : vals.length = ps.length := by rw [hv.length, hlen]
  have hbind := F.bind s vals S.sv.kin hlv
  have hkind : ∀ x ∈ ps.zip vals, fd.scope.names.lookup x.1 = some .local ∨ (fd.scope.names.lookup x.1 = some .cell ∧ ((cellsFrom (s.heap.objs.size + 1) fd.scope.names []).lookup x.1).isSome = true) := fun x hx => F.kinds x.1 (List.of_mem_zip hx).1 _
  refine codeAny_call_function (by
    show c.A₀.depth + 1 < 1000
    have := lv.2.1; omega) (S.sv.kin _ _ ho) rfl F.co F.gen F.body (codeRec_of S.sv.kin F.code) (hbind _ _ _ _ ?_)
  rw [F.clo]
  refine wpAny_newFunctionEnv_cells F.kind hkind fun env₁ he₁ s₁ X => ?_
  obtain rfl : env₁ = callEnvC fd s.heap.objs.size f := he₁
  refine ⟨(topRead_of S.sv.top).nolimit.keeps X.toInCall.keep, codeAny_func ?_⟩
  let c' : Cx := ⟨c.A, c.base, c.env :: c.outer, s.heap, callEnvC fd s.heap.objs.size f⟩
  have lv' : Lv c' n := lv.next
  have ok' : COk W c' := ⟨⟨Around.frames_deeper ok.bw.stack, (show c.base.StaysIn s.heap from kg_base ok S.keep), (show s.heap.FunFrames c.base (c.env :: c.outer) from cx_frames ok S)⟩, lv'.ao, rfl, F.kind, ok.kin, ok.top, frame_ns ok S⟩
  have hnewL : s.heap.get? s.heap.objs.size = none := size_none _
  have up : Ups s.heap s₁.heap := X.toInCall.keep
  have hko : ∀ y, (callEnvC fd s.heap.objs.size f).kindOf y = fd.scope.names.lookup y := fun _ => rfl
  have S' : St W c' none (sgOf ps ds) s₁.heap := by
    refine ⟨⟨kinH ok' (show Kg c' s₁.heap from up.rk), topH ok' (show Kg c' s₁.heap from up.rk), fun x kk d e => ?_, (fun a ha => nomatch ha), F.kind, F.glob, F.blt⟩, up.rk, ⟨_, X.toInCall.ns⟩, hnewL, fun x a e => ⟨⟨_, X.cell x a e⟩, ?_⟩, X.apart, (fun y a e => nomatch e), fun _ => sgOf_strict ps ds⟩
    · obtain ⟨rfl, hx, v, rd, hL, hC⟩ := bind_get (kindOf := (callEnvC fd s.heap.objs.size f).kindOf) ps ds vals (fun _ => none) (fun _ => none) F.nodup hv e
      refine ⟨v, ?_, (rd.up up).mono (fun _ _ _ q => by cases q) (Ups.refl _).seqs⟩
      rcases F.kinds x hx (s.heap.objs.size + 1) with hl | ⟨hl, hc⟩
      · exact .inl ⟨hl, _, X.toInCall.ns, hL hl⟩
      · obtain ⟨b, hb⟩ := Option.isSome_iff_exists.mp hc
        have := X.cell x b hb
        rw [hC (by rw [hko, hl]; decide)] at this
        exact .inr ⟨.inl hl, b, hb, this⟩
    · have hlt := X.above x a (mem_of_lookup e)
      exact lt_none (h := s.heap) (Nat.le_of_lt hlt)
  have ad : Adv s s₁ := by obtain ⟨h', tk, e, _⟩ := X.done; exact ⟨h', tk, e⟩
  refine wpAny_mono (D c' ok' lv' ⟨_, rfl⟩ s₁ (fun e s' => wpAny W.M c'.A (leaving c'.env e) (fun _ s'' => R (.error e) s'') (fun e' s'' => R (.error e') s'') s') S' (fun _ q => q.elim) PassesOwn.leaving fun t s' e b => ?_) (fun fl s' g => ?_) fun _ _ x => x
  · refine fly_leaves ok' b fun h' r => kt t _ e (ad.trans (b.1.trans ⟨h', s'.toks, rfl⟩)) r
  · obtain ⟨fl', ow', σ', ⟨kk, d, rfl, p⟩, fr, S2, a2, _⟩ := g
    cases fl <;> first | exact fr.elim | skip
    exact k _ s' d (ad.trans a2) S2.keep p (weak fr)
end
end Jg
end PartJg11

noncomputable section PartJg12
open PySem PySem.W PySem.Calls PyProof.Rows
namespace Jg

section
variable {W : Wd} {c : Cx} {cls : Value} {fx : Addr → Prop} {ow : Ow} {σ : Sg} {Q : Post} {T : Prop}

/-- an expression that calls a def of the program -/
def CallX (W : Wd) (c : Cx) (cls : Value) (ow : Ow) (σ : Sg) (e : Expr) (P : D → Prop) (T : Prop) : Prop := ∀ s E, St W c ow σ s.heap → (T → ∀ s' x, Adv s s' → Raz c.base (c.env :: c.outer) cls s.heap x s'.heap → E (.ref x) s') →
  wpAny W.M c.A (eval e c.env) (fun v s' => Adv s s' ∧ Rk (c.env :: c.outer) s.heap s'.heap ∧ ∃ d, P d ∧ Rd (fun _ => True) s'.heap d v) E s
theorem callx_of {k : Bool} {e : Expr} {d : D} (ok : COk W c) (h : Ev W c.A c.env (oas ow) σ k e d) : CallX W c cls ow σ e (· = d) False := fun s E S _ =>
  ev_then h ok.ao S.sv fun v s1 k1 S1 r1 => ⟨adv_of k1, (kups k1).rk, d, rfl, weak r1⟩
theorem callx_then {e : Expr} {P : D → Prop} {s : Shared} {C : Value → Shared → Prop} {E : Value → Shared → Prop} (ok : COk W c) (h : CallX W c cls ow σ e P T) (S : St W c ow σ s.heap)
    (ht : T → ∀ s' x, Adv s s' → Raz c.base (c.env :: c.outer) cls s.heap x s'.heap → E (.ref x) s')
    (k : ∀ v s' d, Adv s s' → Rk (c.env :: c.outer) s.heap s'.heap → St W c ow σ s'.heap → P d → Rd (fun _ => True) s'.heap d v → C v s') : wpAny W.M c.A (eval e c.env) C E s :=
  wpAny_mono (h s E S ht) (fun v s' ⟨a, r, d, p, x⟩ => k v s' d a r (st_rk ok S r) p x) fun _ _ x => x

/-- arguments of such a call -/
def ArgsK (W : Wd) (c : Cx) (ow : Ow) (σ : Sg) (es : List Expr) (ds : List D) : Prop :=
  ∀ pos s E (C : List Value → Shared → Prop), St W c ow σ s.heap → (∀ vs s', Adv s s' → Rk (c.env :: c.outer) s.heap s'.heap → Rds (fun _ => True) s'.heap ds vs → C vs s') → wpAny W.M c.A (spliced (backTo pos (starEach es c.env))) C E s
theorem argsK_nil : ArgsK W c ow σ [] [] := fun pos s E C S k => wpAny_items_nil (k [] s (Adv.refl s) (Rk.refl _ _) rfl)
theorem argsK_cons {e : Expr} {es : List Expr} {d : D} {ds : List D} (ok : COk W c) (h1 : CallX W c cls ow σ e (· = d) False) (h2 : ArgsK W c ow σ es ds) (he : starEach (e :: es) c.env = (false, eval e c.env) :: starEach es c.env := by rfl) :
    ArgsK W c ow σ (e :: es) (d :: ds) := fun pos s E C S k => by
  refine wpAny_items_cons (callx_then ok h1 S (fun t => t.elim) fun v s1 d' a1 r1 S1 p x => h2 pos s1 E _ S1 fun vs s2 a2 r2 xs => ?_) he
  subst p
  exact k _ s2 (a1.trans a2) (r1.trans r2) ⟨v, vs, rfl, x.mono (fun _ q => q) (rk_seqs ok S1 r2 _), xs⟩

theorem raz_pre {l : List Env} {base h h1 h' : Heap} {e : Addr} (r : Rk l h h1) (x : Raz base l cls h1 e h') : Raz base l cls h e h' := by
  obtain ⟨⟨B, a0, hB, hk, hfl⟩, hup⟩ := x
  exact ⟨⟨B, a0, hB, fun b o q n => hk b o (r.exact q n) n, hfl⟩, fun b o q nf => by
    obtain ⟨sl, z, _⟩ := r b o q
    obtain ⟨sl', z'⟩ := hup b _ z nf
    exact ⟨sl', z'⟩⟩

/-- the call -/
theorem callx_fn {n : Nat} {f : Addr} {fd : FuncData} {ps : List Str} {body : List Stmt} {ds : List D} {P : D → Prop} {x : Str} {np pos : Pos} {es : List Expr} (ok : COk W c) (lv : Lv c (n + 1)) (hf : EvV W c.A c.env (oas ow) σ (.Name x np) (.ref f))
    (F : Fn W f fd ps body) (D : Does W cls n f fd ps body ds P T) (hlen : ps.length = ds.length) (hs : ArgsK W c ow σ es ds) (hplain : (backTo pos (starEach es c.env)).any (·.1) = false := by rfl) : CallX W c cls ow σ (.Call (.Name x np) es [] pos) P T := fun s E S ht => by
  obtain ⟨oc, od, osl, ho⟩ := F.there
  refine wpAny_Call_ofName (evV_then hf ok.ao S.sv fun s1 k1 S1 => callWith_function (evalArgs_all hplain (hs pos s1 E _ (S.up (kups k1)) fun vs s2 a2 r2 xs => ⟨⟨(st_rk ok (S.up (kups k1)) r2).sv.kin _ _ ho, rfl⟩, ?_⟩)))
  have S2 := st_rk ok (S.up (kups k1)) r2
  have rr := (kups k1).rk (l := c.env :: c.outer) |>.trans r2
  refine wpAny_call (call_def ok lv S2 F D hlen xs (fun v s' d a r p x => ⟨((adv_of k1).trans a2).trans a, rr.trans r, d, p, x⟩) fun t s' e a z => ?_)
  exact ht t s' e (((adv_of k1).trans a2).trans a) (raz_pre rr z)

/-- an item of what a call gives -/
theorem callx_item {e i : Expr} {pos : Pos} {l : List D} {n : Int} {d : D} {k' : Bool} (ok : COk W c) (h1 : CallX W c cls ow σ e (· = .list l) False) (h2 : Ev W c.A c.env (oas ow) σ k' i (.int n)) (h0 : 0 ≤ n) (hf : n < 2 ^ 63) (hd : l[n.toNat]? = some d)
    (hs : ∀ o v, subscripted i false o v = operate [o, v] (getItem o v) := by intro _ _; rfl) : CallX W c cls ow σ (.Subscript e i pos) (· = d) False := fun s E S ht => by
  refine Subscript_ (callx_then ok h1 S (fun t => t.elim) fun u s1 d' a1 r1 S1 p x => ev_then h2 ok.ao S1.sv fun v s2 k2 S2 r2 => ?_)
  subst p
  obtain ⟨a, vs, rfl, _, hl, r⟩ := x.up (kups k2)
  obtain ⟨t, rfl⟩ := r2
  obtain ⟨y, hy, ry⟩ := r.get hd
  exact tail_any hl.typeIs slot_list_getitem.lookup (wpAny_getItem_list hl h0 hf (by simpa using hy) ⟨a1.trans (adv_of k2), r1.trans (kups k2).rk, d, rfl, ry⟩) (hs _ _)

theorem strong_of {ow : Ow} {h : Heap} {d : D} {v : Value} (x : Rd (fun _ => True) h d v) (hs : ow = none ∨ d.flat = true) : Rd (Kp (oas ow) true) h d v := by
  rcases hs with rfl | hs
  · exact x.mono (fun b _ _ q => by cases q) (Ups.refl _).seqs
  · exact x.flat hs

theorem boom_raz {s s' : Shared} {e : Addr} (S : St W c ow σ s.heap) (a : Adv s s') (z : Raz c.base (c.env :: c.outer) cls s.heap e s'.heap) : Boom W c cls s s' e := ⟨a, s.heap, ow, σ, S, .inr z⟩

/-- x = a call -/
theorem ex_assign_call {x : Str} {px pos : Pos} {e : Expr} {P : D → Prop} {rest : List Stmt} (ok : COk W c) (hx : StOk c x) (hy : ∀ y a, ow = some (y, a) → x ≠ y) (hst : ow = none ∨ ∀ d, P d → d.flat = true) (h : CallX W c cls ow σ e P T)
    (k : ∀ d, P d → Ex W c cls fx ow ((x, (true, d)) :: σ) rest Q T) (hs : swapsWith e (some (.Name x px)) pos.line c.env = pure false := by rfl) : Ex W c cls fx ow σ (.Assign [.Name x px] e pos :: rest) Q T := fun s E S F hp hb =>
  wpAny_execs_cons (wpAny_Assign_Name (callx_then ok h S (fun t s' x a z => hb t s' x (boom_raz S a z)) fun v s1 d a1 r1 S1 p rd => st_store ok S1 hx hy (strong_of rd (hst.imp id fun q => q d p)) fun h' tk S2 b2 _ _ _ _ =>
    ex_go (k d p) S2 (a1.trans ⟨h', tk, rfl⟩) (kx_trans (kx_rk ok S F r1) (kx_stb S1 (kx_rk ok S F r1).1 b2)) hp hb) hs)
theorem ex_return_call {e : Expr} {pos : Pos} {rest : List Stmt} {P : D → Prop} (ok : COk W c) (h : CallX W c cls ow σ e P T) (q : ∀ d, P d → Q (.ret false d) ow σ) : Ex W c cls fx ow σ (.Return (some e) pos :: rest) Q T := fun s E S F hp hb =>
  wpAny_execs_cons (wpAny_Return_some (callx_then ok h S (fun t s' x a z => hb t s' x (boom_raz S a z)) fun v s1 d a1 r1 S1 p rd => ⟨.ret false d, ow, σ, q d p, rd.mono (fun _ _ q => by cases q) (Ups.refl _).seqs, S1, a1, kx_rk ok S F r1⟩))
theorem ex_pair_call {x y : Str} {px py pt pos : Pos} {n : Nat} {e : Expr} {P : D → Prop} {rest : List Stmt} (ok : COk W c) (hx : StOk c x) (hy : StOk c y) (ho : ∀ z a, ow = some (z, a) → x ≠ z ∧ y ≠ z)
    (hst : ∀ d, P d → ∃ d1 d2, d = .tup [d1, d2] ∧ (ow = none ∨ (d1.flat = true ∧ d2.flat = true)) ∧ Ex W c cls fx ow ((y, (true, d2)) :: (x, (true, d1)) :: σ) rest Q T) (h : CallX W c cls ow σ e P T)
    (hs : swapsWithSole [.Tuple [.Name x px, .Name y py] n pt] e pos.line c.env = pure false := by rfl)
    (hw : swappedStores [.Tuple [.Name x px, .Name y py] n pt] e c.env = pure none := by rfl) : Ex W c cls fx ow σ (.Assign [.Tuple [.Name x px, .Name y py] n pt] e pos :: rest) Q T := fun s E S F hp hb =>
  wpAny_execs_cons (Assign_Tuple (callx_then ok h S (fun t s' x a z => hb t s' x (boom_raz S a z)) fun v s1 d a1 r1 S1 p rd => by
    obtain ⟨d1, d2, rfl, hf, k⟩ := hst d p
    obtain ⟨a, vs, rfl, _, ht, v0, r0, rfl, h1, v1, r1', rfl, h2, h3⟩ := rd
    obtain rfl := h3
    refine assign_Tuple_tuple ok.ao.hand ht rfl rfl fun h' he => ?_
    have up : Ups s1.heap h' := fun b o e => he b o (Nat.ne_of_lt (Heap.lt_size e)) e
    refine st_stores (s := { s1 with heap := h' }) ok (S1.up up) hx hy ho (strong_of (h1.up up) (hf.imp id (·.1))) (strong_of (h2.up up) (hf.imp id (·.2))) fun h2 tk S2 b2 => ?_
    have k1 := kx_rk ok S F r1
    exact ex_go k S2 (a1.trans ⟨h2, tk, rfl⟩) (kx_trans k1 (kx_stb S1 k1.1 (up.stb.trans b2))) hp hb) hs hw)

/-- an exception class of the program's own -/
def IsExc (W : Wd) (x : Str) (C : Addr) : Prop := nsIn W.K mainGlobals x = some (some (.ref C)) ∧ excIn W.K C [.type "Exception", .type "BaseException", .type "object"] "Exception.__new__" = true
theorem ex_raise {x : Str} {C : Addr} {np cpos pos : Pos} {e₀ : Expr} {rest : List Stmt} {d : D} {k1 : Bool} (ok : COk W c) (hc : IsExc W x C) (hcls : cls = .ref C) (he₀ : Ev W c.A c.env (oas ow) σ k1 e₀ d) (t : T)
    (hx : c.env.kindOf x = some .globalImplicit := by rfl) (he : starEach [e₀] c.env = [(false, eval e₀ c.env)] := by rfl) (hd : (x == ("__debug__" : Str)) = false := by decide) :
    Ex W c cls fx ow σ (.Raise (some (.Call (.Name x np) [e₀] [] cpos)) none pos :: rest) Q T := fun s E S F hp hb => by
  have TR := topRead_of S.sv.top
  have O : OwnCls x C [.type "Exception", .type "BaseException", .type "object"] "Exception.__new__" W.mg s.heap := own_of_in S.sv.kin TR hc.1 hc.2
  obtain ⟨tl, N, nm, q, bs, hdct, sn, sub, ab, col, dd, k0, k1', k2, k3, k5, mN, hC, hN, hni, TL⟩ := O.obj
  refine wpAny_execs_cons (wpAny_Raise_call_subT (C := C) (nm := nm) (q := q) (N := N) (bs := bs) (bm := tl) (hdct := hdct) (sn := sn) (sub := sub) (ab := ab) (col := col) (dd := dd) (k0 := k0) (k1 := k1') (k2 := k2) (k3 := k3) (k5 := k5)
    PySem.F.excBase_Exception (mN := mN) (TL.hasType PySem.F.excBase_Exception.hasBase) ok.ao.hand (by rw [he]; rfl) hni
    (Name_function_global S.sv.kind hx (loadGlobal_global (by rw [S.sv.glob]; exact TR.g) O.bound ⟨rfl, ?_⟩) hd))
  rw [he]
  refine evalArgs_plain (spliced_cons (ev_then he₀ ok.ao S.sv fun v s1 k1 S1 r1 => spliced_nil ⟨rfl, (show 1 ≤ sizeLine by decide), kups k1 _ _ hC, hN.keeps (kups k1), TL.keeps (kups k1), fun h' e hx' => ?_⟩))
  subst hcls
  exact hb t _ e ⟨(adv_of k1).trans ⟨h', s1.toks, rfl⟩, s1.heap, ow, σ, S.up (kups k1), .inl ⟨_, hx'⟩⟩

/-- while -/
theorem ex_while {test : Expr} {body rest : List Stmt} {pos : Pos} (ok : COk W c) (Inv : Nat → Sg → Prop) (n : Nat) (h0 : Inv n σ) (ht : ∀ n τ, Inv n τ → Tst W c.A c.env (oas ow) τ test (decide (0 < n)))
    (step : ∀ n τ, Inv (n + 1) τ → Ex W c cls fx ow τ body (Turn ow (Inv n) Q) T) (fin : ∀ τ, Inv 0 τ → Ex W c cls fx ow τ rest Q T) : Ex W c cls fx ow σ (.While test body [] pos :: rest) Q T := fun s E S F hp hb => by
  refine wpAny_execs_cons (wpAny_While (codeAny_whileLoop (fun n s' => ∃ τ, Inv n τ ∧ St W c ow τ s'.heap ∧ Adv s s' ∧ Kx fx ow s.heap s'.heap) ?_ n ⟨σ, h0, S, Adv.refl s, kx_refl F⟩))
  rintro n s' ⟨τ, hI, S', a', kx'⟩
  refine wpAny_passesOwn hp (tst_then (ht n τ hI) ok.ao S'.sv fun s1 k1 S1 => ?_)
  have St1 := S'.up (kups k1)
  have kx1 := kx_trans kx' (kx_stb S' kx'.1 (kups k1).stb)
  have a1 := a'.trans (adv_of k1)
  cases n with
  | zero => exact wpAny_execs_nil (ex_go (fin τ hI) St1 a1 kx1 hp hb)
  | succ n =>
    show wpAny _ c.A (execs body c.env) _ _ s1
    refine wpAny_passesOwn hp (wpAny_mono (ex_go (s := s) (step n τ hI) St1 a1 kx1 hp hb) (fun f s3 g => ?_) fun _ _ x => x)
    obtain ⟨fl, ow', σ3, q, fr, S3, a3, kx3⟩ := g
    cases fl with
    | next =>
      cases f <;> first | exact fr.elim | skip
      obtain ⟨rfl, q⟩ := q
      exact ⟨n, Nat.lt_succ_self n, σ3, q, S3, a3, kx3⟩
    | cont =>
      cases f <;> first | exact fr.elim | skip
      obtain ⟨rfl, q⟩ := q
      exact ⟨n, Nat.lt_succ_self n, σ3, q, S3, a3, kx3⟩
    | brk => exact q.elim
    | ret k d =>
      cases f <;> first | exact fr.elim | skip
      exact ⟨.ret k d, ow', σ3, q, fr, S3, a3, kx3⟩

/-- y[i] = e -/
theorem ex_item {y : Str} {a : Addr} {ty spos pos : Pos} {i e : Expr} {l : List D} {n : Int} {d : D} {k1 k2 : Bool} {rest : List Stmt} (ok : COk W c) (hl : σ.lookup y = some (false, .list l)) (hlf : ∀ e ∈ l, e.flat = true) (hf : d.flat = true)
    (he : Ev W c.A c.env [a] σ k1 e d) (hi : Ev W c.A c.env [a] σ k2 i (.int n)) (h0 : 0 ≤ n) (hn : n < l.length) (hfit : n < 2 ^ 63) (hfa : ¬ fx a)
    (k : Ex W c cls fx (some (y, a)) ((y, (false, .list (l.set n.toNat d))) :: σ) rest Q T) (hs : swapsWith e (some (.Subscript (.Name y ty) i spos)) pos.line c.env = pure false := by rfl)
    (hd : (y == ("__debug__" : Str)) = false := by decide) (hc : (y == ("__classdict__" : Str)) = false := by decide) : Ex W c cls fx (some (y, a)) σ (.Assign [.Subscript (.Name y ty) i spos] e pos :: rest) Q T := fun s E S F hp hb => by
  refine wpAny_execs_cons (wpAny_Assign_Subscript (ev_then he ok.ao S.sv fun v s1 k1 S1 r1 => ?_) hs)
  have St1 := S.up (kups k1)
  refine wpAny_Name (loadName_loc S.sv.kind (St1.own y a rfl).2.1 ?_ hc) hd
  refine ev_then hi ok.ao S1 fun iv s2 k2 S2 r2 => ?_
  obtain ⟨t, rfl⟩ := r2
  have St2 := St1.up (kups k2)
  refine st_item (d := d) ok St2 hl h0 hn hfit (r1.flat hf) hf hlf fun h' S4 b4 => ?_
  exact ex_go k S4 (((adv_of k1).trans (adv_of k2)).trans ⟨h', s2.toks, rfl⟩) (kx_stbA S F ((kups k1).stb.trans ((kups k2).stb.trans b4)) fun b hb => by rw [List.mem_singleton.mp hb]; exact hfa) hp hb

/-- the list is changed no more -/
def Sg.firm (σ : Sg) : Sg := σ.map fun p => (p.1, (true, p.2.2))
theorem firm_lookup : ∀ {σ : Sg} {x : Str} {k : Bool} {d : D}, σ.firm.lookup x = some (k, d) → k = true ∧ ∃ k', σ.lookup x = some (k', d)
  | p :: σ, x, k, d, e => by
    have e' : ((p.1, (true, p.2.2)) :: Sg.firm σ).lookup x = some (k, d) := e
    rw [List.lookup_cons] at e' ⊢
    split at e'
    · cases e'; exact ⟨rfl, p.2.1, rfl⟩
    · exact firm_lookup e'
  | [], x, k, d, e => by cases e
theorem ex_firm {y : Str} {a : Addr} {ss : List Stmt} (k : Ex W c cls fx none σ.firm ss Q T) : Ex W c cls fx (some (y, a)) σ ss Q T := fun s E S F hp hb => by
  refine k s E ⟨⟨S.sv.kin, S.sv.top, fun x kk d e => ?_, (fun a h => nomatch h), S.sv.kind, S.sv.glob, S.sv.blt⟩, S.keep, S.frame, S.newL, S.cells, S.apart, (fun y a e => nomatch e), fun _ z d e => ?_⟩ F hp hb
  · obtain ⟨rfl, k', e'⟩ := firm_lookup e
    obtain ⟨v, l, r⟩ := S.sv.vars x k' d e'
    exact ⟨v, l, r.mono (fun b _ _ q => nomatch q) (Ups.refl _).seqs⟩
  · have := (firm_lookup e).1
    cases this
end
end Jg
end PartJg12

noncomputable section PartJg13
open PySem PySem.W PySem.Calls PyProof.Rows
namespace Jg

section
variable {W : Wd} {c : Cx} {cls : Value} {fx : Addr → Prop} {ow : Ow} {σ : Sg} {Q : Post} {T : Prop}

/-- statements whose exceptions all come from below -/
def ExR (W : Wd) (c : Cx) (cls : Value) (fx : Addr → Prop) (σ : Sg) (ss : List Stmt) (R : Sg → Prop) (T : Prop) : Prop := ∀ s E, St W c none σ s.heap → Fx fx none s.heap →
  (T → ∀ s' x, Adv s s' → Raz c.base (c.env :: c.outer) cls s.heap x s'.heap → E (.ref x) s') → wpAny W.M c.A (execs ss c.env) (fun f s' => f = .next ∧ ∃ σ', R σ' ∧ St W c none σ' s'.heap ∧ Adv s s' ∧ Kx fx none s.heap s'.heap) E s
theorem exr_assign {x : Str} {px pos : Pos} {e : Expr} {P : D → Prop} {R : Sg → Prop} (ok : COk W c) (hx : StOk c x) (h : CallX W c cls none σ e P T) (k : ∀ d, P d → R ((x, (true, d)) :: σ))
    (hs : swapsWith e (some (.Name x px)) pos.line c.env = pure false := by rfl) : ExR W c cls fx σ [.Assign [.Name x px] e pos] R T := fun s E S F ht =>
  wpAny_execs_cons (wpAny_Assign_Name (callx_then ok h S ht fun v s1 d a1 r1 S1 p rd => st_store ok S1 hx (fun y a q => nomatch q) (strong_of rd (.inl rfl)) fun h' tk S2 b2 _ _ _ _ =>
    wpAny_execs_nil ⟨rfl, _, k d p, S2, a1.trans ⟨h', tk, rfl⟩, kx_trans (kx_rk ok S F r1) (kx_stb S1 (kx_rk ok S F r1).1 b2)⟩) hs)
theorem exr_if {t : Expr} {body orelse : List Stmt} {pos : Pos} {b : Bool} {R : Sg → Prop} (ok : COk W c) (h : Tst W c.A c.env [] σ t b) (k : ExR W c cls fx σ (if b then body else orelse) R T) : ExR W c cls fx σ [.If t body orelse pos] R T := fun s E S F ht =>
  wpAny_execs_cons (wpAny_If (tst_then h ok.ao S.sv fun s1 k1 S1 => by
    have S1' := S.up (kups k1)
    have kx := kx_stb S F (kups k1).stb
    have go := k s1 E S1' kx.1 fun t s' x a z => ht t s' x ((adv_of k1).trans a) (raz_pre (kups k1).rk z)
    have go' : wpAny W.M c.A (execs (if b then body else orelse) c.env) (fun f s₁ => match f with | .next => wpAny W.M c.A (execs [] c.env) (fun f s' => f = .next ∧ ∃ σ', R σ' ∧ St W c none σ' s'.heap ∧ Adv s s' ∧ Kx fx none s.heap s'.heap) E s₁ | f => f = .next ∧ ∃ σ', R σ' ∧ St W c none σ' s₁.heap ∧ Adv s s₁ ∧ Kx fx none s.heap s₁.heap) E s1 := by
      refine wpAny_mono go (fun f s' g => ?_) fun _ _ x => x
      obtain ⟨rfl, σ', r, S', a', kx'⟩ := g
      exact wpAny_execs_nil ⟨rfl, σ', r, S', (adv_of k1).trans a', kx_trans kx kx'⟩
    cases b with
    | true => exact go'
    | false => exact go'))

/-- try: .. except X: y = '..' -/
theorem ex_try {T' : Prop} {X y : Str} {C : Addr} {np py cp ap hp' pos : Pos} {n : Nat} {lit : Str} {body rest : List Stmt} (ok : COk W c) (hy : StOk c y) (hc : IsExc W X C) (hb : ExR W c (.ref C) fx σ body (fun σ' => Ex W c (.ref C) fx none σ' rest Q T) T')
    (hk : T' → Ex W c (.ref C) fx none ((y, (true, .str lit)) :: σ) rest Q T) (hx : c.env.kindOf X = some .globalImplicit := by rfl) (hd : (X == ("__debug__" : Str)) = false := by decide)
    (hs : swapsWith (.Constant (.str lit) n cp) (some (.Name y py)) ap.line c.env = pure false := by rfl) :
    Ex W c (.ref C) fx none σ (.Try body [.ExceptHandler (some (.Name X np)) none [.Assign [.Name y py] (.Constant (.str lit) n cp) ap] hp'] [] [] pos :: rest) Q T := fun s E S F hp hbo => by
  refine wpAny_execs_cons (wpAny_Try_except (wpAny_mono (hb s _ S F fun t s' e a z => ?_) (fun f s' g => ?_) fun _ _ x => x))
  · -- the exception comes
    obtain ⟨⟨B, a0, hB, hl, hfl⟩, hup⟩ := z
    have hfr : c.A.frames = some (c.env :: c.outer) := Around.frames_deeper ok.bw.stack
    refine wpAny_looks_onW hfr ok.fr hfl fun h₄ hheld₄ hsm₄ => ?_
    refine wpAny_landsW hheld₄ fun h₅ hheld hsm₅' => ?_
    have z5 : Raz c.base (c.env :: c.outer) (.ref C) s.heap e h₅ := ⟨⟨B, a0, hB, hl, hheld⟩, hup.trans (hsm₄.trans hsm₅')⟩
    have S5 : St W c none σ h₅ := st_rk ok S (raz_rk z5 (frame_ns ok S))
    obtain ⟨ob, hob, hobc⟩ := hheld.there
    have TR := topRead_of S5.sv.top
    have O : OwnCls X C [.type "Exception", .type "BaseException", .type "object"] "Exception.__new__" W.mg h₅ := own_of_in S5.sv.kin TR hc.1 hc.2
    refine wpAny_handleBy_cons (codeAny_handlers_test (Name_function_global S5.sv.kind hx (loadGlobal_global (by rw [S5.sv.glob]; exact TR.g) O.bound ?_) hd)) (by intro q; cases q)
    obtain ⟨tl, N, nm, q, bs, hdct, sn, sub, ab, col, dd, k0, k1', k2, k3, k5, mN, hC, hN, hni, TL⟩ := O.obj
    refine wpAny_excMatches_sub_self hC hob hobc (TL.hasType PySem.F.excBase_Exception.hasBase) (codeAny_handlers_suite ?_)
    refine lands_againW hheld fun h₆ hfl₆ hsm₆ => ?_
    have z6 : Raz c.base (c.env :: c.outer) (.ref C) s.heap e h₆ := ⟨⟨B, a0, hB, hl, hfl₆⟩, (hup.trans (hsm₄.trans hsm₅')).trans hsm₆⟩
    have r6 := raz_rk z6 (frame_ns ok S)
    have S6 : St W c none σ h₆ := st_rk ok S r6
    have kx6 := kx_rk ok S F r6
    refine wpAny_execs_cons (wpAny_Assign_Name (wpAny_Constant_str (st_store (d := .str lit) (s := { s' with heap := h₆, toks := s'.toks + 1 }) ok S6 hy (fun y a q => nomatch q) ⟨_, rfl⟩ fun h7 tk S7 b7 _ _ _ _ => ?_)) hs)
    refine wpAny_execs_nil ?_
    exact ex_go (hk t) S7 (a.trans ⟨h7, tk, rfl⟩) (kx_trans kx6 (kx_stb S6 kx6.1 b7)) hp hbo
  · obtain ⟨rfl, σ', r, S', a', kx'⟩ := g
    exact wpAny_execs_nil (ex_go r S' a' kx' hp hbo)
end
end Jg
end PartJg13

noncomputable section PartJg14
open PySem PySem.W PySem.Calls PyProof.Rows
namespace Jg

section
variable {prog : Program} {w : World} {A : Around} {E : Value → Shared → Prop} {R : Result → Shared → Prop} {s : Shared}
/-- a clause of a comprehension, begun over a list's iterator -/
theorem start_at {elt t2 i2 : Expr} {ifs : List Expr} {gs : List Comprehension} {scope : Scope} {pos : Pos} {n : Nat} {I a : Addr} {acc : Value} {env : Env} (he : gs[n]? = some ⟨t2, i2, ifs, 0⟩) (hit : s.heap.IsListIter I a 0)
    (loop : codeAny (model prog w) A (.compLoop (.ListComp elt gs scope pos) n (.ref I) acc env) R s) : codeAny (model prog w) A (.compStart (.ListComp elt gs scope pos) n (.ref I) acc env) R s := by
  refine codeAny_of_tree ?_
  show wpAny _ _ (Sem.onRaise (compStart (.ListComp elt gs scope pos) n (.ref I) acc env) _) _ _ s
  refine wpAny_notedAt ?_
  unfold compStart
  rw [show (clausesOf (.ListComp elt gs scope pos))[n]? = _ from he]
  refine wpAny_ite (wpAny_bind (wpAny_askSetting (wpAny_ite ?_)))
  split
  · exact wpAny_pure (And.intro rfl loop)
  refine wpAny_bind (wpAny_rule ?_)
  show wpAny _ _ (standAt i2.pos >>= fun _ => pyIter (.ref I) >>= _) _ _ s
  exact wpAny_bind (wpAny_standAt (wpAny_bind (wpAny_pyIter_listiter hit (wpAny_pure (And.intro rfl loop)))))

/-- the inner clause: all of the list goes to the end of the other one -/
theorem inner_loop {e1 : Comprehension} {py py' pl : Pos} {x y : Str} {scope : Scope} {pos : Pos} {cenv : Env} {I a D' : Addr} {ys vs : List Value} (hh : A.handled = none) (hk : cenv.scope.kind = .function) (hy : cenv.kindOf y = some .local)
    (hit : s.heap.IsListIter I a 0) (hl : s.heap.IsList a vs.toArray) (hD : s.heap.PlainList D' ys.toArray) (hC : ∃ m, s.heap.Ns cenv.locals m) (haI : a ≠ I) (haD : a ≠ D') (hID : I ≠ D') (hsz : ys.length + vs.length ≤ 10000000)
    (hR : ∀ h' tk, h'.PlainList D' (ys ++ vs).toArray → (∃ m, h'.Ns cenv.locals m) → (∀ b o, b ≠ I → b ≠ D' → b ≠ cenv.locals → s.heap.get? b = some o → h'.get? b = some o) → R (.ok .next) { s with heap := h', toks := tk })
    (hd : (y == ("__debug__" : Str)) = false) (hn : (y == ("__classdict__" : Str)) = false) :
    codeAny (model prog w) A (.compStart (.ListComp (.Name y py) [e1, ⟨.Name y py', .Name x pl, [], 0⟩] scope pos) 1 (.ref I) (.ref D') cenv) R s := by
  have neL : ∀ {h : Heap} {b : Addr} {o : Obj}, (∃ m, h.Ns cenv.locals m) → h.get? b = some o → (∀ es n, o.data ≠ .dict es n) → b ≠ cenv.locals := fun ⟨m, o', es, ep, ho, hd, _⟩ e n q => by
    subst q; rw [e] at ho; cases ho; exact n _ _ hd
  have hIL : I ≠ cenv.locals := by
    obtain ⟨o, ho, _, hd'⟩ := hit
    exact neL hC ho fun _ _ q => by rw [hd'] at q; cases q
  have haL : a ≠ cenv.locals := by
    obtain ⟨o, ho, _, _, hd'⟩ := hl
    exact neL hC ho fun _ _ q => by rw [hd'] at q; cases q
  have hDL : D' ≠ cenv.locals := by
    obtain ⟨c, ho⟩ := hD
    exact neL hC ho fun _ _ q => by cases q
  have loop : codeAny (model prog w) A (.compLoop (.ListComp (.Name y py) [e1, ⟨.Name y py', .Name x pl, [], 0⟩] scope pos) 1 (.ref I) (.ref D') cenv) R s := by
    refine codeAny_loop rfl (fun n s' => ∃ i h' tk, s' = { s with heap := h', toks := tk } ∧ i ≤ vs.length ∧ n = vs.length + 1 - i ∧ h'.IsListIter I a i ∧ h'.IsList a vs.toArray ∧ h'.PlainList D' (ys ++ vs.take i).toArray ∧ (∃ m, h'.Ns cenv.locals m) ∧
      (∀ b o, b ≠ I → b ≠ D' → b ≠ cenv.locals → s.heap.get? b = some o → h'.get? b = some o)) (fun n s' hI => ?_) (vs.length + 1) ⟨0, s.heap, s.toks, rfl, Nat.zero_le _, rfl, hit, hl, by simpa using hD, hC, fun _ _ _ _ _ e => e⟩
    obtain ⟨i, h', tk, rfl, hi, rfl, hit', hl', hD', ⟨m, hm⟩, hko⟩ := hI
    show wpAny _ A ((compTurn (.ListComp (.Name y py) [e1, ⟨.Name y py', .Name x pl, [], 0⟩] scope pos) 1 (.ref I) (.ref D') cenv).onRaise (fun x => do noteFrame x cenv; theTreesLotGoes x)) _ _ _
    refine wpAny_noted ?_
    refine wpAny_bind (wpAny_standAt (wpAny_bind ?_))
    by_cases hlt : i < vs.length
    · have hv : vs.toArray[i]? = some vs[i] := by simp [hlt]
      refine wpAny_pyNext_list_item hit' hl' hv fun h1 hit1 hs1 => ?_
      have hs1' : Heap.SameBut I h' h1 := hs1
      refine wpAny_bind (wpAny_pure (wpAny_bind (wpAny_assign_Name (wpAny_storeName_local hy (hm.sameBut hs1' hIL.symm) (fun h2 hn2 hs2 => ?_) (by show (cenv.scope.kind == .class || (cenv.scope.kind == .module && _)) = false; rw [hk]; rfl)))))
      have hs2' : Heap.SameBut cenv.locals h1 h2 := hs2
      show wpAny _ A ((eval (.Name y py) cenv >>= _) >>= _) _ _ _
      refine wpAny_bind (wpAny_bind (wpAny_Name (loadName_loc (v := vs[i]) hk (.inl ⟨hy, _, hn2, if_pos rfl⟩) ?_ hn) hd))
      refine wpAny_bind ?_
      have hD2 : h2.PlainList D' (ys ++ vs.take i).toArray := (hD'.extBut hs1'.extBut hID.symm).extBut hs2'.extBut hDL
      refine wpAny_list_append_plain (s := { s with heap := h2, toks := _ }) hD2 (fun h3 hl3 hs3 => ?_) (by rw [List.size_toArray, sizeLine_eq, List.length_append, List.length_take]; omega)
      have hs3' : Heap.SameBut D' h2 h3 := hs3
      refine wpAny_pure (wpAny_pure ⟨rfl, vs.length + 1 - (i + 1), by omega, i + 1, h3, _, rfl, hlt, rfl, ?_, ?_, ?_, ?_, ?_⟩)
      · exact (hit1.extBut hs2'.extBut hIL).extBut hs3'.extBut hID
      · exact ((hl'.extBut hs1'.extBut haI).extBut hs2'.extBut haL).extBut hs3'.extBut haD
      · have : (ys ++ vs.take (i + 1)).toArray = (ys ++ vs.take i).toArray.push vs[i] := by
          rw [List.take_add_one]; simp [hlt]
        rw [this]; exact hl3
      · exact ⟨_, hn2.sameBut hs3' hDL.symm⟩
      · exact fun b o h1 h2 h3 e => (hs3'.2 b h2).trans ((hs2'.2 b h3).trans ((hs1'.2 b h1).trans (hko b o h1 h2 h3 e)))
    · obtain rfl : i = vs.length := by omega
      refine wpAny_pyNext_list_end hh hit' hl' (by simp) fun h1 he1 => ?_
      refine wpAny_pure ?_
      have he1' : Heap.ExtBut I h' h1 := he1
      refine hR h1 _ ?_ ⟨m, hm.extBut he1' hIL.symm⟩ fun b o h1 h2 h3 e => he1' b o h1 (hko b o h1 h2 h3 e)
      rw [List.take_length] at hD'
      exact hD'.extBut he1' hID.symm
  exact start_at rfl hit loop
end

theorem flat_take {ls : List (List Int)} {i : Nat} (h : i < ls.length) : (ls.take (i + 1)).flatten = (ls.take i).flatten ++ ls[i] := by
  rw [List.take_add_one, List.flatten_append, List.getElem?_eq_getElem h, Option.toList_some, List.flatten_cons, List.flatten_nil, List.append_nil]
theorem flat_take_le (ls : List (List Int)) (i : Nat) : (ls.take i).flatten.length ≤ ls.flatten.length := by
  conv => rhs; rw [← List.take_append_drop i ls]
  rw [List.flatten_append, List.length_append]; omega

section
variable {W : Wd} {A : Around} {env : Env} {oa : List Addr} {σ : Sg} {scope : Scope} {cl : List (Str × Addr)} {x y : Str}
/-- [y for x in iter for y in x] over lists of ints -/
theorem evN_flat {iter : Expr} {px py py' pl pos : Pos} {ls : List (List Int)} (hsrc : Src W A env oa σ [] iter (ls.map fun l => D.list (l.map .int))) (hsz : ls.flatten.length ≤ 10000000)
    (hs : ∀ v, foldedSetIterable iter env v = pure v) (hclos : closureFor scope env = pure cl) (hkind : scope.kind = .function) (hnames : ∀ x ∈ scope.names, x.2 = .local → scope.names.lookup x.1 = some .local)
    (h1 : ∀ n, cellsFrom n scope.names cl = cl) (h2 : ∀ h, pushCells h scope.names = h) (hx : ∀ C, (compEnvC scope cl C env).kindOf x = some .local) (hy : ∀ C, (compEnvC scope cl C env).kindOf y = some .local)
    (hdx : (x == ("__debug__" : Str)) = false := by decide) (hnx : (x == ("__classdict__" : Str)) = false := by decide) (hdy : (y == ("__debug__" : Str)) = false := by decide) (hny : (y == ("__classdict__" : Str)) = false := by decide) :
    EvN W A env oa σ (.ListComp (.Name y py) [⟨.Name x px, iter, [], 0⟩, ⟨.Name y py', .Name x pl, [], 0⟩] scope pos) (ls.flatten.map .int) := fun ao s E S => by
  rw [eval_ListComp]
  refine wpAny_comprehension_free rfl hs hclos hkind hnames (hsrc ao s E _ S fun I s₂ K₂ S₂ hw => ?_)
  obtain ⟨fp, wr, P, St, Wl, hst, hfp, hwr, hwq, hwe, _, _, hrd⟩ := hw
  rw [List.length_map] at Wl
  refine wpAny_newObj_type ?_
  generalize hH2 : s₂.heap.push { cls := .type "list", dict := none, data := .seq ([] : List Value).toArray } = H2
  obtain ⟨D', hDn⟩ : ∃ D', D' = s₂.heap.objs.size := ⟨_, rfl⟩
  obtain ⟨C, hCn⟩ : ∃ C, C = H2.objs.size := ⟨_, rfl⟩
  have hC : C = D' + 1 := by rw [hCn, hDn, ← hH2, Heap.size_push]
  have U2 : Ups s₂.heap H2 := hH2 ▸ Ups.push _ _
  have hDl : H2.PlainList D' #[] := hH2 ▸ hDn ▸ ⟨0, Heap.get?_push_size _ rfl⟩
  refine newEnv_comp ?_
  rw [h2]
  generalize hh : H2.push { cls := .type "dict", data := .dict #[] } = H3
  rw [← hDn]
  show codeAny W.M A (.compStart (.ListComp (.Name y py) [⟨.Name x px, iter, [], 0⟩, ⟨.Name y py', .Name x pl, [], 0⟩] scope pos) 0 (.ref I) (.ref D') (compEnvC scope (cellsFrom (H2.objs.size + 1) scope.names cl) H2.objs.size env)) (compPost W.M A E none _ (.ref D') H2.objs.size) { s₂ with heap := H3 }
  rw [← hCn, h1]
  have U3 : Ups H2 H3 := hh ▸ Ups.push _ _
  have hns0 : ∃ m, H3.Ns C m := ⟨_, hh ▸ hCn.symm ▸ Heap.Ns.new H2 (.type "dict")⟩
  have hD0 : s₂.heap.get? D' = none := lt_none (Nat.le_of_eq hDn.symm)
  have hC0 : s₂.heap.get? C = none := lt_none (by omega)
  have hDC : D' ≠ C := by omega
  have hfpD : ∀ b ∈ fp, b ≠ D' ∧ b ≠ C ∧ b ≠ C + 1 := fun b hb => by
    obtain ⟨o, ho, _⟩ := hfp b hb
    exact lt3 (Heap.lt_size ho) hDn hC
  have hDw : D' ∉ wr := fun hb => (hfpD _ (Wl.sub _ hb)).1 rfl
  have hCw : C ∉ wr := fun hb => (hfpD _ (Wl.sub _ hb)).2.1 rfl
  have hsw : ∀ b o, s.heap.get? b = some o → b ∉ wr := fun b o e hb => by rw [hwr b hb] at e; cases e
  have hsC : ∀ b o, s.heap.get? b = some o → b ≠ D' ∧ b ≠ C ∧ b ≠ C + 1 := fun b o e => lt3 (Heap.lt_size (kups K₂ _ _ e)) hDn hC
  have hkx := hx C
  have hky := hy C
  generalize hce : compEnvC scope cl C env = cenv at hkx hky
  have hcl : cenv.locals = C := by rw [← hce]; rfl
  have hck : cenv.scope.kind = .function := by rw [← hce]; exact hkind
  have loop : ∀ s₄ : Shared, s₄ = { s₂ with heap := H3 } → codeAny W.M A (.compLoop (.ListComp (.Name y py) [⟨.Name x px, iter, [], 0⟩, ⟨.Name y py', .Name x pl, [], 0⟩] scope pos) 0 (.ref I) (.ref D') cenv) (compPost W.M A E none (fun v s' => Keeps s s' ∧ NewL oa s s' (ls.flatten.map .int) v) (.ref D') C) s₄ := by
    rintro s₄ rfl
    refine codeAny_loop rfl (fun kk s' => ∃ i h' tk ys, s' = { s₂ with heap := h', toks := tk } ∧ i ≤ ls.length ∧ kk = ls.length + 1 - i ∧ St i h' ∧ Ups s.heap h' ∧ Seqs (fun b => b ∉ D' :: wr) s₂.heap h' ∧ h'.PlainList D' (List.toArray ys) ∧ (∃ m, h'.Ns C m) ∧ IntsAre ys (ls.take i).flatten) (fun kk s' hI => ?_) (ls.length + 1)
      ⟨0, H3, s₂.toks, [], rfl, Nat.zero_le _, rfl, Wl.frame _ _ _ hst (fun b _ o e => U3 _ _ (U2 _ _ e)), ((kups K₂).trans U2).trans U3, (U2.trans U3).seqs, hDl.at fun o e => U3 _ _ e, hns0, by simpa using IntsAre.nil⟩
    obtain ⟨i, h', tk, ys, rfl, hi, rfl, hst', hU, hSq, hDl', ⟨m, hm⟩, hys⟩ := hI
    show wpAny _ A ((compTurn (.ListComp (.Name y py) [⟨.Name x px, iter, [], 0⟩, ⟨.Name y py', .Name x pl, [], 0⟩] scope pos) 0 (.ref I) (.ref D') cenv).onRaise (fun x => do noteFrame x cenv; theTreesLotGoes x)) _ _ _
    refine wpAny_noted ?_
    refine wpAny_bind (wpAny_standAt (wpAny_bind ?_))
    have hkw : ∀ {h₁ : Heap}, (∀ b o, b ∉ wr → h'.get? b = some o → h₁.get? b = some o) → Ups s.heap h₁ ∧ Seqs (fun b => b ∉ D' :: wr) h' h₁ := fun hk => ⟨fun b o e => hk b o (hsw b o e) (hU b o e), fun b o xs n hb e _ => hk b o (fun hm => hb (List.mem_cons_of_mem _ hm)) e⟩
    by_cases hlt : i < ls.length
    · refine Wl.item i _ _ _ hlt hst' fun v g1 tk₁ hPv hst₁ hk₁ => ?_
      obtain ⟨hU1, hS1⟩ := hkw hk₁
      have hd : (ls.map fun l => D.list (l.map .int))[i]? = some (.list (ls[i].map .int)) := by simp [hlt]
      obtain ⟨a, vs, rfl, hka, hla, hra⟩ := hrd i v _ hPv hd
      have hD1 : g1.PlainList D' (List.toArray ys) := hDl'.at fun o e => hk₁ _ o hDw e
      have hn1 : g1.Ns C m := hm.at' fun o e => hk₁ _ o hCw e
      have hawr : a ∉ D' :: wr := fun hm' => by
        obtain ⟨o, ho, _, n, hd'⟩ := hla
        rcases List.mem_cons.mp hm' with rfl | hm'
        · rw [hD0] at ho; cases ho
        · exact hwq a hm' o _ n ho hd'
      have hla1 : g1.IsList a vs.toArray := by
        obtain ⟨o, ho, hc, n, hd'⟩ := hla
        exact ⟨o, hS1 a o _ n hawr (hSq a o _ n hawr ho hd') hd', hc, n, hd'⟩
      refine wpAny_bind (wpAny_pure (wpAny_bind (wpAny_assign_Name (wpAny_storeName_local hkx (hcl ▸ hn1) (fun g2 hn2 hs2 => ?_) (by show (cenv.scope.kind == .class || (cenv.scope.kind == .module && _)) = false; rw [hck]; rfl)))))
      have hs2' : Heap.SameBut C g1 g2 := hcl ▸ hs2
      have hn2' : ∃ m, g2.Ns C m := ⟨_, hcl ▸ hn2⟩
      show wpAny _ A (eval (.Name x pl) cenv >>= _) _ _ _
      refine wpAny_bind (wpAny_Name (loadName_loc (v := .ref a) hck (.inl ⟨hkx, _, hn2, if_pos rfl⟩) ?_ hnx) hdx)
      have hla2 : g2.IsList a vs.toArray := list_same hla1 hs2' (list_ne hla1 hn1)
      refine wpAny_bind (wpAny_standAt (wpAny_bind (wpAny_of_eq (a := Value.ref a) rfl ?_)))
      refine wpAny_bind (wpAny_holding (wpAny_pyIter_list hla2 ?_))
      have hD2 : g2.PlainList D' (List.toArray ys) := hD1.extBut hs2'.extBut hDC
      have hltD : D' < g2.objs.size := by obtain ⟨c, e⟩ := hD2; exact Heap.lt_size e
      have hlta : a < g2.objs.size := by obtain ⟨o, e, _⟩ := hla2; exact Heap.lt_size e
      obtain ⟨J, hJ⟩ : ∃ J, J = g2.objs.size := ⟨_, rfl⟩
      generalize hg3 : g2.push { cls := .type "list_iterator", data := .fields #[.ref a, .int 0 0] } = g3
      have U23 : Ups g2 g3 := hg3 ▸ Ups.push _ _
      show wpAny _ A (runOwn (.compStart _ 1 (.ref g2.objs.size) (.ref D') cenv) cenv >>= _) _ _ { s₂ with heap := g3, toks := _ }
      rw [← hJ]
      have hitJ : g3.IsListIter J a 0 := ⟨_, hJ ▸ hg3 ▸ Heap.get?_push_size _ rfl, rfl, rfl⟩
      have hlen : ys.length + vs.length ≤ 10000000 := by
        have e1 := hys.length
        have e2 := hra.length
        have e3 := flat_take_le ls (i + 1)
        rw [flat_take hlt, List.length_append] at e3
        rw [List.length_map] at e2
        omega
      refine wpAny_bind (wpAny_runOwn (inner_loop (prog := W.prog) (w := W.w) ao.hand hck hky hitJ ?_ ?_ ?_ ?_ ?_ ?_ hlen (fun g4 tk4 hD4 hC4 hk4 => ?_) hdy hny))
      · obtain ⟨o, ho, r⟩ := hla2; exact ⟨o, U23 _ _ ho, r⟩
      · exact hD2.at fun o e => U23 _ _ e
      · obtain ⟨m2, e2⟩ := hn2'; exact ⟨m2, hcl ▸ e2.keeps U23⟩
      · exact fun q => by rw [q, hJ] at hlta; exact Nat.lt_irrefl _ hlta
      · exact fun q => hawr (q ▸ List.mem_cons_self)
      · exact fun q => by rw [← q, hJ] at hltD; exact Nat.lt_irrefl _ hltD
      · have hold : ∀ b o, b ≠ D' → b ≠ C → g2.get? b = some o → g4.get? b = some o := fun b o n1 n2 e => hk4 b o (fun q => by rw [q, hJ] at e; rw [size_none] at e; cases e) n1 (hcl ▸ n2) (U23 _ _ e)
        have hold1 : ∀ b o, b ≠ D' → b ≠ C → g1.get? b = some o → g4.get? b = some o := fun b o n1 n2 e => hold b o n1 n2 ((hs2'.2 b n2).trans e)
        refine wpAny_pure ⟨rfl, ls.length + 1 - (i + 1), by omega, i + 1, g4, tk4, ys ++ vs, rfl, hlt, rfl, Wl.frame _ _ _ hst₁ (fun b hb o e => hold1 b o (hfpD b hb).1 (hfpD b hb).2.1 e), fun b o e => hold1 b o (hsC b o e).1 (hsC b o e).2.1 (hU1 b o e), ?_, hD4, hcl ▸ hC4, ?_⟩
        · intro b o xs n hb e hd'
          have e1 := hS1 b o xs n hb (hSq b o xs n hb e hd') hd'
          refine hold1 b o (fun q => hb (q ▸ List.mem_cons_self)) (fun q => ?_) e1
          rw [q, hC0] at e; cases e
        · rw [flat_take hlt]
          exact IntsAre.append hys hra.ints
    · obtain rfl : i = ls.length := by omega
      refine Wl.done _ _ _ hst' fun g1 tk₁ hk₁ => ?_
      obtain ⟨hU1, hS1⟩ := hkw hk₁
      rw [List.take_length] at hys
      have hn1 : g1.Ns C m := hm.at' fun o e => hk₁ _ o hCw e
      refine wpAny_pure ⟨m, hn1, fun h'' hs'' => left_new (oa := oa) (l := ls.flatten.map .int) (v := .ref D') (C := C) ?_ ⟨⟨D', ys, rfl, fresh_of K₂ hD0, hDC, hDl'.at fun o e => hk₁ _ o hDw e, Rds.of_ints hys⟩, fresh_of K₂ hC0, ⟨m, hn1⟩⟩ hs''⟩
      refine ⟨g1, tk₁, ?_, hU1⟩
      obtain ⟨h5, t5, e5, _⟩ := K₂
      rw [e5]
  exact codeAny_compStart_list (loop _ rfl) (Wl.self 0 _ _ _ (Wl.frame _ _ _ hst (fun b _ o e => U3 _ _ (U2 _ _ e))) (loop _ rfl))
end
end Jg
end PartJg14

noncomputable section PartJgW
open PySem PySem.W PySem.Calls PyProof.Rows
namespace Jg

noncomputable abbrev wd (prog : Program) (w : World) (mean : ExcName → Option Value) (mg mb : Str → Option Value) : Wd :=
  ⟨prog, w, K0 w.params, q0, looseW q0 ls0, mean, mg, mb⟩

section
variable {prog : Program} {w : World} {mean : ExcName → Option Value} {mg mb : Str → Option Value} {A : Around} {env : Env} {oa : List Addr} {σ : Sg} {np : Pos}

theorem gl_len (h : env.kindOf "len" = some .globalImplicit := by rfl) : EvV (wd prog w mean mg mb) A env oa σ (.Name "len" np) (.builtin "len") := ev_builtin h (by rfl) (by rfl)
theorem gl_int (h : env.kindOf "int" = some .globalImplicit := by rfl) : EvV (wd prog w mean mg mb) A env oa σ (.Name "int" np) (.type "int") := ev_builtin h (by rfl) (by rfl)
theorem gl_sum (h : env.kindOf "sum" = some .globalImplicit := by rfl) : EvV (wd prog w mean mg mb) A env oa σ (.Name "sum" np) (.builtin "sum") := ev_builtin h (by rfl) (by rfl)
theorem gl_range (h : env.kindOf "range" = some .globalImplicit := by rfl) : EvV (wd prog w mean mg mb) A env oa σ (.Name "range" np) (.type "range") := ev_builtin h (by rfl) (by rfl)
theorem gl_max (h : env.kindOf "max" = some .globalImplicit := by rfl) : EvV (wd prog w mean mg mb) A env oa σ (.Name "max" np) (.builtin "max") := ev_builtin h (by rfl) (by rfl)
theorem gl_abs (h : env.kindOf "abs" = some .globalImplicit := by rfl) : EvV (wd prog w mean mg mb) A env oa σ (.Name "abs" np) (.builtin "abs") := ev_builtin h (by rfl) (by rfl)
theorem gl_sorted (h : env.kindOf "sorted" = some .globalImplicit := by rfl) : EvV (wd prog w mean mg mb) A env oa σ (.Name "sorted" np) (.builtin "sorted") := ev_builtin h (by rfl) (by rfl)
theorem gl_isinstance (h : env.kindOf "isinstance" = some .globalImplicit := by rfl) : EvV (wd prog w mean mg mb) A env oa σ (.Name "isinstance" np) (.builtin "isinstance") := ev_builtin h (by rfl) (by rfl)
theorem gl_list (h : env.kindOf "list" = some .globalImplicit := by rfl) : EvV (wd prog w mean mg mb) A env oa σ (.Name "list" np) (.type "list") := ev_builtin h (by rfl) (by rfl)
theorem gl_bool (h : env.kindOf "bool" = some .globalImplicit := by rfl) : EvV (wd prog w mean mg mb) A env oa σ (.Name "bool" np) (.type "bool") := ev_builtin h (by rfl) (by rfl)
theorem gl_compute (h : env.kindOf "compute" = some .globalImplicit := by rfl) : EvV (wd prog w mean mg mb) A env oa σ (.Name "compute" np) (.ref 35) := ev_global h (by rfl)
theorem gl_apply (h : env.kindOf "apply_threshold" = some .globalImplicit := by rfl) : EvV (wd prog w mean mg mb) A env oa σ (.Name "apply_threshold" np) (.ref 42) := ev_global h (by rfl)
theorem gl_lr (h : env.kindOf "largest_remainder" = some .globalImplicit := by rfl) : EvV (wd prog w mean mg mb) A env oa σ (.Name "largest_remainder" np) (.ref 48) := ev_global h (by rfl)
theorem gl_divisor (h : env.kindOf "divisor" = some .globalImplicit := by rfl) : EvV (wd prog w mean mg mb) A env oa σ (.Name "divisor" np) (.ref 54) := ev_global h (by rfl)
theorem gl_quota (h : env.kindOf "quota" = some .globalImplicit := by rfl) : EvV (wd prog w mean mg mb) A env oa σ (.Name "quota" np) (.ref 67) := ev_global h (by rfl)
theorem gl_names (h : env.kindOf "_law_names" = some .globalImplicit := by rfl) : EvV (wd prog w mean mg mb) A env oa σ (.Name "_law_names" np) (.ref 74) := ev_global h (by rfl)
theorem gl_claim (h : env.kindOf "_law_claim" = some .globalImplicit := by rfl) : EvV (wd prog w mean mg mb) A env oa σ (.Name "_law_claim" np) (.ref 81) := ev_global h (by rfl)
theorem gl_dealt (h : env.kindOf "_law_dealt" = some .globalImplicit := by rfl) : EvV (wd prog w mean mg mb) A env oa σ (.Name "_law_dealt" np) (.ref 86) := ev_global h (by rfl)
theorem gl_run (h : env.kindOf "_law_run" = some .globalImplicit := by rfl) : EvV (wd prog w mean mg mb) A env oa σ (.Name "_law_run" np) (.ref 93) := ev_global h (by rfl)
theorem is_exc : IsExc (wd prog w mean mg mb) "TiesException" 24 := ⟨by rfl, by kernel_rfl⟩

abbrev il (l : List Int) : D := .list (l.map .int)
theorem il_get {l : List Int} {i : Nat} (h : i < l.length) : (l.map D.int)[i]? = some (.int (l[i]?.getD 0)) := by simp [h]
theorem il_flat (l : List Int) : ∀ e ∈ l.map D.int, e.flat = true := fun e h => by
  obtain ⟨i, _, rfl⟩ := List.mem_map.mp h
  rfl
theorem tst_eq {W : Wd} {e : Expr} {a b : Bool} (h : Tst W A env oa σ e a) (q : a = b) : Tst W A env oa σ e b := q ▸ h
theorem ev_eq {W : Wd} {e : Expr} {a b : D} {k : Bool} (h : Ev W A env oa σ k e a) (q : a = b) : Ev W A env oa σ k e b := q ▸ h
theorem eInt {i : Int} {n : Nat} {pos : Pos} {W : Wd} : Ev W A env oa σ true (.Constant (.int i) n pos) (.int i) := ev_int
theorem eNone {n : Nat} {pos : Pos} {W : Wd} : Ev W A env oa σ true (.Constant .none n pos) .none := ev_none
theorem eBool {b : Bool} {n : Nat} {pos : Pos} {W : Wd} : Ev W A env oa σ true (.Constant (.bool b) n pos) (.bool b) := ev_bool
theorem eStr {x : Str} {n : Nat} {pos : Pos} {W : Wd} : Ev W A env oa σ true (.Constant (.str x) n pos) (.str x) := ev_str

theorem eAdd {W : Wd} {l r : Expr} {pos : Pos} {i j : Int} {k1 k2 : Bool} (h1 : Ev W A env oa σ k1 l (.int i)) (h2 : Ev W A env oa σ k2 r (.int j)) : Ev W A env oa σ true (.BinOp l .Add r pos) (.int (i + j)) := ev_add h1 h2
theorem eSub {W : Wd} {l r : Expr} {pos : Pos} {i j : Int} {k1 k2 : Bool} (h1 : Ev W A env oa σ k1 l (.int i)) (h2 : Ev W A env oa σ k2 r (.int j)) : Ev W A env oa σ true (.BinOp l .Sub r pos) (.int (i - j)) := ev_sub h1 h2
theorem eMul {W : Wd} {l r : Expr} {pos : Pos} {i j : Int} {k1 k2 : Bool} (h1 : Ev W A env oa σ k1 l (.int i)) (h2 : Ev W A env oa σ k2 r (.int j)) (hm : IntMulOk i j) : Ev W A env oa σ true (.BinOp l .Mult r pos) (.int (i * j)) := ev_mul h1 h2 hm
theorem eDiv {W : Wd} {l r : Expr} {pos : Pos} {i j : Int} {k1 k2 : Bool} (h1 : Ev W A env oa σ k1 l (.int i)) (h2 : Ev W A env oa σ k2 r (.int j)) (hb : j ≠ 0) (hp : Builtin.divisionGoesByPylong i j = false) : Ev W A env oa σ true (.BinOp l .FloorDiv r pos) (.int (i.fdiv j)) := ev_fdiv h1 h2 hb hp
theorem eMod {W : Wd} {l r : Expr} {pos : Pos} {i j : Int} {k1 k2 : Bool} (h1 : Ev W A env oa σ k1 l (.int i)) (h2 : Ev W A env oa σ k2 r (.int j)) (hb : j ≠ 0) : Ev W A env oa σ true (.BinOp l .Mod r pos) (.int (i.fmod j)) := ev_fmod h1 h2 hb
theorem eNeg {W : Wd} {e : Expr} {pos : Pos} {i : Int} {k1 : Bool} (h : Ev W A env oa σ k1 e (.int i)) : Ev W A env oa σ true (.UnaryOp .USub e pos) (.int (-i)) := ev_neg h
/-- a name -/
theorem eN {W : Wd} {x : Str} {pos : Pos} {d : D} (e : σ.lookup x = some (true, d)) (hd : (x == ("__debug__" : Str)) = false := by decide) (hn : (x == ("__classdict__" : Str)) = false := by decide) : Ev W A env oa σ true (.Name x pos) d := ev_name e hd hn
theorem eO {W : Wd} {x : Str} {pos : Pos} {d : D} (e : σ.lookup x = some (false, d)) (hd : (x == ("__debug__" : Str)) = false := by decide) (hn : (x == ("__classdict__" : Str)) = false := by decide) : Ev W A env oa σ false (.Name x pos) d := ev_name e hd hn

theorem cap_nil {scope : Scope} {cl : List (Str × Addr)} {x : Str} : Cap env scope cl x σ [] := fun _ h => nomatch h
theorem cap_cell {scope : Scope} {cl : List (Str × Addr)} {x y : Str} {k : Bool} {d : D} {σc : Sg} (hl : σ.lookup y = some (k, d)) (h : Cap env scope cl x σ σc) (hn : (y == x) = false := by rfl) (hk : env.kindOf y = some .cell := by rfl)
    (hc : cl.lookup y = env.cells.lookup y := by rfl) (hf : (compEnvC scope cl 0 env).kindOf y = some .cell := by rfl) : Cap env scope cl x σ ((y, (k, d)) :: σc) := fun p hp => by
  rcases List.mem_cons.mp hp with rfl | hp
  · exact ⟨beq_eq_false_iff_ne.mp hn, hl, .inl hk, hc, .inl hf⟩
  · exact h p hp
theorem cap_free {scope : Scope} {cl : List (Str × Addr)} {x y : Str} {k : Bool} {d : D} {σc : Sg} (hl : σ.lookup y = some (k, d)) (h : Cap env scope cl x σ σc) (hn : (y == x) = false := by rfl) (hk : env.kindOf y = some .free := by rfl)
    (hc : cl.lookup y = env.cells.lookup y := by rfl) (hf : (compEnvC scope cl 0 env).kindOf y = some .free := by rfl) : Cap env scope cl x σ ((y, (k, d)) :: σc) := fun p hp => by
  rcases List.mem_cons.mp hp with rfl | hp
  · exact ⟨beq_eq_false_iff_ne.mp hn, hl, .inr hk, hc, .inr hf⟩
  · exact h p hp

/-- apply_threshold, asked with None -/
theorem fn_apply {cls : Value} {n : Nat} : ∃ fd body, Fn (wd prog w mean mg mb) 42 fd ["votes", "threshold"] body ∧ ∀ d, Does (wd prog w mean mg mb) cls n 42 fd ["votes", "threshold"] body [d, .none] (· = d) False := by
  refine ⟨_, _, ⟨rfl, rfl, rfl, rfl, rfl, rfl, rfl, by decide, ?_, ?_, ⟨_, _, _, rfl⟩, by rfl⟩, ?_⟩
  · intro s vs K h
    match vs, h with
    | [a, b], _ => exact .of_eq rfl
  · intro x hx n
    simp only [List.mem_cons, List.not_mem_nil, or_false] at hx
    rcases hx with rfl | rfl <;> exact .inl rfl
  · rintro d ⟨A₀, base, outer, g, env⟩ ok lv ⟨L, hL⟩
    change env = _ at hL
    subst hL
    refine ex_if ok (b := false) (tst_cmp (ev_name (k := true) (d := .none) rfl) eNone cmp_isnot_none) ?_
    exact ex_return ok (ev_name (d := d) (k := true) rfl) ⟨_, _, rfl, rfl⟩
end
end Jg
end PartJgW

noncomputable section PartJgQ
open PySem PySem.W PySem.Calls PyProof.Rows
namespace Jg

/-- what stands at a place -/
def gt (l : List Int) (i : Nat) : Int := l[i]?.getD 0
theorem gt_get {l : List Int} {i : Nat} (h : i < l.length) : (l.map D.int)[i]? = some (.int (gt l i)) := by simp [gt, h]
def bump (l : List Int) (i : Nat) : List Int := l.set i (gt l i + 1)
theorem bump_map (l : List Int) (i : Nat) : (l.map D.int).set i (.int (gt l i + 1)) = (bump l i).map D.int := by simp [bump, List.map_set]
theorem bump_length (l : List Int) (i : Nat) : (bump l i).length = l.length := by simp [bump]
theorem filterMap_some {α : Type} (g : Nat → α) : ∀ n, (List.range n).filterMap (fun i => some (g i)) = (List.range n).map g := fun n => by
  induction n with
  | zero => rfl
  | succ n ih => rw [List.range_succ, List.filterMap_append, ih, List.map_append]; rfl
theorem first_of {α : Type} (g : Nat → α) (p : Nat → Bool) {n j : Nat} (hj : j < n) (h1 : p j = true) (h2 : ∀ i, i < j → p i = false) : ((List.range n).filterMap fun i => if p i then some (g i) else none)[0]? = some (g j) := by
  have z : ∀ m, m ≤ j → ((List.range m).filterMap fun i => if p i then some (g i) else none) = [] := by
    intro m
    induction m with
    | zero => intro _; rfl
    | succ m ih => intro hm; rw [List.range_succ, List.filterMap_append, ih (by omega)]; simp [h2 m (by omega)]
  have : ∀ k, ((List.range (j + 1 + k)).filterMap fun i => if p i then some (g i) else none)[0]? = some (g j) := by
    intro k
    induction k with
    | zero => rw [Nat.add_zero, List.range_succ, List.filterMap_append, z j (Nat.le_refl _)]; simp [h1]
    | succ k ih => rw [← Nat.add_assoc, List.range_succ, List.filterMap_append, List.getElem?_append_left, ih]; exact (List.getElem?_eq_some_iff.mp ih).1
  have e := this (n - (j + 1))
  rwa [show j + 1 + (n - (j + 1)) = n by omega] at e

theorem npl {x y : Int} (h : x.natAbs ≤ y.natAbs * 2 ^ 30) : Builtin.divisionGoesByPylong x y = false := by
  unfold Builtin.divisionGoesByPylong
  simp only []
  by_cases hy : y = 0
  · subst hy; simp
  by_cases hx : x = 0
  · subst hx; simp
  have hx0 : x.natAbs ≠ 0 := by omega
  have hy0 : y.natAbs ≠ 0 := by omega
  have h1 : x.natAbs.log2 ≤ y.natAbs.log2 + 31 := by
    have a := Nat.lt_log2_self (n := y.natAbs)
    have : x.natAbs < 2 ^ (y.natAbs.log2 + 32) := by
      calc x.natAbs ≤ y.natAbs * 2 ^ 30 := h
        _ < 2 ^ (y.natAbs.log2 + 1) * 2 ^ 30 := Nat.mul_lt_mul_of_pos_right a (by decide)
        _ = 2 ^ (y.natAbs.log2 + 31) := by rw [← Nat.pow_add]
        _ ≤ 2 ^ (y.natAbs.log2 + 32) := Nat.pow_le_pow_right (by decide) (by omega)
    have := (Nat.log2_lt hx0).mpr this
    omega
  rw [Bool.and_eq_false_iff]
  right
  rw [decide_eq_false_iff_not, if_neg (by simpa using hx), if_neg (by simpa using hy)]
  omega

theorem sum_zeros (n : Nat) : (List.replicate n (0 : Int)).sum = 0 := by
  induction n with
  | zero => rfl
  | succ n ih => rw [List.replicate_succ, List.sum_cons, ih]; rfl

/-- the quota method -/
def qCommon (reps : List Int) : Int := reps.foldl (fun c r => c * (r + 1)) 1
def qQuot (votes reps : List Int) : List Int := (List.range votes.length).map fun i => (gt votes i * qCommon reps).fdiv (gt reps i + 1)
def qUp (votes reps : List Int) : List Int := votes.map fun p => -((-p * (reps.sum + 1)).fdiv votes.sum)
def qElig (votes reps : List Int) : List Int := (List.range votes.length).map fun i => if gt (qUp votes reps) i ≤ gt reps i then 0 else gt (qQuot votes reps) i
/-- the first of those with the most -/
def FirstMax (l : List Int) (j : Nat) : Prop := j < l.length ∧ (∀ i, i < l.length → gt l i ≤ gt l j) ∧ ∀ i, i < j → gt l i < gt l j
/-- seats dealt one by one -/
inductive QRun (votes : List Int) : Nat → List Int → List Int → Prop
  | done (reps) : QRun votes 0 reps reps
  | step {n j reps r} : FirstMax (qElig votes reps) j → QRun votes n (bump reps j) r → QRun votes (n + 1) reps r

theorem qCommon_succ {reps : List Int} {i : Nat} (h : i < reps.length) : qCommon (reps.take (i + 1)) = qCommon (reps.take i) * (gt reps i + 1) := by
  unfold qCommon
  rw [List.take_add_one, List.foldl_append]
  simp [gt, h]
theorem sum_nonneg : ∀ {l : List Int}, (∀ x ∈ l, 0 ≤ x) → 0 ≤ l.sum
  | [], _ => Int.le_refl _
  | z :: l, h => by
    rw [List.sum_cons]
    have := sum_nonneg fun x hx => h x (List.mem_cons_of_mem _ hx)
    have := h z List.mem_cons_self
    omega
theorem mem_sum_le : ∀ {l : List Int}, (∀ x ∈ l, 0 ≤ x) → ∀ x ∈ l, x ≤ l.sum
  | [], _, x, h => by cases h
  | y :: l, hn, x, h => by
    have hs : 0 ≤ l.sum := by
      have : ∀ m : List Int, (∀ x ∈ m, 0 ≤ x) → 0 ≤ m.sum := fun m => by
        induction m with
        | nil => intro _; exact Int.le_refl _
        | cons z m ih => intro h; rw [List.sum_cons]; have := ih fun x hx => h x (List.mem_cons_of_mem _ hx); have := h z List.mem_cons_self; omega
      exact this l fun x hx => hn x (List.mem_cons_of_mem _ hx)
    rw [List.sum_cons]
    rcases List.mem_cons.mp h with rfl | h
    · omega
    · have := mem_sum_le (fun x hx => hn x (List.mem_cons_of_mem _ hx)) x h
      have := hn y List.mem_cons_self
      omega
theorem bump_sum : ∀ {l : List Int} {i : Nat}, i < l.length → (bump l i).sum = l.sum + 1
  | [], i, h => by simp at h
  | x :: l, 0, _ => by simp [bump, gt]; omega
  | x :: l, i + 1, h => by
    have := bump_sum (l := l) (i := i) (by simpa using h)
    simp only [bump, gt, List.getElem?_cons_succ, List.set_cons_succ, List.sum_cons] at this ⊢
    omega
theorem bump_nonneg {l : List Int} {i : Nat} (h : ∀ x ∈ l, 0 ≤ x) : ∀ x ∈ bump l i, 0 ≤ x := fun x hx => by
  rcases List.mem_or_eq_of_mem_set hx with hx | rfl
  · exact h x hx
  · by_cases hi : i < l.length
    · have : gt l i ∈ l := by simp [gt, hi]
      have := h _ this
      omega
    · have : gt l i = 0 := by simp [gt, List.getElem?_eq_none (Nat.le_of_not_lt hi)]
      omega
theorem gt_mem {l : List Int} {i : Nat} (h : i < l.length) : gt l i ∈ l := by simp [gt, h]
theorem gt_bound {l : List Int} (hn : ∀ x ∈ l, 0 ≤ x) {m : Int} (hm : 0 ≤ m) (hs : l.sum ≤ m) (i : Nat) : 0 ≤ gt l i ∧ gt l i ≤ m := by
  by_cases h : i < l.length
  · have h1 := gt_mem h
    have := hn _ h1
    have := mem_sum_le hn _ h1
    omega
  · have : gt l i = 0 := by simp [gt, List.getElem?_eq_none (Nat.le_of_not_lt h)]
    omega
theorem small_bits {x : Int} (h : x.natAbs < 2 ^ 64) : Builtin.Int.intBits x ≤ 64 := PySem.intBits_le_iff.mpr h
theorem qCommon_bound (reps : List Int) (h : ∀ x ∈ reps, 0 ≤ x) (hs : reps.sum ≤ 7) : 0 < qCommon reps ∧ qCommon reps ≤ 8 ^ reps.length := by
  have : ∀ (l : List Int) (a : Int) (b : Nat), (∀ x ∈ l, 0 ≤ x ∧ x ≤ 7) → 0 < a → a ≤ 8 ^ b → 0 < l.foldl (fun c r => c * (r + 1)) a ∧ l.foldl (fun c r => c * (r + 1)) a ≤ 8 ^ (b + l.length) := by
    intro l
    induction l with
    | nil => intro a b _ h1 h2; exact ⟨h1, h2⟩
    | cons x l ih =>
      intro a b hx h1 h2
      have hx0 := hx x List.mem_cons_self
      have := ih (a * (x + 1)) (b + 1) (fun y hy => hx y (List.mem_cons_of_mem _ hy)) (Int.mul_pos h1 (by omega)) (by
        rw [Int.pow_succ]
        exact Int.mul_le_mul h2 (by omega) (by omega) (Int.le_of_lt (Int.pow_pos (by omega))))
      rw [List.length_cons, show b + (l.length + 1) = b + 1 + l.length by omega]
      exact this
  have := this reps 1 0 (fun x hx => ⟨h x hx, Int.le_trans (mem_sum_le h x hx) hs⟩) (by omega) (by omega)
  rw [Nat.zero_add] at this
  exact this
theorem range_len {l : List Int} : (rangeD 0 ((l.map D.int).length : Int).toNat) = (List.range l.length).map fun (i : Nat) => D.int (i : Int) := by
  simp [rangeD]
theorem rangeD0_get {n : Nat} {i : Nat} {d : D} (h : (rangeD 0 n)[i]? = some d) : i < n ∧ d = .int (i : Int) := by
  obtain ⟨h1, h2⟩ := rangeD_get h
  exact ⟨h1, by rw [h2, Int.zero_add]⟩
theorem map_gt {α : Type} (l : List Int) (g : Int → α) : (List.range l.length).map (fun i => g (gt l i)) = l.map g := by
  apply List.ext_getElem
  · simp
  · intro i h1 h2
    simp [gt, show i < l.length by simpa using h1]
theorem comp_map {n : Nat} (g : Nat → Int) : (List.range (rangeD 0 n).length).filterMap (fun i => some (D.int (g i))) = ((List.range n).map g).map D.int := by
  rw [rangeD_length, filterMap_some, List.map_map]; rfl
theorem comp_map' {l : List Int} (g : Int → Int) : (List.range (l.map D.int).length).filterMap (fun i => some (D.int (g (gt l i)))) = (l.map g).map D.int := by
  rw [List.length_map, filterMap_some, ← map_gt l g, List.map_map]; rfl
theorem map_d {l : List Int} {i : Nat} {d : D} (h : (l.map D.int)[i]? = some d) : i < l.length ∧ d = .int (gt l i) := by
  have hi : i < l.length := by simpa using (List.getElem?_eq_some_iff.mp h).1
  rw [gt_get hi] at h
  cases h
  exact ⟨hi, rfl⟩
section
variable {W : Wd} {A : Around} {env : Env} {oa : List Addr} {σ : Sg} {k : Bool} {prog : Program} {w : World} {mean : ExcName → Option Value} {mg mb : Str → Option Value}
/-- l[i] over ints -/
theorem ev_at {e i : Expr} {pos : Pos} {l : List Int} {n : Nat} {k' : Bool} (h1 : Ev W A env oa σ k e (il l)) (h2 : Ev W A env oa σ k' i (.int n)) (hn : n < l.length) (hl : l.length < 2 ^ 60)
    (hs : ∀ o v, subscripted i false o v = operate [o, v] (getItem o v) := by intro _ _; rfl) : Ev W A env oa σ k (.Subscript e i pos) (.int (gt l n)) :=
  ev_item h1 h2 (Int.natCast_nonneg n) (by omega) (by rw [Int.toNat_natCast]; exact gt_get hn) hs
theorem ev_len {k' : Bool} {np pos : Pos} {e : Expr} {l : List D} (hg : env.kindOf "len" = some .globalImplicit) (h : Ev (wd prog w mean mg mb) A env oa σ k' e (.list l)) (hl : l.length < 2 ^ 60) (hp : (backTo pos (starEach [e] env)).any (·.1) = false := by rfl)
    (he : starEach [e] env = [(false, eval e env)] := by rfl) :
    Ev (wd prog w mean mg mb) A env oa σ true (.Call (.Name "len" np) [e] [] pos) (.int (l.length : Nat)) := ev_flat (ev_call (k := k') (gl_len hg) (.builtin _) (evs_cons h evs_nil he) (clv_len (by omega)) hp)
theorem ev_sum {k' : Bool} {np pos : Pos} {e : Expr} {l : List Int} (hg : env.kindOf "sum" = some .globalImplicit) (h : Ev (wd prog w mean mg mb) A env oa σ k' e (il l)) (hp : (backTo pos (starEach [e] env)).any (·.1) = false := by rfl) (he : starEach [e] env = [(false, eval e env)] := by rfl) :
    Ev (wd prog w mean mg mb) A env oa σ true (.Call (.Name "sum" np) [e] [] pos) (.int l.sum) := ev_flat (ev_call (k := k') (gl_sum hg) (.builtin _) (evs_cons h evs_nil he) clv_sum hp)
theorem ev_toint {k' : Bool} {np pos : Pos} {e : Expr} {i : Int} (hg : env.kindOf "int" = some .globalImplicit) (h : Ev (wd prog w mean mg mb) A env oa σ k' e (.int i)) (hp : (backTo pos (starEach [e] env)).any (·.1) = false := by rfl) (he : starEach [e] env = [(false, eval e env)] := by rfl) :
    Ev (wd prog w mean mg mb) A env oa σ true (.Call (.Name "int" np) [e] [] pos) (.int i) := ev_flat (ev_call (k := k') (gl_int hg) (.type _) (evs_cons h evs_nil he) clv_int hp)
/-- range(len(e)) -/
theorem src_rlen {np np' p p' : Pos} {e : Expr} {l : List D} {k : Bool} (hg : env.kindOf "range" = some .globalImplicit) (hg' : env.kindOf "len" = some .globalImplicit) (h : Ev (wd prog w mean mg mb) A env oa σ k e (.list l)) (hl : l.length < 2 ^ 60)
    (hp : (backTo p' (starEach [e] env)).any (·.1) = false := by rfl) (he : starEach [e] env = [(false, eval e env)] := by rfl) (he' : ∀ r, starEach (.Call (.Name "len" np') [e] [] p' :: r) env = (false, eval (.Call (.Name "len" np') [e] [] p') env) :: starEach r env := by intro _; rfl) :
    Src (wd prog w mean mg mb) A env oa σ oa (.Call (.Name "range" np) [.Call (.Name "len" np') [e] [] p'] [] p) (rangeD 0 l.length) := by
  have := src_range1 (k1 := true) (pos := p) (gl_range (np := np) hg) (ev_len (np := np') hg' h hl hp he) (by omega) (by omega) he'
  rwa [Int.toNat_natCast] at this
end

theorem fn_quota {prog : Program} {w : World} {mean : ExcName → Option Value} {mg mb : Str → Option Value} {cls : Value} : ∃ fd body, Fn (wd prog w mean mg mb) 67 fd ["votes", "seats", "tiesallowed"] body ∧
    ∀ (n : Nat) (votes r : List Int) (seats : Nat), votes.length ≤ 5 → seats ≤ 7 → 0 < votes.sum → (∀ v ∈ votes, 0 ≤ v) → QRun votes seats (List.replicate votes.length 0) r →
      Does (wd prog w mean mg mb) cls n 67 fd ["votes", "seats", "tiesallowed"] body [il votes, .int seats, .bool true] (· = il r) False := by
  refine ⟨_, _, ⟨rfl, rfl, rfl, rfl, rfl, rfl, rfl, by decide, ?_, ?_, ⟨_, _, _, rfl⟩, by rfl⟩, ?_⟩
  · intro s vs K h
    match vs, h with
    | [a, b, c], _ => exact .of_defaults rfl (K _ _ rfl) rfl rfl rfl
  · intro x hx n
    simp only [List.mem_cons, List.not_mem_nil, or_false] at hx
    rcases hx with rfl | rfl | rfl
    · exact .inr ⟨rfl, rfl⟩
    · exact .inl rfl
    · exact .inl rfl
  · rintro n votes r seats hlen hseats hpos hnn hrun ⟨A₀, base, outer, g, env⟩ ok lv ⟨L, hL⟩
    change env = _ at hL
    subst hL
    refine ex_if ok (b := false) (tst_not (tst_val (eN (d := .bool true) rfl) tru_bool)) (ex_nil ?_)
    have hv5 : (votes.map D.int).length < 2 ^ 60 := by rw [List.length_map]; omega
    refine ex_own ok (.inr ⟨rfl, _, rfl⟩) (evN_rep eInt (ev_len rfl (eN rfl) hv5) (by rw [List.length_map]; omega)) fun a ha => ?_
    refine ex_while ok (fun m τ => ∃ reps : List Int, reps.length = votes.length ∧ (∀ x ∈ reps, 0 ≤ x) ∧ reps.sum + m = seats ∧ QRun votes m reps r ∧ τ = ([("representatives", (false, il reps)), ("votes", (true, il votes)), ("seats", (true, .int seats)), ("tiesallowed", (true, .bool true))] : Sg)) seats
      ⟨List.replicate votes.length 0, by simp, fun x hx => by rw [(List.mem_replicate.mp hx).2]; exact Int.le_refl _, by rw [sum_zeros]; omega, hrun, by simp [sgOf, il, List.map_replicate]⟩ ?_ ?_ ?_
    · rintro m τ ⟨reps, h1, h2, h3, h4, rfl⟩
      refine tst_eq (a := decide (reps.sum < (seats : Int))) ?_ ?_
      · exact tst_cmp (ev_sum rfl (eO rfl)) (eN rfl) cmp_lt
      rw [decide_eq_decide]
      omega
    · rintro m τ ⟨reps, h1, h2, h3, h4, rfl⟩
      cases h4
      rename_i j hj hrun'
      have hcm := qCommon_bound reps h2 (by omega)
      have hc5 : qCommon reps ≤ 8 ^ 5 := Int.le_trans hcm.2 (by
        have := Nat.pow_le_pow_right (n := 8) (by decide) (show reps.length ≤ 5 by omega)
        exact_mod_cast this)
      have hr7 : ∀ i, 0 ≤ gt reps i ∧ gt reps i ≤ 7 := fun i => gt_bound h2 (m := 7) (by omega) (by omega) i
      have hlv : votes.length < 2 ^ 60 := by omega
      have hlr : reps.length < 2 ^ 60 := by omega
      refine ex_assign ok (.inr ⟨rfl, _, rfl⟩) (by rintro _ _ ⟨⟩; decide) eInt ?_
      refine ex_for ok (.inl rfl) (by rintro _ _ ⟨⟩; decide) (fun i τ => τ = ([("common", (true, .int (qCommon (reps.take i)))), ("representatives", (false, il reps)), ("votes", (true, il votes)), ("seats", (true, .int seats)), ("tiesallowed", (true, .bool true))] : Sg))
        (src_weak (eO rfl)) rfl ?_ ?_
      · rintro fx' i d τ hn hd rfl
        have hi : i < reps.length := by simpa using (List.getElem?_eq_some_iff.mp hd).1
        rw [gt_get hi] at hd
        cases hd
        refine ex_assign ok (.inr ⟨rfl, _, rfl⟩) (by rintro _ _ ⟨⟩; decide) (eMul (eN rfl) (eAdd (eN rfl) eInt) (.of_right (small_bits (by have := hr7 i; omega)))) ?_
        refine ex_forget ?_ (ex_nil ⟨rfl, rfl⟩)
        rw [qCommon_succ hi]
        intro p hp
        simp only [List.mem_cons, List.not_mem_nil, or_false] at hp
        rcases hp with rfl | rfl | rfl | rfl | rfl <;> rfl
      · rintro τ rfl
        rw [List.length_map, List.take_length]
        have hs0 := sum_nonneg h2
        have hsb : (reps.sum + 1).natAbs < 2 ^ 64 := by omega
        refine ex_assign ok (.inr ⟨rfl, _, rfl⟩) (by rintro _ _ ⟨⟩; decide) (ev_new (evN_comp (r := (qQuot votes reps).map .int) (f := fun i => some (.int ((gt votes i * qCommon reps).fdiv (gt reps i + 1)))) (σc := ([("votes", (true, il votes)), ("common", (true, .int (qCommon reps))), ("representatives", (false, il reps))] : Sg))
          (src_off (src_rlen rfl rfl (eN rfl) hv5)) (by rw [rangeD_length, List.length_map]; omega) (by rw [List.length_map, comp_map]; rfl) (fun x => rfl) rfl rfl (by decide) (.loc (fun n => rfl) (fun h => rfl) (fun C => rfl)) ?_ (fun i C X d hd => .nil) (fun i C X d e hd he => ?_))) ?_
        · exact cap_cell rfl (cap_cell rfl (cap_cell rfl cap_nil))
        · obtain ⟨hi, rfl⟩ := rangeD0_get hd
          rw [List.length_map] at hi
          cases he
          exact eDiv (eMul (ev_toint rfl (ev_at (eN rfl) (eN rfl) hi hlv)) (eN rfl) (.of_right (small_bits (by omega)))) (eAdd (ev_toint rfl (ev_at (eO rfl) (eN rfl) (by omega) hlr)) eInt) (by have := hr7 i; omega) (PyProof.noPylong_small (by have := hr7 i; omega))
        refine ex_if ok (b := true) (tst_eq (a := (votes.sum != 0)) (tst_cmp (ev_sum rfl (eN rfl)) eInt cmp_ne) (by simp; omega)) ?_
        refine ex_assign ok (.inr ⟨rfl, _, rfl⟩) (by rintro _ _ ⟨⟩; decide) (ev_new (evN_comp (r := (qUp votes reps).map .int) (f := fun i => some (.int ((fun p => -((-p * (reps.sum + 1)).fdiv votes.sum)) (gt votes i)))) (σc := ([("votes", (true, il votes)), ("representatives", (false, il reps))] : Sg))
          (src_off (src_list (eN rfl))) (by rw [List.length_map]; omega) (comp_map' (l := votes) (fun p => -((-p * (reps.sum + 1)).fdiv votes.sum))) (fun x => rfl) rfl rfl (by decide) (.loc (fun n => rfl) (fun h => rfl) (fun C => rfl)) ?_ (fun i C X d hd => .nil) (fun i C X d e hd he => ?_))) ?_
        · exact cap_cell rfl (cap_cell rfl cap_nil)
        · obtain ⟨hi, rfl⟩ := map_d hd
          cases he
          refine eNeg (eDiv (eMul (eNeg (eN rfl)) (eAdd (ev_sum rfl (eO rfl)) eInt) (.of_right (small_bits hsb))) (ev_sum rfl (eN rfl)) (by omega) (npl ?_))
          have h8 := mem_sum_le hnn _ (gt_mem hi)
          have h9 := hnn _ (gt_mem hi)
          rw [Int.natAbs_mul]
          have : (reps.sum + 1).natAbs ≤ 2 ^ 30 := by omega
          exact Nat.mul_le_mul (by omega) this
        refine ex_assign ok (.inr ⟨rfl, _, rfl⟩) (by rintro _ _ ⟨⟩; decide) (ev_new (evN_comp (r := (qElig votes reps).map .int) (f := fun i => some (.int (if gt (qUp votes reps) i ≤ gt reps i then 0 else gt (qQuot votes reps) i))) (σc := ([("representatives", (false, il reps)), ("upperquota", (true, il (qUp votes reps))), ("quotas", (true, il (qQuot votes reps)))] : Sg))
          (src_off (src_rlen rfl rfl (eN rfl) hv5)) (by rw [rangeD_length, List.length_map]; omega) (by rw [List.length_map, comp_map]; rfl) (fun x => rfl) rfl rfl (by decide) (.loc (fun n => rfl) (fun h => rfl) (fun C => rfl)) ?_ (fun i C X d hd => .nil) (fun i C X d e hd he => ?_))) ?_
        · exact cap_cell rfl (cap_cell rfl (cap_cell rfl cap_nil))
        · obtain ⟨hi, rfl⟩ := rangeD0_get hd
          rw [List.length_map] at hi
          cases he
          have hq : (qQuot votes reps).length = votes.length := by simp [qQuot]
          have hu : (qUp votes reps).length = votes.length := by simp [qUp]
          refine ev_if (q := decide (gt (qUp votes reps) i ≤ gt reps i)) (tst_cmp (ev_at (eO rfl) (eN rfl) (by omega) hlr) (ev_at (eN rfl) (eN rfl) (by omega) (by omega)) cmp_ge) (fun hq => ?_) (fun hq => ?_)
          · exact ev_eq eInt (by rw [if_pos (of_decide_eq_true hq)])
          · exact ev_eq (ev_at (eN rfl) (eN rfl) (by omega) (by omega)) (by rw [if_neg (of_decide_eq_false hq)])
        refine ex_nil ?_
        have hel : (qElig votes reps).length = votes.length := by simp [qElig]
        refine ex_assign ok (.inr ⟨rfl, _, rfl⟩) (by rintro _ _ ⟨⟩; decide) (ev_call gl_max (.builtin _) (evs_cons (eN rfl) evs_nil) (clv_max (l := qElig votes reps) (m := gt (qElig votes reps) j) ⟨gt_mem hj.1, fun x hx => ?_⟩)) ?_
        · obtain ⟨i, hi, rfl⟩ := List.getElem_of_mem hx
          have := hj.2.1 i hi
          simpa [gt, hi] using this
        refine ex_comp ok (.inl rfl) (by rintro _ _ ⟨⟩; decide) rfl (r := (List.range (rangeD 0 (votes.map D.int).length).length).filterMap (fun i => if gt (qElig votes reps) i == gt (qElig votes reps) j then some (.int (i : Int)) else none)) (f := fun i => if gt (qElig votes reps) i == gt (qElig votes reps) j then some (.int (i : Int)) else none)
          (σc := ([("quotas", (true, il (qElig votes reps))), ("maxquota", (true, .int (gt (qElig votes reps) j)))] : Sg)) (src_off (src_rlen rfl rfl (eN rfl) hv5)) (by rw [rangeD_length, List.length_map]; omega) rfl (fun x => rfl) rfl rfl (by decide) (.loc (fun n => rfl) (fun h => rfl) (fun C => rfl)) ?_ (fun i C X d hd => ?_) (fun i C X d e hd he => ?_) ?_
        · exact cap_cell rfl (cap_cell rfl cap_nil)
        · obtain ⟨hi, rfl⟩ := rangeD0_get hd
          rw [List.length_map] at hi
          refine .one (tst_eq (tst_cmp (ev_at (eN rfl) (eN rfl) (by omega) (by omega)) (eN rfl) cmp_eq) ?_)
          cases gt (qElig votes reps) i == gt (qElig votes reps) j <;> rfl
        · obtain ⟨hi, rfl⟩ := rangeD0_get hd
          split at he
          · cases he; exact eN rfl
          · cases he
        refine ex_assign ok (.inl rfl) (by rintro _ _ ⟨⟩; decide) (ev_item (d := .int (j : Int)) (eN rfl) eInt (by omega) (by omega) ?_) ?_
        · rw [rangeD_length]
          refine first_of (fun i => D.int (i : Int)) (fun i => gt (qElig votes reps) i == gt (qElig votes reps) j) (by rw [List.length_map]; have := hj.1; omega) (by simp) fun i hi => ?_
          have := hj.2.2 i hi
          simp; omega
        have hjl : j < reps.length := by have := hj.1; omega
        refine ex_aug ok rfl (il_flat reps) ha (eN rfl) eInt (by omega) (by omega) (by rw [Int.toNat_natCast]; exact gt_get hjl) ?_
        rw [Int.toNat_natCast, bump_map]
        refine ex_forget (σ' := ([("representatives", (false, il (bump reps j))), ("votes", (true, il votes)), ("seats", (true, .int seats)), ("tiesallowed", (true, .bool true))] : Sg)) ?_ (ex_nil ⟨rfl, bump reps j, by rw [bump_length, h1], bump_nonneg h2, by rw [bump_sum hjl]; omega, hrun', rfl⟩)
        intro p hp
        simp only [List.mem_cons, List.not_mem_nil, or_false] at hp
        rcases hp with rfl | rfl | rfl | rfl <;> rfl
    · rintro τ ⟨reps, h1, h2, h3, h4, rfl⟩
      cases h4
      exact ex_return ok (eO rfl) ⟨_, _, rfl, rfl⟩
end Jg
end PartJgQ

noncomputable section PartJgN
open PySem PySem.W PySem.Calls PyProof.Rows
namespace Jg

def names : List Str := ["dhondt", "jefferson", "greatestdivisors", "saintelague", "webster", "majorfractions", "modified_saintelague", "huntington", "hill", "equalproportions", "adams", "smallestdivisor", "dean", "harmonicmean", "quota", "largest_remainder", "hamilton", "lrm"]

theorem se_const {c : Const} {n : Nat} {p : Pos} {es : List Expr} {env : Env} : starEach (.Constant c n p :: es) env = (false, eval (.Constant c n p) env) :: starEach es env := by rfl
/-- a list of texts, as it is written -/
inductive Strs : List Expr → List Str → Prop
  | nil : Strs [] []
  | cons {x : Str} {n : Nat} {p : Pos} {es : List Expr} {xs : List Str} : Strs es xs → Strs (.Constant (.str x) n p :: es) (x :: xs)
theorem Strs.evs {W : Wd} {A : Around} {env : Env} {oa : List Addr} {σ : Sg} {es : List Expr} {xs : List Str} (h : Strs es xs) : Evs W A env oa σ true es (xs.map .str) := by
  induction h with
  | nil => exact evs_nil
  | cons h ih => exact evs_cons ev_str ih se_const
theorem Strs.ev {W : Wd} {A : Around} {env : Env} {oa : List Addr} {σ : Sg} {es : List Expr} {xs : List Str} {p : Pos} {k : Bool} (h : Strs es xs) (hl : xs.length ≤ 1000) : Ev W A env oa σ k (.List es p) (.list (xs.map .str)) := ev_new (evN_list h.evs (by simpa using hl))
theorem tst_in {W : Wd} {A : Around} {env : Env} {oa : List Addr} {σ : Sg} {es : List Expr} {xs : List Str} {p pos : Pos} {e : Expr} {m : Str} (he : Ev W A env oa σ true e (.str m)) (h : Strs es xs) (hl : xs.length ≤ 1000) (hm : behindInMarks .In (.List es p) = false) :
    Tst W A env oa σ (.Compare e [.In] [.List es p] pos) (xs.any (· == m)) := tst_cmp he (h.ev (k := true) hl) cmp_in_strs hm
section
variable {prog : Program} {w : World} {mean : ExcName → Option Value} {mg mb : Str → Option Value} {cls : Value} {n : Nat}
theorem fd_names : ∃ fd, (∃ es p pos, fd.body = .stmts [.Return (some (.List es p)) pos] ∧ Strs es names) ∧ ∀ body, fd.body = .stmts body → Fn (wd prog w mean mg mb) 74 fd [] body := by
  refine ⟨_, ⟨_, _, _, rfl, ?_⟩, fun body hb => ⟨hb, rfl, rfl, rfl, rfl, rfl, rfl, by decide, ?_, ?_, ⟨_, _, _, rfl⟩, by rfl⟩⟩
  · exact .cons (.cons (.cons (.cons (.cons (.cons (.cons (.cons (.cons (.cons (.cons (.cons (.cons (.cons (.cons (.cons (.cons (.cons .nil)))))))))))))))))
  · intro s vs K h
    match vs, h with
    | [], _ => exact .of_eq rfl
  · intro x hx; cases hx
theorem fn_names : ∃ fd body, Fn (wd prog w mean mg mb) 74 fd [] body ∧ Does (wd prog w mean mg mb) cls n 74 fd [] body [] (· = .list (names.map .str)) False := by
  obtain ⟨fd, ⟨es, p, pos, hb, hs⟩, hF⟩ := fd_names (prog := prog) (w := w) (mean := mean) (mg := mg) (mb := mb)
  refine ⟨fd, _, hF _ hb, fun c ok lv hL => ?_⟩
  exact ex_return (k := true) ok (hs.ev (by decide)) ⟨_, _, rfl, rfl⟩

/-- the claim of a party: votes (or more) over a divisor -/
def claim (at' : Nat) (v h : Int) : Int × Int :=
  if at' < 3 ∨ at' = 14 then (v, h + 1) else if at' = 6 ∧ h = 0 then (5 * v, 7) else if at' < 7 then (v, 2 * h + 1) else if at' < 10 then (v * v, h * (h + 1)) else if at' < 12 then (v, h) else (v * (2 * h + 1), 2 * h * (h + 1))
theorem fn_claim : ∃ fd body, Fn (wd prog w mean mg mb) 81 fd ["at", "votes", "had"] body ∧ ∀ (at' : Nat) (v h : Int), IntMulOk v v → 0 ≤ h → h ≤ 100 →
    Does (wd prog w mean mg mb) cls n 81 fd ["at", "votes", "had"] body [.int at', .int v, .int h] (· = .tup [.int (claim at' v h).1, .int (claim at' v h).2]) False := by
  refine ⟨_, _, ⟨rfl, rfl, rfl, rfl, rfl, rfl, rfl, by decide, ?_, ?_, ⟨_, _, _, rfl⟩, by rfl⟩, ?_⟩
  · intro s vs K h
    match vs, h with
    | [a, b, c], _ => exact .of_eq rfl
  · intro x hx n
    simp only [List.mem_cons, List.not_mem_nil, or_false] at hx
    rcases hx with rfl | rfl | rfl <;> exact .inl rfl
  · rintro at' v h hvv h0 h1 ⟨A₀, base, outer, g, env⟩ ok lv ⟨L, hL⟩
    change env = _ at hL
    subst hL
    have sb : ∀ x : Int, x.natAbs < 2 ^ 64 → Builtin.Int.intBits x ≤ 64 := fun x => small_bits
    have hh : h * (h + 1) < 2 ^ 30 := by
      have := Int.mul_le_mul (a := h) (b := h + 1) (c := 100) (d := 101) (by omega) (by omega) (by omega) (by omega)
      omega
    refine ex_if ok (b := decide (at' < 3 ∨ at' = 14)) (tst_eq (a := (decide ((at' : Int) < 3) || ((at' : Int) == 14))) (tst_or (tst_cmp (eN rfl) eInt cmp_lt) fun _ => tst_cmp (eN rfl) eInt cmp_eq) (by rw [Bool.eq_iff_iff]; simp; omega)) ?_
    by_cases c1 : at' < 3 ∨ at' = 14
    · rw [decide_eq_true c1, if_pos rfl]
      refine ex_return (k := true) (d := .tup [.int v, .int (h + 1)]) ok (ev_tuple (evs_cons (eN rfl) (evs_cons (eAdd (eN rfl) eInt) evs_nil)) (by simp)) ⟨_, _, rfl, ?_⟩
      unfold claim; rw [if_pos c1]
    rw [decide_eq_false c1, if_neg (by decide)]
    refine ex_nil ?_
    refine ex_if ok (b := decide (at' = 6 ∧ h = 0)) (tst_eq (a := (((at' : Int) == 6) && (h == 0))) (tst_and (tst_cmp (eN rfl) eInt cmp_eq) fun _ => tst_cmp (eN rfl) eInt cmp_eq) (by rw [Bool.eq_iff_iff]; simp; omega)) ?_
    by_cases c2 : at' = 6 ∧ h = 0
    · rw [decide_eq_true c2, if_pos rfl]
      refine ex_return (k := true) (d := .tup [.int (5 * v), .int 7]) ok (ev_tuple (evs_cons (eMul eInt (eN rfl) (.of_left (sb _ (by decide)))) (evs_cons eInt evs_nil)) (by simp)) ⟨_, _, rfl, ?_⟩
      unfold claim; rw [if_neg c1, if_pos c2]
    rw [decide_eq_false c2, if_neg (by decide)]
    refine ex_nil ?_
    refine ex_if ok (b := decide (at' < 7)) (tst_eq (a := decide ((at' : Int) < 7)) (tst_cmp (eN rfl) eInt cmp_lt) (by rw [Bool.eq_iff_iff]; simp; omega)) ?_
    by_cases c3 : at' < 7
    · rw [decide_eq_true c3, if_pos rfl]
      refine ex_return (k := true) (d := .tup [.int v, .int (2 * h + 1)]) ok (ev_tuple (evs_cons (eN rfl) (evs_cons (eAdd (eMul eInt (eN rfl) (.of_left (sb _ (by decide)))) eInt) evs_nil)) (by simp)) ⟨_, _, rfl, ?_⟩
      unfold claim; rw [if_neg c1, if_neg c2, if_pos c3]
    rw [decide_eq_false c3, if_neg (by decide)]
    refine ex_nil ?_
    refine ex_if ok (b := decide (at' < 10)) (tst_eq (a := decide ((at' : Int) < 10)) (tst_cmp (eN rfl) eInt cmp_lt) (by rw [Bool.eq_iff_iff]; simp; omega)) ?_
    by_cases c4 : at' < 10
    · rw [decide_eq_true c4, if_pos rfl]
      refine ex_return (k := true) (d := .tup [.int (v * v), .int (h * (h + 1))]) ok (ev_tuple (evs_cons (eMul (eN rfl) (eN rfl) hvv) (evs_cons (eMul (eN rfl) (eAdd (eN rfl) eInt) (.of_left (sb _ (by omega)))) evs_nil)) (by simp)) ⟨_, _, rfl, ?_⟩
      unfold claim; rw [if_neg c1, if_neg c2, if_neg c3, if_pos c4]
    rw [decide_eq_false c4, if_neg (by decide)]
    refine ex_nil ?_
    refine ex_if ok (b := decide (at' < 12)) (tst_eq (a := decide ((at' : Int) < 12)) (tst_cmp (eN rfl) eInt cmp_lt) (by rw [Bool.eq_iff_iff]; simp; omega)) ?_
    by_cases c5 : at' < 12
    · rw [decide_eq_true c5, if_pos rfl]
      refine ex_return (k := true) (d := .tup [.int v, .int h]) ok (ev_tuple (evs_cons (eN rfl) (evs_cons (eN rfl) evs_nil)) (by simp)) ⟨_, _, rfl, ?_⟩
      unfold claim; rw [if_neg c1, if_neg c2, if_neg c3, if_neg c4, if_pos c5]
    rw [decide_eq_false c5, if_neg (by decide)]
    refine ex_nil ?_
    refine ex_return (k := true) (d := .tup [.int (v * (2 * h + 1)), .int (2 * h * (h + 1))]) ok (ev_tuple (evs_cons (eMul (eN rfl) (eAdd (eMul eInt (eN rfl) (.of_left (sb _ (by decide)))) eInt) (.of_right (sb _ (by omega)))) (evs_cons (eMul (eMul eInt (eN rfl) (.of_left (sb _ (by decide)))) (eAdd (eN rfl) eInt) (.of_right (sb _ (by omega)))) evs_nil)) (by simp)) ⟨_, _, rfl, ?_⟩
    unfold claim; rw [if_neg c1, if_neg c2, if_neg c3, if_neg c4, if_neg c5]
end
end Jg
end PartJgN

noncomputable section PartJgL
open PySem PySem.W PySem.Calls PyProof.Rows
namespace Jg

def srt (l : List Int) : List Int := l.mergeSort fun a b => decide (a ≤ b)
theorem srt_ok (l : List Int) : SortOf l (srt l) := ⟨List.mergeSort_perm l _, by
  have := List.pairwise_mergeSort (le := fun a b : Int => decide (a ≤ b)) (fun a b c h1 h2 => by simp at *; omega) (fun a b => by simp; omega) l
  exact this.imp fun h => by simpa using h⟩

/-- largest remainders -/
def lrFl (votes : List Int) (seats : Int) : List Int := votes.map fun p => (p * seats).fdiv votes.sum
def lrRem (votes : List Int) (seats : Int) : List Int := votes.map fun p => p * seats - (p * seats).fdiv votes.sum * votes.sum
def lrCut (votes : List Int) (seats : Int) : Int := gt (srt (lrRem votes seats)) ((lrFl votes seats).sum - seats + votes.length).toNat
def lrStep (rem : List Int) (cut seats : Int) (st : List Int × Bool) (i : Nat) : List Int × Bool :=
  if st.1.sum = seats ∧ cut ≤ gt rem i then (st.1, true) else if st.1.sum < seats ∧ cut < gt rem i then (bump st.1 i, st.2) else if st.1.sum < seats ∧ gt rem i = cut then (bump st.1 i, st.2) else st
def lrRun (rem : List Int) (cut seats : Int) (fl : List Int) (n : Nat) : List Int × Bool := (List.range n).foldl (lrStep rem cut seats) (fl, false)
def lrAll (votes : List Int) (seats : Int) : List Int × Bool :=
  if (lrFl votes seats).sum < seats then lrRun (lrRem votes seats) (lrCut votes seats) seats (lrFl votes seats) votes.length else (lrFl votes seats, false)

theorem lrRun_succ (rem : List Int) (cut seats : Int) (fl : List Int) (n : Nat) : lrRun rem cut seats fl (n + 1) = lrStep rem cut seats (lrRun rem cut seats fl n) n := by
  unfold lrRun; rw [List.range_succ, List.foldl_append]; rfl
theorem lrStep_length (rem : List Int) (cut seats : Int) (st : List Int × Bool) (i : Nat) : (lrStep rem cut seats st i).1.length = st.1.length := by
  unfold lrStep
  split
  · rfl
  · split
    · exact bump_length ..
    · split
      · exact bump_length ..
      · rfl
theorem lrRun_length (rem : List Int) (cut seats : Int) (fl : List Int) : ∀ n, (lrRun rem cut seats fl n).1.length = fl.length
  | 0 => rfl
  | n + 1 => by rw [lrRun_succ, lrStep_length, lrRun_length rem cut seats fl n]
theorem comp_map2 {l : List Int} (g : Int → D) : (List.range (l.map D.int).length).filterMap (fun i => some (g (gt l i))) = l.map g := by
  rw [List.length_map, filterMap_some, ← map_gt l g]
theorem sub_nil {σ : Sg} : Sub [] σ := fun _ h => nomatch h
theorem sub_cons {σ' σ : Sg} {x : Str} {v : Bool × D} (h : σ.lookup x = some v) (k : Sub σ' σ) : Sub ((x, v) :: σ') σ := fun p hp => by
  rcases List.mem_cons.mp hp with rfl | hp
  · exact h
  · exact k p hp
def Has (σ : Sg) (x : Str) (k : Bool) (d : D) : Prop := σ.lookup x = some (k, d)

section
variable {prog : Program} {w : World} {mean : ExcName → Option Value} {mg mb : Str → Option Value}
theorem fn_lr : ∃ fd body, Fn (wd prog w mean mg mb) 48 fd ["votes", "seats", "tiesallowed"] body ∧
    ∀ (n : Nat) (votes : List Int) (seats : Nat) (ta : Bool), votes.length ≤ 5 → 0 < seats → seats ≤ 7 → 0 < votes.sum → (∀ v ∈ votes, 0 ≤ v) → (lrFl votes seats).sum ≤ seats → seats ≤ (lrFl votes seats).sum + votes.length →
      Does (wd prog w mean mg mb) (.ref 24) n 48 fd ["votes", "seats", "tiesallowed"] body [il votes, .int seats, .bool ta] (fun d => ((lrAll votes seats).2 && !ta) = false ∧ d = il (lrAll votes seats).1) (((lrAll votes seats).2 && !ta) = true) := by
  refine ⟨_, _, ⟨rfl, rfl, rfl, rfl, rfl, rfl, rfl, by decide, ?_, ?_, ⟨_, _, _, rfl⟩, by rfl⟩, ?_⟩
  · intro s vs K h
    match vs, h with
    | [a, b, c], _ => exact .of_defaults rfl (K _ _ rfl) rfl rfl rfl
  · intro x hx n
    simp only [List.mem_cons, List.not_mem_nil, or_false] at hx
    rcases hx with rfl | rfl | rfl
    · exact .inr ⟨rfl, rfl⟩
    · exact .inr ⟨rfl, rfl⟩
    · exact .inl rfl
  · rintro n votes seats ta hlen hs0 hs7 hpos hnn hle hge ⟨A₀, base, outer, g, env⟩ ok lv ⟨L, hL⟩
    change env = _ at hL
    subst hL
    have hv5 : (votes.map D.int).length < 2 ^ 60 := by rw [List.length_map]; omega
    have hlv : votes.length < 2 ^ 60 := by omega
    have hsm : ∀ p : Int, IntMulOk p (seats : Int) := fun p => .of_right (small_bits (by omega))
    have hfl : (lrFl votes seats).length = votes.length := by simp [lrFl]
    refine ex_if ok (b := false) (tst_eq (a := ((seats : Int) == 0)) (tst_cmp (eN rfl) eInt cmp_eq) (by simp; omega)) (ex_nil ?_)
    refine ex_assign ok (.inr ⟨rfl, _, rfl⟩) (by rintro _ _ ⟨⟩) (ev_new (evN_comp (r := votes.map fun p => D.tup [.int (p * seats), .int votes.sum]) (f := fun i => some (.tup [.int (gt votes i * seats), .int votes.sum])) (σc := ([("votes", (true, il votes)), ("seats", (true, .int seats))] : Sg))
      (src_off (src_list (eN rfl))) (by rw [List.length_map]; omega) (comp_map2 (l := votes) (fun p => D.tup [.int (p * seats), .int votes.sum])) (fun x => rfl) rfl rfl (by decide) (.loc (fun n => rfl) (fun h => rfl) (fun C => rfl)) (cap_cell rfl (cap_cell rfl cap_nil)) (fun i C X d hd => .nil) (fun i C X d e hd he => ?_))) ?_
    · obtain ⟨hi, rfl⟩ := map_d hd
      cases he
      exact ev_tuple (evs_cons (eMul (ev_toint rfl (eN rfl)) (eN rfl) (hsm _)) (evs_cons (ev_toint rfl (ev_sum rfl (eN rfl))) evs_nil)) (by simp)
    refine ex_own ok (.inr ⟨rfl, _, rfl⟩) (evN_comp (r := (lrFl votes seats).map .int) (f := fun i => some (.int ((gt votes i * seats).fdiv votes.sum))) (σc := [])
      (src_off (src_list (eN rfl))) (by rw [List.length_map]; omega) ?_ (fun x => rfl) rfl rfl (by decide) (.loc (fun n => rfl) (fun h => rfl) (fun C => rfl)) cap_nil (fun i C X d hd => .nil) (fun i C X d e hd he => ?_)) (fun a ha => ?_)
    · rw [List.length_map, ← List.length_map (f := D.int)]; exact comp_map' (l := votes) (fun p => (p * seats).fdiv votes.sum)
    · have hi : i < votes.length := by simpa using (List.getElem?_eq_some_iff.mp hd).1
      have hd' : d = .tup [.int (gt votes i * seats), .int votes.sum] := by
        rw [List.getElem?_map] at hd
        simp [gt, hi] at hd ⊢
        exact hd.symm
      subst hd'
      cases he
      refine eDiv (ev_itemT (eN rfl) eInt (by omega) (by omega) rfl) (ev_itemT (eN rfl) eInt (by omega) (by omega) rfl) (by omega) (npl ?_)
      have h8 := mem_sum_le hnn _ (gt_mem hi)
      have h9 := hnn _ (gt_mem hi)
      rw [Int.natAbs_mul]
      exact Nat.mul_le_mul (by omega) (by omega)
    refine ex_assign ok (.inl rfl) (by rintro _ _ ⟨⟩; decide) eBool ?_
    refine ex_if ok (b := decide ((lrFl votes seats).sum < (seats : Int))) (tst_cmp (ev_sum rfl (eO rfl)) (eN rfl) cmp_lt) (ex_mono (Q := fun fl ow' σ' => fl = .next ∧ ow' = some (("representatives" : Str), a) ∧ Has σ' "representatives" false (il (lrAll votes seats).1) ∧ Has σ' "ties" true (.bool (lrAll votes seats).2) ∧ Has σ' "tiesallowed" true (.bool ta)) ?_ ?_ id)
    · by_cases hlt : (lrFl votes seats).sum < (seats : Int)
      · rw [decide_eq_true hlt, if_pos rfl]
        have hall : lrAll votes seats = lrRun (lrRem votes seats) (lrCut votes seats) seats (lrFl votes seats) votes.length := by unfold lrAll; rw [if_pos hlt]
        have hrm : (lrRem votes seats).length = votes.length := by simp [lrRem]
        refine ex_comp ok (.inl rfl) (by rintro _ _ ⟨⟩; decide) rfl (r := (lrRem votes seats).map .int) (f := fun i => some (.int (gt votes i * seats - gt (lrFl votes seats) i * votes.sum)))
          (σc := ([("quotas", (true, .list (votes.map fun p => D.tup [.int (p * seats), .int votes.sum]))), ("representatives", (false, il (lrFl votes seats)))] : Sg)) (src_off (src_rlen rfl rfl (eN rfl) hv5)) (by rw [rangeD_length, List.length_map]; omega) ?_ (fun x => rfl) rfl rfl (by decide) (.loc (fun n => rfl) (fun h => rfl) (fun C => rfl)) (cap_cell rfl (cap_cell rfl cap_nil)) (fun i C X d hd => .nil) (fun i C X d e hd he => ?_) ?_
        · rw [List.length_map, comp_map (n := votes.length) (fun i => gt votes i * seats - gt (lrFl votes seats) i * votes.sum)]
          congr 1
          unfold lrRem
          rw [← map_gt votes (fun p => p * seats - (p * seats).fdiv votes.sum * votes.sum)]
          refine List.map_congr_left fun i hi => ?_
          rw [List.mem_range] at hi
          have : gt (lrFl votes seats) i = (gt votes i * seats).fdiv votes.sum := by simp [lrFl, gt, hi]
          rw [this]
        · obtain ⟨hi, rfl⟩ := rangeD0_get hd
          rw [List.length_map] at hi
          cases he
          have hq : (votes.map fun p => D.tup [.int (p * seats), .int votes.sum])[(i : Int).toNat]? = some (D.tup [.int (gt votes i * seats), .int votes.sum]) := by
            rw [Int.toNat_natCast, List.getElem?_map]; simp [gt, hi]
          have hb : Builtin.Int.intBits (gt (lrFl votes seats) i) ≤ 64 := by
            by_cases hii : i < (lrFl votes seats).length
            · have h0 : ∀ x ∈ lrFl votes seats, 0 ≤ x := fun x hx => by
                obtain ⟨p, hp, rfl⟩ := List.mem_map.mp hx
                exact Int.fdiv_nonneg (Int.mul_nonneg (hnn p hp) (by omega)) (by omega)
              have := gt_bound h0 (m := 7) (by omega) (by omega) i
              exact small_bits (by omega)
            · have : gt (lrFl votes seats) i = 0 := by simp [gt, List.getElem?_eq_none (Nat.le_of_not_lt hii)]
              rw [this]; decide
          exact eSub (ev_itemT (ev_item (eN rfl) (eN rfl) (by omega) (by omega) hq) eInt (by omega) (by omega) rfl) (eMul (ev_at (eO rfl) (eN rfl) (by omega) (by omega)) (ev_itemT (ev_item (eN rfl) (eN rfl) (by omega) (by omega) hq) eInt (by omega) (by omega) rfl) (.of_left hb))
        have hsl : (srt (lrRem votes seats)).length = votes.length := by rw [(srt_ok _).1.length_eq, hrm]
        refine ex_assign ok (.inl rfl) (by rintro _ _ ⟨⟩; decide) (d := .int (lrCut votes seats)) (ev_item_neg (l := (srt (lrRem votes seats)).map .int) (ev_call gl_sorted (.builtin _) (evs_cons (eN rfl) evs_nil) (clv_sorted (srt_ok _) (by omega))) (eSub (ev_sum rfl (eO rfl)) (eN rfl)) (by omega) (by rw [List.length_map]; omega) (by
          have : 0 ≤ (lrFl votes seats).sum := sum_nonneg fun x hx => by
            obtain ⟨p, hp, rfl⟩ := List.mem_map.mp hx
            exact Int.fdiv_nonneg (Int.mul_nonneg (hnn p hp) (by omega)) (by omega)
          omega) ?_) ?_
        · rw [List.length_map, hsl]
          exact gt_get (by omega)
        refine ex_forget (σ' := ([("representatives", (false, il (lrFl votes seats))), ("ties", (true, .bool false)), ("remainders", (true, il (lrRem votes seats))), ("cutoff", (true, .int (lrCut votes seats))), ("seats", (true, .int seats)), ("tiesallowed", (true, .bool ta)), ("votes", (true, il votes))] : Sg)) (sub_cons rfl (sub_cons rfl (sub_cons rfl (sub_cons rfl (sub_cons rfl (sub_cons rfl (sub_cons rfl sub_nil))))))) ?_
        refine ex_for ok (.inl rfl) (by rintro _ _ ⟨⟩; decide) (fun i τ => τ = ([("representatives", (false, il (lrRun (lrRem votes seats) (lrCut votes seats) seats (lrFl votes seats) i).1)), ("ties", (true, .bool (lrRun (lrRem votes seats) (lrCut votes seats) seats (lrFl votes seats) i).2)), ("remainders", (true, il (lrRem votes seats))), ("cutoff", (true, .int (lrCut votes seats))), ("seats", (true, .int seats)), ("tiesallowed", (true, .bool ta)), ("votes", (true, il votes))] : Sg))
          (src_rlen rfl rfl (eN rfl) hv5) rfl ?_ ?_
        · rintro fx' i d τ hn hd rfl
          obtain ⟨hi, rfl⟩ := rangeD0_get hd
          rw [List.length_map] at hi
          generalize hst : lrRun (lrRem votes seats) (lrCut votes seats) seats (lrFl votes seats) i = st
          have hnext : lrRun (lrRem votes seats) (lrCut votes seats) seats (lrFl votes seats) (i + 1) = lrStep (lrRem votes seats) (lrCut votes seats) seats st i := by rw [lrRun_succ, hst]
          have hstl : st.1.length = votes.length := by rw [← hst, lrRun_length, hfl]
          have hfa : ¬ fx' a := hn a (List.mem_singleton.mpr rfl) (List.mem_singleton.mpr rfl) ha
          refine ex_assign ok (.inl rfl) (by rintro _ _ ⟨⟩; decide) (ev_sum rfl (eO rfl)) ?_
          refine ex_if ok (b := decide (st.1.sum = seats ∧ lrCut votes seats ≤ gt (lrRem votes seats) i)) (tst_eq (a := ((st.1.sum == (seats : Int)) && decide (lrCut votes seats ≤ gt (lrRem votes seats) i))) (tst_and (tst_cmp (eN rfl) (eN rfl) cmp_eq) fun _ => tst_cmp (ev_at (eN rfl) (eN rfl) (by omega) (by omega)) (eN rfl) cmp_ge) (by rw [Bool.eq_iff_iff]; simp)) ?_
          by_cases c1 : st.1.sum = seats ∧ lrCut votes seats ≤ gt (lrRem votes seats) i
          · rw [decide_eq_true c1, if_pos rfl]
            have e : lrStep (lrRem votes seats) (lrCut votes seats) seats st i = (st.1, true) := by unfold lrStep; rw [if_pos c1]
            refine ex_if ok (tst_not (tst_val (eN rfl) tru_bool)) ?_
            cases hs2 : st.2 with
            | false =>
              refine ex_assign ok (.inl rfl) (by rintro _ _ ⟨⟩; decide) eBool (ex_nil (ex_nil ?_))
              refine ex_forget ?_ (ex_nil ⟨rfl, rfl⟩)
              rw [hnext, e]
              exact sub_cons rfl (sub_cons rfl (sub_cons rfl (sub_cons rfl (sub_cons rfl (sub_cons rfl (sub_cons rfl sub_nil))))))
            | true =>
              refine ex_nil (ex_nil ?_)
              refine ex_forget ?_ (ex_nil ⟨rfl, rfl⟩)
              rw [hnext, e]
              exact sub_cons rfl (sub_cons rfl (sub_cons rfl (sub_cons rfl (sub_cons rfl (sub_cons rfl (sub_cons rfl sub_nil))))))
          · rw [decide_eq_false c1, if_neg (by decide)]
            refine ex_if ok (b := decide (st.1.sum < seats ∧ lrCut votes seats < gt (lrRem votes seats) i)) (tst_eq (a := (decide (st.1.sum < (seats : Int)) && decide (lrCut votes seats < gt (lrRem votes seats) i))) (tst_and (tst_cmp (eN rfl) (eN rfl) cmp_lt) fun _ => tst_cmp (ev_at (eN rfl) (eN rfl) (by omega) (by omega)) (eN rfl) cmp_gt) (by rw [Bool.eq_iff_iff]; simp)) ?_
            by_cases c2 : st.1.sum < seats ∧ lrCut votes seats < gt (lrRem votes seats) i
            · rw [decide_eq_true c2, if_pos rfl]
              have e : lrStep (lrRem votes seats) (lrCut votes seats) seats st i = (bump st.1 i, st.2) := by unfold lrStep; rw [if_neg c1, if_pos c2]
              refine ex_aug ok rfl (il_flat st.1) hfa (eN rfl) eInt (by omega) (by omega) (by rw [Int.toNat_natCast]; exact gt_get (by omega)) (ex_nil (ex_nil ?_))
              rw [Int.toNat_natCast, bump_map]
              refine ex_forget ?_ (ex_nil ⟨rfl, rfl⟩)
              rw [hnext, e]
              exact (sub_cons rfl (sub_cons rfl (sub_cons rfl (sub_cons rfl (sub_cons rfl (sub_cons rfl (sub_cons rfl sub_nil)))))))
            · rw [decide_eq_false c2, if_neg (by decide)]
              refine ex_if ok (b := decide (st.1.sum < seats ∧ gt (lrRem votes seats) i = lrCut votes seats)) (tst_eq (a := (decide (st.1.sum < (seats : Int)) && (gt (lrRem votes seats) i == lrCut votes seats))) (tst_and (tst_cmp (eN rfl) (eN rfl) cmp_lt) fun _ => tst_cmp (ev_at (eN rfl) (eN rfl) (by omega) (by omega)) (eN rfl) cmp_eq) (by rw [Bool.eq_iff_iff]; simp)) ?_
              by_cases c3 : st.1.sum < seats ∧ gt (lrRem votes seats) i = lrCut votes seats
              · rw [decide_eq_true c3, if_pos rfl]
                have e : lrStep (lrRem votes seats) (lrCut votes seats) seats st i = (bump st.1 i, st.2) := by unfold lrStep; rw [if_neg c1, if_neg c2, if_pos c3]
                refine ex_aug ok rfl (il_flat st.1) hfa (eN rfl) eInt (by omega) (by omega) (by rw [Int.toNat_natCast]; exact gt_get (by omega)) (ex_nil (ex_nil (ex_nil ?_)))
                rw [Int.toNat_natCast, bump_map]
                refine ex_forget ?_ (ex_nil ⟨rfl, rfl⟩)
                rw [hnext, e]
                exact (sub_cons rfl (sub_cons rfl (sub_cons rfl (sub_cons rfl (sub_cons rfl (sub_cons rfl (sub_cons rfl sub_nil)))))))
              · rw [decide_eq_false c3, if_neg (by decide)]
                have e : lrStep (lrRem votes seats) (lrCut votes seats) seats st i = st := by unfold lrStep; rw [if_neg c1, if_neg c2, if_neg c3]
                refine ex_nil (ex_nil (ex_nil ?_))
                refine ex_forget ?_ (ex_nil ⟨rfl, rfl⟩)
                rw [hnext, e]
                exact (sub_cons rfl (sub_cons rfl (sub_cons rfl (sub_cons rfl (sub_cons rfl (sub_cons rfl (sub_cons rfl sub_nil)))))))
        · rintro τ rfl
          rw [rangeD_length, List.length_map]
          exact ex_nil ⟨rfl, rfl, by rw [hall]; rfl, by rw [hall]; rfl, rfl⟩
      · rw [decide_eq_false hlt, if_neg (by decide)]
        have hall : lrAll votes seats = (lrFl votes seats, false) := by unfold lrAll; rw [if_neg hlt]
        exact ex_nil ⟨rfl, rfl, by rw [hall]; rfl, by rw [hall]; rfl, rfl⟩
    · rintro fl ow' σ' ⟨rfl, rfl, h1, h2, h3⟩
      refine ex_if ok (b := (lrAll votes seats).2 && !ta) (tst_and (tst_val (eN h2) tru_bool) fun _ => tst_not (tst_val (eN h3) tru_bool)) ?_
      by_cases hb : ((lrAll votes seats).2 && !ta) = true
      · rw [if_pos hb]
        exact ex_raise ok is_exc rfl eStr hb
      · rw [if_neg hb]
        refine ex_nil ?_
        exact ex_return ok (eO h1) ⟨_, _, rfl, by simpa using hb, rfl⟩
end
end Jg
end PartJgL

noncomputable section PartJgD
open PySem PySem.W PySem.Calls PyProof.Rows
namespace Jg

def dvD (l : List (Int × Int)) : D := .list (l.map fun x => .tup [.int x.1, .int x.2])
def wD (ws : List (List Int)) : D := .list (ws.map fun l => D.list (l.map D.int))
def grp : Nat → List Str
  | 1 => ["dhondt", "jefferson", "greatestdivisors"]
  | 2 => ["saintelague", "webster", "majorfractions"]
  | 3 => ["modified_saintelague"]
  | 4 => ["huntington", "hill", "equalproportions"]
  | 5 => ["adams", "smallestdivisor"]
  | 6 => ["dean", "harmonicmean"]
  | _ => []
def divF (g : Nat) (i : Nat) : Int × Int :=
  if g = 1 then ((i : Int) + 1, 1) else if g = 2 then (2 * (i : Int) + 1, 1) else if g = 4 then (((i : Int) + 1) * ((i : Int) + 2), 1) else if g = 5 then ((i : Int) + 1, 1) else (2 * ((i : Int) + 1) * ((i : Int) + 2), 2 * ((i : Int) + 1) + 1)
def divs (g seats : Nat) : List (Int × Int) := if g = 3 then (7, 5) :: (List.range (seats - 1)).map (fun (i : Nat) => (2 * (1 + (i : Int)) + 1, 1)) else (List.range seats).map (divF g)
def base (g : Nat) (votes : List Int) : List Int := if g ≤ 3 then List.replicate votes.length 0 else votes.map fun p => if 0 < p then 1 else 0
def cmn (ds : List (Int × Int)) : Int := ds.foldl (fun c d => c * d.1) 1
def wt (g : Nat) (ds : List (Int × Int)) (p : Int) : List Int := ds.map fun d => ((if g = 4 then p * p else p) * d.2 * cmn ds).fdiv d.1
def wts (g : Nat) (votes : List Int) (seats : Nat) : List (List Int) := votes.map (wt g (divs g seats))
def gw (ws : List (List Int)) (i : Nat) : List Int := ws[i]?.getD []
def minw (g : Nat) (votes : List Int) (seats : Nat) : Int := gt (srt (wts g votes seats).flatten) (-(seats : Int) + (base g votes).sum + (wts g votes seats).flatten.length).toNat
def above (g : Nat) (votes : List Int) (seats : Nat) : List Int := (List.range votes.length).map fun i => gt (base g votes) i + ((gw (wts g votes seats) i).filter fun w => decide (minw g votes seats < w)).length
def dvStep (ws : List (List Int)) (m seats : Int) (st : List Int × Bool) (i : Nat) : List Int × Bool :=
  if st.1.sum = seats ∧ (gw ws i).any (· == m) = true then (st.1, true) else if st.1.sum < seats ∧ (gw ws i).any (· == m) = true then (bump st.1 i, st.2) else st
def dvRun (ws : List (List Int)) (m seats : Int) (b : List Int) (n : Nat) : List Int × Bool := (List.range n).foldl (dvStep ws m seats) (b, false)
def dvAll (g : Nat) (votes : List Int) (seats : Nat) : List Int × Bool :=
  if (base g votes).sum < seats then (if (above g votes seats).sum < seats then dvRun (wts g votes seats) (minw g votes seats) seats (above g votes seats) votes.length else (above g votes seats, false)) else (base g votes, false)

section
variable {W : Wd} {A : Around} {env : Env} {oa : List Addr} {σ : Sg} {k : Bool} {prog : Program} {w : World} {mean : ExcName → Option Value} {mg mb : Str → Option Value}
/-- range(seats) -/
theorem src_rn {np p : Pos} {e : Expr} {n : Nat} {k : Bool} (hg : env.kindOf "range" = some .globalImplicit) (h : Ev (wd prog w mean mg mb) A env oa σ k e (.int (n : Nat))) (hl : n < 2 ^ 60)
    (he' : ∀ r, starEach (e :: r) env = (false, eval e env) :: starEach r env := by intro _; rfl) :
    Src (wd prog w mean mg mb) A env oa σ oa (.Call (.Name "range" np) [e] [] p) (rangeD 0 n) := by
  have := src_range1 (pos := p) (gl_range (np := np) hg) h (by omega) (by omega) he'
  rwa [Int.toNat_natCast] at this
theorem comp_tup {n : Nat} (g : Nat → Int × Int) : (List.range (rangeD 0 n).length).filterMap (fun i => some (D.tup [.int (g i).1, .int (g i).2])) = ((List.range n).map g).map fun x => D.tup [.int x.1, .int x.2] := by
  rw [rangeD_length, filterMap_some, List.map_map]; rfl
end

theorem divF_bound : ∀ g < 7, ∀ i < 9, 1 ≤ (divF g i).1 ∧ (divF g i).1 ≤ 200 ∧ 1 ≤ (divF g i).2 ∧ (divF g i).2 ≤ 200 := by decide
theorem divs_bound {g seats : Nat} (hg : g ≤ 6) (hs : seats ≤ 9) : ∀ d ∈ divs g seats, 1 ≤ d.1 ∧ d.1 ≤ 200 ∧ 1 ≤ d.2 ∧ d.2 ≤ 200 := fun d hd => by
  unfold divs at hd
  split at hd
  · rcases List.mem_cons.mp hd with rfl | hd
    · decide
    · obtain ⟨i, hi, rfl⟩ := List.mem_map.mp hd
      rw [List.mem_range] at hi
      refine ⟨?_, ?_, ?_, ?_⟩ <;> simp only [] <;> omega
  · obtain ⟨i, hi, rfl⟩ := List.mem_map.mp hd
    rw [List.mem_range] at hi
    exact divF_bound g (by omega) i (by omega)
theorem divs_length {g seats : Nat} (hs : 0 < seats) : (divs g seats).length = seats := by
  unfold divs
  split
  · simp; omega
  · simp
theorem cmn_succ {ds : List (Int × Int)} {i : Nat} (h : i < ds.length) : cmn (ds.take (i + 1)) = cmn (ds.take i) * ds[i].1 := by
  unfold cmn
  rw [List.take_add_one, List.foldl_append]
  simp [h]
theorem cmn_bound {ds : List (Int × Int)} (h : ∀ d ∈ ds, 1 ≤ d.1 ∧ d.1 ≤ 200 ∧ 1 ≤ d.2 ∧ d.2 ≤ 200) : 0 < cmn ds ∧ cmn ds ≤ 200 ^ ds.length := by
  have : ∀ (l : List (Int × Int)) (a : Int) (b : Nat), (∀ d ∈ l, 1 ≤ d.1 ∧ d.1 ≤ 200 ∧ 1 ≤ d.2 ∧ d.2 ≤ 200) → 0 < a → a ≤ 200 ^ b → 0 < l.foldl (fun c d => c * d.1) a ∧ l.foldl (fun c d => c * d.1) a ≤ 200 ^ (b + l.length) := by
    intro l
    induction l with
    | nil => intro a b _ h1 h2; exact ⟨h1, h2⟩
    | cons x l ih =>
      intro a b hx h1 h2
      have hx0 := hx x List.mem_cons_self
      have := ih (a * x.1) (b + 1) (fun y hy => hx y (List.mem_cons_of_mem _ hy)) (Int.mul_pos h1 (by omega)) (by
        rw [Int.pow_succ]
        exact Int.mul_le_mul h2 (by omega) (by omega) (Int.le_of_lt (Int.pow_pos (by omega))))
      rw [List.length_cons, show b + (l.length + 1) = b + 1 + l.length by omega]
      exact this
  have := this ds 1 0 h (by omega) (by omega)
  rw [Nat.zero_add] at this
  exact this
theorem wts_flat_length (g : Nat) (votes : List Int) (seats : Nat) : (wts g votes seats).flatten.length = votes.length * (divs g seats).length := by
  unfold wts
  induction votes with
  | nil => simp
  | cons v vs ih => rw [List.map_cons, List.flatten_cons, List.length_append, ih]; simp [wt]; rw [Nat.add_mul]; omega
theorem wts_get {g : Nat} {votes : List Int} {seats i : Nat} (h : i < votes.length) : gw (wts g votes seats) i = wt g (divs g seats) (gt votes i) := by simp [gw, wts, gt, h]
theorem comp_filter (l : List Int) (m : Int) : (List.range (l.map D.int).length).filterMap (fun i => if m < gt l i then some (D.int (gt l i)) else none) = (l.filter fun w => decide (m < w)).map D.int := by
  rw [List.length_map]
  have : ∀ k, k ≤ l.length → (List.range k).filterMap (fun i => if m < gt l i then some (D.int (gt l i)) else none) = ((l.take k).filter fun w => decide (m < w)).map D.int := by
    intro k
    induction k with
    | zero => intro _; rfl
    | succ k ih =>
      intro hk
      rw [List.range_succ, List.filterMap_append, ih (by omega), List.take_add_one, List.filter_append, List.map_append]
      congr 1
      have e : l[k]? = some (gt l k) := by simp [gt, show k < l.length by omega]
      rw [e]
      by_cases c : m < gt l k <;> simp [c]
  rw [this _ (Nat.le_refl _), List.take_length]
theorem dvRun_succ (ws : List (List Int)) (m seats : Int) (b : List Int) (n : Nat) : dvRun ws m seats b (n + 1) = dvStep ws m seats (dvRun ws m seats b n) n := by
  unfold dvRun; rw [List.range_succ, List.foldl_append]; rfl
theorem dvStep_length (ws : List (List Int)) (m seats : Int) (st : List Int × Bool) (i : Nat) : (dvStep ws m seats st i).1.length = st.1.length := by
  unfold dvStep
  split
  · rfl
  · split
    · exact bump_length ..
    · rfl
theorem dvRun_length (ws : List (List Int)) (m seats : Int) (b : List Int) : ∀ n, (dvRun ws m seats b n).1.length = b.length
  | 0 => rfl
  | n + 1 => by rw [dvRun_succ, dvStep_length, dvRun_length ws m seats b n]
theorem dvRun_mono (ws : List (List Int)) (m seats : Int) (b : List Int) {i : Nat} (h : (dvRun ws m seats b i).2 = true) : ∀ k, (dvRun ws m seats b (i + k)).2 = true
  | 0 => h
  | k + 1 => by
    rw [← Nat.add_assoc, dvRun_succ]
    have := dvRun_mono ws m seats b h k
    unfold dvStep
    split
    · rfl
    · split
      · exact this
      · exact this

section
variable {prog : Program} {w : World} {mean : ExcName → Option Value} {mg mb : Str → Option Value}
theorem fn_divisor : ∃ fd body, Fn (wd prog w mean mg mb) 54 fd ["votes", "seats", "method", "tiesallowed"] body ∧
    ∀ (n : Nat) (votes : List Int) (seats g : Nat) (m : Str) (ta : Bool), 0 < votes.length → votes.length ≤ 5 → seats ≤ 9 → (∀ v ∈ votes, 0 ≤ v) → (∀ v ∈ votes, Builtin.Int.intBits v ≤ 2 ^ 20) → 1 ≤ g → g ≤ 6 → (3 < g → votes.length ≤ seats) → (∀ j, 1 ≤ j → j ≤ 6 → (grp j).any (· == m) = decide (j = g)) →
      Does (wd prog w mean mg mb) (.ref 24) n 54 fd ["votes", "seats", "method", "tiesallowed"] body [il votes, .int seats, .str m, .bool ta] (fun d => ((dvAll g votes seats).2 && !ta) = false ∧ d = il (dvAll g votes seats).1) (((dvAll g votes seats).2 && !ta) = true) := by
  refine ⟨_, _, ⟨rfl, rfl, rfl, rfl, rfl, rfl, rfl, by decide, ?_, ?_, ⟨_, _, _, rfl⟩, by rfl⟩, ?_⟩
  · intro s vs K h
    match vs, h with
    | [a, b, c, d], _ => exact .of_defaults rfl (K _ _ rfl) rfl rfl rfl
  · intro x hx n
    simp only [List.mem_cons, List.not_mem_nil, or_false] at hx
    rcases hx with rfl | rfl | rfl | rfl <;> exact .inl rfl
  · rintro n votes seats g m ta hl0 hlen hs9 hnn hbits hg1 hg6 hg3 hgm ⟨A₀, basE, outer, hG, env⟩ ok lv ⟨L, hL⟩
    change env = _ at hL
    subst hL
    have hv5 : (votes.map D.int).length < 2 ^ 60 := by rw [List.length_map]; omega
    have hlv : votes.length < 2 ^ 60 := by omega
    have sm : ∀ i j : Int, i.natAbs < 2 ^ 64 → IntMulOk i j := fun i j h => .of_left (small_bits h)
    refine ex_assign ok (.inr ⟨rfl, _, rfl⟩) (by rintro _ _ ⟨⟩) (ev_new (evN_rep eInt (ev_len rfl (eN rfl) hv5) (by rw [List.length_map]; omega))) ?_
    rw [show List.replicate (votes.map D.int).length (D.int 0) = (List.replicate votes.length (0 : Int)).map D.int by rw [List.length_map, List.map_replicate]]
    refine ex_if ok (b := decide (1 = g)) (tst_eq (tst_in (eN rfl) (.cons (.cons (.cons .nil))) (by decide) (by with_unfolding_all rfl)) (hgm 1 (by omega) (by omega))) (ex_mono (Q := fun fl ow' σ' => fl = .next ∧ ow' = none ∧ Has σ' "representatives" true (il (base g votes)) ∧ Has σ' "divisors" true (dvD (divs g seats)) ∧ Has σ' "votes" true (il votes) ∧ Has σ' "seats" true (.int seats) ∧ Has σ' "method" true (.str m) ∧ Has σ' "tiesallowed" true (.bool ta)) ?_ ?_ id)
    · by_cases c1 : 1 = g
      · subst c1
        rw [decide_eq_true rfl, if_pos rfl]
        refine ex_assign ok (.inr ⟨rfl, _, rfl⟩) (by rintro _ _ ⟨⟩) (d := dvD (divs 1 seats)) (ev_new (evN_comp (f := fun i => some (D.tup [.int (divF 1 i).1, .int (divF 1 i).2])) (σc := []) (src_off (src_rn rfl (eN rfl) (by omega))) (by rw [rangeD_length]; omega) (comp_tup (divF 1)) (fun x => rfl) rfl rfl (by decide) (.loc (fun n => rfl) (fun h => rfl) (fun C => rfl)) cap_nil (fun i C X d hd => .nil) (fun i C X d e hd he => ?_))) ?_
        · obtain ⟨hi, rfl⟩ := rangeD0_get hd
          cases he
          exact ev_tuple (evs_cons (eAdd (eN rfl) eInt) (evs_cons eInt evs_nil)) (by simp)
        · exact ex_nil ⟨rfl, rfl, rfl, rfl, rfl, rfl, rfl, rfl⟩
      rw [decide_eq_false c1, if_neg (by decide)]
      refine ex_if ok (b := decide (2 = g)) (tst_eq (tst_in (eN rfl) (.cons (.cons (.cons .nil))) (by decide) (by with_unfolding_all rfl)) (hgm 2 (by omega) (by omega))) ?_
      by_cases c2 : 2 = g
      · subst c2
        rw [decide_eq_true rfl, if_pos rfl]
        refine ex_assign ok (.inr ⟨rfl, _, rfl⟩) (by rintro _ _ ⟨⟩) (d := dvD (divs 2 seats)) (ev_new (evN_comp (f := fun i => some (D.tup [.int (divF 2 i).1, .int (divF 2 i).2])) (σc := []) (src_off (src_rn rfl (eN rfl) (by omega))) (by rw [rangeD_length]; omega) (comp_tup (divF 2)) (fun x => rfl) rfl rfl (by decide) (.loc (fun n => rfl) (fun h => rfl) (fun C => rfl)) cap_nil (fun i C X d hd => .nil) (fun i C X d e hd he => ?_))) ?_
        · obtain ⟨hi, rfl⟩ := rangeD0_get hd
          cases he
          exact ev_tuple (evs_cons (eAdd (eMul eInt (eN rfl) (sm _ _ (by decide))) eInt) (evs_cons eInt evs_nil)) (by simp)
        · exact ex_nil (ex_nil ⟨rfl, rfl, rfl, rfl, rfl, rfl, rfl, rfl⟩)
      rw [decide_eq_false c2, if_neg (by decide)]
      refine ex_if ok (b := decide (3 = g)) (tst_eq (tst_in (eN rfl) (.cons .nil) (by decide) (by with_unfolding_all rfl)) (hgm 3 (by omega) (by omega))) ?_
      by_cases c3 : 3 = g
      · subst c3
        rw [decide_eq_true rfl, if_pos rfl]
        refine ex_assign ok (.inr ⟨rfl, _, rfl⟩) (by rintro _ _ ⟨⟩) (d := dvD (divs 3 seats)) (ev_new (evN_cat (a := [D.tup [.int 7, .int 5]]) (b := ((List.range (seats - 1)).map fun (i : Nat) => ((2 * (1 + (i : Int)) + 1, 1) : Int × Int)).map fun x => D.tup [.int x.1, .int x.2])
          (ev_new (evN_list (evs_cons (ev_tuple (evs_cons eInt (evs_cons eInt evs_nil)) (by simp)) evs_nil) (by simp))) (ev_new (evN_comp (f := fun i => some (D.tup [.int (2 * (1 + (i : Int)) + 1), .int 1])) (σc := []) (src_off (src_range2 gl_range eInt (eN rfl) (by omega) (by omega) (by omega) (by omega))) (by rw [rangeD_length]; omega) ?_ (fun x => rfl) rfl rfl (by decide) (.loc (fun n => rfl) (fun h => rfl) (fun C => rfl)) cap_nil (fun i C X d hd => .nil) (fun i C X d e hd he => ?_))) (by simp; omega))) ?_
        · rw [rangeD_length, filterMap_some, List.map_map, show ((seats : Int) - 1).toNat = seats - 1 by omega]; rfl
        · obtain ⟨hi, rfl⟩ := rangeD_get hd
          cases he
          exact ev_tuple (evs_cons (eAdd (eMul eInt (eN rfl) (sm _ _ (by decide))) eInt) (evs_cons eInt evs_nil)) (by simp)
        · exact ex_nil (ex_nil (ex_nil ⟨rfl, rfl, rfl, rfl, rfl, rfl, rfl, rfl⟩))
      rw [decide_eq_false c3, if_neg (by decide)]
      refine ex_if ok (b := decide (4 = g)) (tst_eq (tst_in (eN rfl) (.cons (.cons (.cons .nil))) (by decide) (by with_unfolding_all rfl)) (hgm 4 (by omega) (by omega))) ?_
      by_cases c4 : 4 = g
      · subst c4
        rw [decide_eq_true rfl, if_pos rfl]
        refine ex_if ok (b := false) (tst_eq (a := decide ((seats : Int) < ((votes.map D.int).length : Nat))) (tst_cmp (eN rfl) (ev_len rfl (eN rfl) hv5) cmp_lt) (by rw [List.length_map]; have := hg3 (by omega); simp; omega)) ?_
        refine ex_assign ok (.inr ⟨rfl, _, rfl⟩) (by rintro _ _ ⟨⟩) (d := il (base 4 votes)) (ev_new (evN_comp (f := fun i => some (.int ((fun p : Int => if 0 < p then (1 : Int) else 0) (gt votes i)))) (σc := []) (src_off (src_list (eN rfl))) (by rw [List.length_map]; omega) (comp_map' (l := votes) (fun p : Int => if 0 < p then (1 : Int) else 0)) (fun x => rfl) rfl rfl (by decide) (.loc (fun n => rfl) (fun h => rfl) (fun C => rfl)) cap_nil (fun i C X d hd => .nil) (fun i C X d e hd he => ?_))) ?_
        · obtain ⟨hi, rfl⟩ := map_d hd
          cases he
          refine ev_if (q := decide (0 < gt votes i)) (tst_cmp (eN rfl) eInt cmp_gt) (fun hq => ?_) (fun hq => ?_)
          · exact ev_eq eInt (by simp only [if_pos (of_decide_eq_true hq)])
          · exact ev_eq eInt (by simp only [if_neg (of_decide_eq_false hq)])
        refine ex_assign ok (.inr ⟨rfl, _, rfl⟩) (by rintro _ _ ⟨⟩) (d := dvD (divs 4 seats)) (ev_new (evN_comp (f := fun i => some (D.tup [.int (divF 4 i).1, .int (divF 4 i).2])) (σc := []) (src_off (src_rn rfl (eN rfl) (by omega))) (by rw [rangeD_length]; omega) (comp_tup (divF 4)) (fun x => rfl) rfl rfl (by decide) (.loc (fun n => rfl) (fun h => rfl) (fun C => rfl)) cap_nil (fun i C X d hd => .nil) (fun i C X d e hd he => ?_))) ?_
        · obtain ⟨hi, rfl⟩ := rangeD0_get hd
          cases he
          exact ev_tuple (evs_cons (eMul (eAdd (eN rfl) eInt) (eAdd (eN rfl) eInt) (sm _ _ (by omega))) (evs_cons eInt evs_nil)) (by simp)
        · exact ex_nil (ex_nil (ex_nil (ex_nil (ex_nil ⟨rfl, rfl, rfl, rfl, rfl, rfl, rfl, rfl⟩))))
      rw [decide_eq_false c4, if_neg (by decide)]
      refine ex_if ok (b := decide (5 = g)) (tst_eq (tst_in (eN rfl) (.cons (.cons .nil)) (by decide) (by with_unfolding_all rfl)) (hgm 5 (by omega) (by omega))) ?_
      by_cases c5 : 5 = g
      · subst c5
        rw [decide_eq_true rfl, if_pos rfl]
        refine ex_if ok (b := false) (tst_eq (a := decide ((seats : Int) < ((votes.map D.int).length : Nat))) (tst_cmp (eN rfl) (ev_len rfl (eN rfl) hv5) cmp_lt) (by rw [List.length_map]; have := hg3 (by omega); simp; omega)) ?_
        refine ex_assign ok (.inr ⟨rfl, _, rfl⟩) (by rintro _ _ ⟨⟩) (d := il (base 5 votes)) (ev_new (evN_comp (f := fun i => some (.int ((fun p : Int => if 0 < p then (1 : Int) else 0) (gt votes i)))) (σc := []) (src_off (src_list (eN rfl))) (by rw [List.length_map]; omega) (comp_map' (l := votes) (fun p : Int => if 0 < p then (1 : Int) else 0)) (fun x => rfl) rfl rfl (by decide) (.loc (fun n => rfl) (fun h => rfl) (fun C => rfl)) cap_nil (fun i C X d hd => .nil) (fun i C X d e hd he => ?_))) ?_
        · obtain ⟨hi, rfl⟩ := map_d hd
          cases he
          refine ev_if (q := decide (0 < gt votes i)) (tst_cmp (eN rfl) eInt cmp_gt) (fun hq => ?_) (fun hq => ?_)
          · exact ev_eq eInt (by simp only [if_pos (of_decide_eq_true hq)])
          · exact ev_eq eInt (by simp only [if_neg (of_decide_eq_false hq)])
        refine ex_assign ok (.inr ⟨rfl, _, rfl⟩) (by rintro _ _ ⟨⟩) (d := dvD (divs 5 seats)) (ev_new (evN_comp (f := fun i => some (D.tup [.int (divF 5 i).1, .int (divF 5 i).2])) (σc := []) (src_off (src_rn rfl (eN rfl) (by omega))) (by rw [rangeD_length]; omega) (comp_tup (divF 5)) (fun x => rfl) rfl rfl (by decide) (.loc (fun n => rfl) (fun h => rfl) (fun C => rfl)) cap_nil (fun i C X d hd => .nil) (fun i C X d e hd he => ?_))) ?_
        · obtain ⟨hi, rfl⟩ := rangeD0_get hd
          cases he
          exact ev_tuple (evs_cons (eAdd (eN rfl) eInt) (evs_cons eInt evs_nil)) (by simp)
        · exact ex_nil (ex_nil (ex_nil (ex_nil (ex_nil (ex_nil ⟨rfl, rfl, rfl, rfl, rfl, rfl, rfl, rfl⟩)))))
      rw [decide_eq_false c5, if_neg (by decide)]
      refine ex_if ok (b := decide (6 = g)) (tst_eq (tst_in (eN rfl) (.cons (.cons .nil)) (by decide) (by with_unfolding_all rfl)) (hgm 6 (by omega) (by omega))) ?_
      by_cases c6 : 6 = g
      · subst c6
        rw [decide_eq_true rfl, if_pos rfl]
        refine ex_if ok (b := false) (tst_eq (a := decide ((seats : Int) < ((votes.map D.int).length : Nat))) (tst_cmp (eN rfl) (ev_len rfl (eN rfl) hv5) cmp_lt) (by rw [List.length_map]; have := hg3 (by omega); simp; omega)) ?_
        refine ex_assign ok (.inr ⟨rfl, _, rfl⟩) (by rintro _ _ ⟨⟩) (d := il (base 6 votes)) (ev_new (evN_comp (f := fun i => some (.int ((fun p : Int => if 0 < p then (1 : Int) else 0) (gt votes i)))) (σc := []) (src_off (src_list (eN rfl))) (by rw [List.length_map]; omega) (comp_map' (l := votes) (fun p : Int => if 0 < p then (1 : Int) else 0)) (fun x => rfl) rfl rfl (by decide) (.loc (fun n => rfl) (fun h => rfl) (fun C => rfl)) cap_nil (fun i C X d hd => .nil) (fun i C X d e hd he => ?_))) ?_
        · obtain ⟨hi, rfl⟩ := map_d hd
          cases he
          refine ev_if (q := decide (0 < gt votes i)) (tst_cmp (eN rfl) eInt cmp_gt) (fun hq => ?_) (fun hq => ?_)
          · exact ev_eq eInt (by simp only [if_pos (of_decide_eq_true hq)])
          · exact ev_eq eInt (by simp only [if_neg (of_decide_eq_false hq)])
        refine ex_assign ok (.inr ⟨rfl, _, rfl⟩) (by rintro _ _ ⟨⟩) (d := dvD (divs 6 seats)) (ev_new (evN_comp (f := fun i => some (D.tup [.int (divF 6 i).1, .int (divF 6 i).2])) (σc := []) (src_off (src_rn rfl (eN rfl) (by omega))) (by rw [rangeD_length]; omega) (comp_tup (divF 6)) (fun x => rfl) rfl rfl (by decide) (.loc (fun n => rfl) (fun h => rfl) (fun C => rfl)) cap_nil (fun i C X d hd => .nil) (fun i C X d e hd he => ?_))) ?_
        · obtain ⟨hi, rfl⟩ := rangeD0_get hd
          cases he
          exact ev_tuple (evs_cons (eMul (eMul eInt (eAdd (eN rfl) eInt) (sm _ _ (by decide))) (eAdd (eN rfl) eInt) (.of_right (small_bits (by omega)))) (evs_cons (eAdd (eMul eInt (eAdd (eN rfl) eInt) (sm _ _ (by decide))) eInt) evs_nil)) (by simp)
        · exact ex_nil (ex_nil (ex_nil (ex_nil (ex_nil (ex_nil (ex_nil ⟨rfl, rfl, rfl, rfl, rfl, rfl, rfl, rfl⟩))))))
      rw [decide_eq_false c6, if_neg (by decide)]
      exact absurd rfl (show ¬ (0 : Nat) = 0 from fun _ => by omega)
    · rintro fl ow' σ' ⟨rfl, rfl, h1, h2, h3, h4, h5, h6⟩
      refine ex_forget (σ' := ([("representatives", (true, il (base g votes))), ("divisors", (true, dvD (divs g seats))), ("votes", (true, il votes)), ("seats", (true, .int seats)), ("method", (true, .str m)), ("tiesallowed", (true, .bool ta))] : Sg)) (sub_cons h1 (sub_cons h2 (sub_cons h3 (sub_cons h4 (sub_cons h5 (sub_cons h6 sub_nil)))))) ?_
      have hbl : (base g votes).length = votes.length := by unfold base; split <;> simp
      have hb0 : ∀ x ∈ base g votes, 0 ≤ x := fun x hx => by
        unfold base at hx
        split at hx
        · rw [(List.mem_replicate.mp hx).2]; exact Int.le_refl _
        · obtain ⟨p, hp, rfl⟩ := List.mem_map.mp hx
          split <;> omega
      have hbs := sum_nonneg hb0
      by_cases hlt : (base g votes).sum < (seats : Int)
      · refine ex_if ok (b := true) (tst_eq (tst_cmp (eN rfl) (ev_sum rfl (eN rfl)) cmp_gt) (decide_eq_true hlt)) ?_
        rw [if_pos rfl]
        have hs0 : 0 < seats := by omega
        have hdl := divs_length (g := g) hs0
        have hdb := divs_bound hg6 hs9
        obtain ⟨hc0, hc1⟩ := cmn_bound hdb
        refine ex_assign ok (.inr ⟨rfl, _, rfl⟩) (by rintro _ _ ⟨⟩) eInt ?_
        refine ex_for ok (.inl rfl) (by rintro _ _ ⟨⟩) (fun i τ => τ = ([("common", (true, .int (cmn ((divs g seats).take i)))), ("representatives", (true, il (base g votes))), ("divisors", (true, dvD (divs g seats))), ("votes", (true, il votes)), ("seats", (true, .int seats)), ("method", (true, .str m)), ("tiesallowed", (true, .bool ta))] : Sg))
          (src_list (eN rfl)) rfl ?_ ?_
        · rintro fx' i d τ hn hd rfl
          have hi : i < (divs g seats).length := by simpa using (List.getElem?_eq_some_iff.mp hd).1
          have hd' : d = .tup [.int (divs g seats)[i].1, .int (divs g seats)[i].2] := by
            rw [List.getElem?_map] at hd
            simp [hi] at hd
            exact hd.symm
          subst hd'
          have hdi := hdb _ (List.getElem_mem hi)
          refine ex_assign ok (.inr ⟨rfl, _, rfl⟩) (by rintro _ _ ⟨⟩) (eMul (eN rfl) (ev_itemT (eN rfl) eInt (by omega) (by omega) rfl) (.of_right (small_bits (by omega)))) ?_
          refine ex_forget ?_ (ex_nil ⟨rfl, rfl⟩)
          rw [cmn_succ hi]
          exact sub_cons rfl (sub_cons rfl (sub_cons rfl (sub_cons rfl (sub_cons rfl (sub_cons rfl (sub_cons rfl sub_nil))))))
        · rintro τ rfl
          rw [List.length_map, List.take_length]
          have hcb : Builtin.Int.intBits (cmn (divs g seats)) ≤ 80 := PySem.intBits_le_iff.mpr (by
            have h9 : (200 : Int) ^ (divs g seats).length ≤ 200 ^ 9 := by
              have := Nat.pow_le_pow_right (n := 200) (by decide) (show (divs g seats).length ≤ 9 by omega)
              exact_mod_cast this
            omega)
          refine ex_if ok (b := decide (4 = g)) (tst_eq (tst_in (eN rfl) (.cons (.cons (.cons .nil))) (by decide) (by with_unfolding_all rfl)) (hgm 4 (by omega) (by omega))) (ex_mono (Q := fun fl ow' σ' => fl = .next ∧ ow' = none ∧ Has σ' "weights" true (wD (wts g votes seats)) ∧ Has σ' "representatives" true (il (base g votes)) ∧ Has σ' "votes" true (il votes) ∧ Has σ' "seats" true (.int seats) ∧ Has σ' "tiesallowed" true (.bool ta)) ?_ ?_ id)
          · by_cases c4 : 4 = g
            · rw [decide_eq_true c4, if_pos rfl]
              have c4' : g = 4 := c4.symm
              refine ex_assign ok (.inr ⟨rfl, _, rfl⟩) (by rintro _ _ ⟨⟩) (ev_new (evN_comp (r := (wts g votes seats).map fun l => D.list (l.map D.int)) (f := fun i => ((wts g votes seats).map fun l => D.list (l.map D.int))[i]?) (σc := ([("divisors", (true, dvD (divs g seats))), ("common", (true, .int (cmn (divs g seats))))] : Sg))
                (src_off (src_list (eN rfl))) (by rw [List.length_map]; omega) (by rw [List.length_map]; exact range_get _ _ (by simp [wts])) (fun x => rfl) rfl rfl (by decide) (.cell (fun n => rfl) (fun h => rfl) (fun C c => rfl)) (cap_cell rfl (cap_cell rfl cap_nil)) (fun i C X d hd => by rw [show (((wts g votes seats).map fun l => D.list (l.map D.int))[i]?).isSome = true by have := (map_d hd).1; simp [wts, this]]; exact .nil) (fun i C X d e hd he => ?_))) ?_
              · obtain ⟨hi, rfl⟩ := map_d hd
                have he' : e = .list ((wt g (divs g seats) (gt votes i)).map .int) := by
                  simp [wts, gt, hi] at he ⊢
                  exact he.symm
                subst he'
                refine ev_new (evN_comp (f := fun j => ((wt g (divs g seats) (gt votes i)).map D.int)[j]?) (σc := ([("p", (true, .int (gt votes i))), ("common", (true, .int (cmn (divs g seats))))] : Sg))
                  (src_off (src_list (eN rfl))) (by rw [List.length_map]; omega) (by rw [List.length_map]; exact range_get _ _ (by simp [wt])) (fun x => rfl) rfl rfl (by decide) (.loc (fun n => rfl) (fun h => rfl) (fun C => rfl)) (cap_cell rfl (cap_cell rfl cap_nil)) (fun j C X d hd => by rw [show (((wt g (divs g seats) (gt votes i)).map D.int)[j]?).isSome = true by have : j < (divs g seats).length := (by simpa using (List.getElem?_eq_some_iff.mp hd).1); simp [wt, this]]; exact .nil) (fun j C X d e hd he => ?_))
                have hj : j < (divs g seats).length := by simpa using (List.getElem?_eq_some_iff.mp hd).1
                have hd' : d = .tup [.int (divs g seats)[j].1, .int (divs g seats)[j].2] := by
                  rw [List.getElem?_map] at hd
                  simp [hj] at hd
                  exact hd.symm
                subst hd'
                have hdj := hdb _ (List.getElem_mem hj)
                have he' : e = .int (((gt votes i * gt votes i) * (divs g seats)[j].2 * cmn (divs g seats)).fdiv (divs g seats)[j].1) := by
                  have q : ((wt g (divs g seats) (gt votes i)).map D.int)[j]? = some (.int (((if g = 4 then gt votes i * gt votes i else gt votes i) * (divs g seats)[j].2 * cmn (divs g seats)).fdiv (divs g seats)[j].1)) := by simp [wt, hj]
                  rw [q, if_pos c4'] at he
                  exact (Option.some.inj he).symm
                subst he'
                exact eDiv (eMul (eMul (eMul (ev_toint rfl (eN rfl)) (ev_toint rfl (eN rfl)) (PySem.IntMulOk.of_le (hbits _ (gt_mem hi)) (hbits _ (gt_mem hi)) (by decide))) (ev_itemT (eN rfl) eInt (by omega) (by omega) rfl) (.of_right (small_bits (by omega)))) (eN rfl) (PySem.IntMulOk.of_le (PySem.intBits_mul_le (PySem.intBits_mul_le (hbits _ (gt_mem hi)) (hbits _ (gt_mem hi))) (small_bits (x := (divs g seats)[j].2) (by omega))) hcb (by decide))) (ev_itemT (eN rfl) eInt (by omega) (by omega) rfl) (by omega) (PyProof.noPylong_small (by omega))
              · exact ex_nil ⟨rfl, rfl, rfl, rfl, rfl, rfl, rfl⟩
            · rw [decide_eq_false c4, if_neg (by decide)]
              have c4' : ¬ g = 4 := fun h => c4 h.symm
              refine ex_assign ok (.inr ⟨rfl, _, rfl⟩) (by rintro _ _ ⟨⟩) (ev_new (evN_comp (r := (wts g votes seats).map fun l => D.list (l.map D.int)) (f := fun i => ((wts g votes seats).map fun l => D.list (l.map D.int))[i]?) (σc := ([("divisors", (true, dvD (divs g seats))), ("common", (true, .int (cmn (divs g seats))))] : Sg))
                (src_off (src_list (eN rfl))) (by rw [List.length_map]; omega) (by rw [List.length_map]; exact range_get _ _ (by simp [wts])) (fun x => rfl) rfl rfl (by decide) (.cell (fun n => rfl) (fun h => rfl) (fun C c => rfl)) (cap_cell rfl (cap_cell rfl cap_nil)) (fun i C X d hd => by rw [show (((wts g votes seats).map fun l => D.list (l.map D.int))[i]?).isSome = true by have := (map_d hd).1; simp [wts, this]]; exact .nil) (fun i C X d e hd he => ?_))) ?_
              · obtain ⟨hi, rfl⟩ := map_d hd
                have he' : e = .list ((wt g (divs g seats) (gt votes i)).map .int) := by
                  simp [wts, gt, hi] at he ⊢
                  exact he.symm
                subst he'
                refine ev_new (evN_comp (f := fun j => ((wt g (divs g seats) (gt votes i)).map D.int)[j]?) (σc := ([("p", (true, .int (gt votes i))), ("common", (true, .int (cmn (divs g seats))))] : Sg))
                  (src_off (src_list (eN rfl))) (by rw [List.length_map]; omega) (by rw [List.length_map]; exact range_get _ _ (by simp [wt])) (fun x => rfl) rfl rfl (by decide) (.loc (fun n => rfl) (fun h => rfl) (fun C => rfl)) (cap_cell rfl (cap_cell rfl cap_nil)) (fun j C X d hd => by rw [show (((wt g (divs g seats) (gt votes i)).map D.int)[j]?).isSome = true by have : j < (divs g seats).length := (by simpa using (List.getElem?_eq_some_iff.mp hd).1); simp [wt, this]]; exact .nil) (fun j C X d e hd he => ?_))
                have hj : j < (divs g seats).length := by simpa using (List.getElem?_eq_some_iff.mp hd).1
                have hd' : d = .tup [.int (divs g seats)[j].1, .int (divs g seats)[j].2] := by
                  rw [List.getElem?_map] at hd
                  simp [hj] at hd
                  exact hd.symm
                subst hd'
                have hdj := hdb _ (List.getElem_mem hj)
                have he' : e = .int (((gt votes i) * (divs g seats)[j].2 * cmn (divs g seats)).fdiv (divs g seats)[j].1) := by
                  have q : ((wt g (divs g seats) (gt votes i)).map D.int)[j]? = some (.int (((if g = 4 then gt votes i * gt votes i else gt votes i) * (divs g seats)[j].2 * cmn (divs g seats)).fdiv (divs g seats)[j].1)) := by simp [wt, hj]
                  rw [q, if_neg c4'] at he
                  exact (Option.some.inj he).symm
                subst he'
                exact eDiv (eMul (eMul (ev_toint rfl (eN rfl)) (ev_itemT (eN rfl) eInt (by omega) (by omega) rfl) (.of_right (small_bits (by omega)))) (eN rfl) (PySem.IntMulOk.of_le (PySem.intBits_mul_le (hbits _ (gt_mem hi)) (small_bits (x := (divs g seats)[j].2) (by omega))) hcb (by decide))) (ev_itemT (eN rfl) eInt (by omega) (by omega) rfl) (by omega) (PyProof.noPylong_small (by omega))
              · exact ex_nil ⟨rfl, rfl, rfl, rfl, rfl, rfl, rfl⟩
          · rintro fl ow' σ' ⟨rfl, rfl, w1, w2, w3, w4, w5⟩
            refine ex_forget (σ' := ([("weights", (true, wD (wts g votes seats))), ("representatives", (true, il (base g votes))), ("votes", (true, il votes)), ("seats", (true, .int seats)), ("tiesallowed", (true, .bool ta))] : Sg)) (sub_cons w1 (sub_cons w2 (sub_cons w3 (sub_cons w4 (sub_cons w5 sub_nil))))) ?_
            have hfl : (wts g votes seats).flatten.length = votes.length * seats := by rw [wts_flat_length, hdl]
            have hfl2 : votes.length * seats ≤ 45 := Nat.mul_le_mul hlen hs9
            have hfl3 : seats ≤ votes.length * seats := Nat.le_mul_of_pos_left _ hl0
            have hsl : (srt (wts g votes seats).flatten).length = votes.length * seats := by rw [(srt_ok _).1.length_eq, hfl]
            refine ex_assign ok (.inl rfl) (by rintro _ _ ⟨⟩) (ev_call (k := true) gl_sorted (.builtin _) (evs_cons (ev_new (evN_flat (src_off (src_list (eN rfl))) (by omega) (fun x => rfl) rfl rfl (by decide) (fun n => rfl) (fun h => rfl) (fun C => rfl) (fun C => rfl))) evs_nil) (clv_sorted (srt_ok (wts g votes seats).flatten) (by omega))) ?_
            refine ex_assign ok (.inr ⟨rfl, _, rfl⟩) (by rintro _ _ ⟨⟩) (d := .int (minw g votes seats)) (ev_item_neg (l := (srt (wts g votes seats).flatten).map .int) (eN rfl) (eAdd (eNeg (eN rfl)) (ev_sum rfl (eN rfl))) (by omega) (by rw [List.length_map]; omega) (by omega) ?_) ?_
            · rw [List.length_map, hsl]
              unfold minw
              rw [hfl]
              exact gt_get (by omega)
            refine ex_own ok (.inr ⟨rfl, _, rfl⟩) (evN_comp (r := (above g votes seats).map .int) (f := fun i => some (.int (gt (base g votes) i + ((gw (wts g votes seats) i).filter fun w => decide (minw g votes seats < w)).length))) (σc := ([("representatives", (true, il (base g votes))), ("weights", (true, wD (wts g votes seats))), ("minweight", (true, .int (minw g votes seats)))] : Sg))
              (src_off (src_rlen rfl rfl (eN rfl) hv5)) (by rw [rangeD_length, List.length_map]; omega) (by rw [List.length_map, comp_map (n := votes.length) (fun i => gt (base g votes) i + ((gw (wts g votes seats) i).filter fun w => decide (minw g votes seats < w)).length)]; rfl) (fun x => rfl) rfl rfl (by decide) (.loc (fun n => rfl) (fun h => rfl) (fun C => rfl)) (cap_cell rfl (cap_cell rfl (cap_cell rfl cap_nil))) (fun i C X d hd => .nil) (fun i C X d e hd he => ?_)) (fun a ha => ?_)
            · obtain ⟨hi, rfl⟩ := rangeD0_get hd
              rw [List.length_map] at hi
              cases he
              have hwl : (gw (wts g votes seats) i).length = seats := by rw [wts_get hi]; simp [wt, hdl]
              have hwi : ((wts g votes seats).map fun l => D.list (l.map D.int))[(i : Int).toNat]? = some (.list ((gw (wts g votes seats) i).map .int)) := by
                rw [Int.toNat_natCast, wts_get hi]; simp [wts, gt, hi]
              have hfil := List.length_filter_le (fun w => decide (minw g votes seats < w)) (gw (wts g votes seats) i)
              refine eAdd (ev_at (eN rfl) (eN rfl) (by omega) (by omega)) (ev_eq (ev_len rfl (ev_new (k := true) (evN_comp (r := ((gw (wts g votes seats) i).filter fun w => decide (minw g votes seats < w)).map .int) (f := fun j => if minw g votes seats < gt (gw (wts g votes seats) i) j then some (.int (gt (gw (wts g votes seats) i) j)) else none) (σc := ([("minweight", (true, .int (minw g votes seats)))] : Sg))
                (src_off (src_list (ev_item (eN rfl) (eN rfl) (by omega) (by omega) hwi))) (by rw [List.length_map]; omega) (comp_filter _ _) (fun x => rfl) rfl rfl (by decide) (.loc (fun n => rfl) (fun h => rfl) (fun C => rfl)) (cap_cell rfl cap_nil) (fun j C X d hd => ?_) (fun j C X d e hd he => ?_))) (by rw [List.length_map]; omega)) (by rw [List.length_map]))
              · obtain ⟨hj, rfl⟩ := map_d hd
                refine .one (tst_eq (tst_cmp (eN rfl) (eN rfl) cmp_gt) ?_)
                by_cases c : minw g votes seats < gt (gw (wts g votes seats) i) j <;> simp [c]
              · obtain ⟨hj, rfl⟩ := map_d hd
                split at he
                · cases he; exact eN rfl
                · cases he
            refine ex_nil ?_
            have hal : (above g votes seats).length = votes.length := by simp [above]
            refine ex_assign ok (.inl rfl) (by rintro _ _ ⟨⟩; decide) eBool ?_
            refine ex_forget (σ' := ([("representatives", (false, il (above g votes seats))), ("ties", (true, .bool false)), ("weights", (true, wD (wts g votes seats))), ("minweight", (true, .int (minw g votes seats))), ("votes", (true, il votes)), ("seats", (true, .int seats)), ("tiesallowed", (true, .bool ta))] : Sg)) (sub_cons rfl (sub_cons rfl (sub_cons rfl (sub_cons rfl (sub_cons rfl (sub_cons rfl (sub_cons rfl sub_nil))))))) ?_
            refine ex_if ok (b := decide ((above g votes seats).sum < (seats : Int))) (tst_cmp (eN rfl) (ev_sum rfl (eO rfl)) cmp_gt) (ex_mono (Q := fun fl ow' σ' => fl = .next ∧ ow' = some (("representatives" : Str), a) ∧ Has σ' "representatives" false (il (dvAll g votes seats).1) ∧ Has σ' "ties" true (.bool (dvAll g votes seats).2) ∧ Has σ' "tiesallowed" true (.bool ta)) ?_ ?_ id)
            · by_cases hab : (above g votes seats).sum < (seats : Int)
              · rw [decide_eq_true hab, if_pos rfl]
                have hall : dvAll g votes seats = dvRun (wts g votes seats) (minw g votes seats) seats (above g votes seats) votes.length := by unfold dvAll; rw [if_pos hlt, if_pos hab]
                refine ex_for ok (.inl rfl) (by rintro _ _ ⟨⟩; decide) (fun i τ => (ta = false → (dvRun (wts g votes seats) (minw g votes seats) seats (above g votes seats) i).2 = false) ∧ τ = ([("representatives", (false, il (dvRun (wts g votes seats) (minw g votes seats) seats (above g votes seats) i).1)), ("ties", (true, .bool (dvRun (wts g votes seats) (minw g votes seats) seats (above g votes seats) i).2)), ("weights", (true, wD (wts g votes seats))), ("minweight", (true, .int (minw g votes seats))), ("votes", (true, il votes)), ("seats", (true, .int seats)), ("tiesallowed", (true, .bool ta))] : Sg))
                  (src_rlen rfl rfl (eN rfl) hv5) ⟨fun _ => rfl, rfl⟩ ?_ ?_
                · rintro fx' i d τ hn hd ⟨hta, rfl⟩
                  obtain ⟨hi, rfl⟩ := rangeD0_get hd
                  rw [List.length_map] at hi
                  have hwi : ((wts g votes seats).map fun l => D.list (l.map D.int))[(i : Int).toNat]? = some (il (gw (wts g votes seats) i)) := by
                    rw [Int.toNat_natCast, wts_get hi]; simp [wts, gt, hi, il]
                  have hmono := fun h => dvRun_mono (wts g votes seats) (minw g votes seats) seats (above g votes seats) (i := i + 1) h (votes.length - (i + 1))
                  rw [show i + 1 + (votes.length - (i + 1)) = votes.length by omega, ← hall] at hmono
                  have hstl0 := dvRun_length (wts g votes seats) (minw g votes seats) seats (above g votes seats) i
                  have hnext := dvRun_succ (wts g votes seats) (minw g votes seats) seats (above g votes seats) i
                  revert hta hstl0 hnext
                  generalize dvRun (wts g votes seats) (minw g votes seats) seats (above g votes seats) i = st
                  intro hta hstl0 hnext
                  have hstl : st.1.length = votes.length := by rw [hstl0, hal]
                  have hfa : ¬ fx' a := hn a (List.mem_singleton.mpr rfl) (List.mem_singleton.mpr rfl) ha
                  rw [hnext] at hmono
                  rw [hnext]
                  by_cases c1 : st.1.sum = seats ∧ (gw (wts g votes seats) i).any (· == minw g votes seats) = true
                  · have e : dvStep (wts g votes seats) (minw g votes seats) seats st i = (st.1, true) := by unfold dvStep; rw [if_pos c1]
                    rw [e] at hmono ⊢
                    refine ex_if ok (b := true) (tst_eq (a := ((st.1.sum == (seats : Int)) && (gw (wts g votes seats) i).any (· == minw g votes seats))) (tst_and (tst_cmp (ev_sum rfl (eO rfl)) (eN rfl) cmp_eq) fun _ => tst_cmp (eN rfl) (ev_item (d := il (gw (wts g votes seats) i)) (eN rfl) (eN rfl) (by omega) (by omega) hwi) cmp_in_ints) (by rw [c1.2]; simpa using c1.1)) ?_
                    rw [if_pos rfl]
                    have fin : ∀ τ : Sg, ta = true → Has τ "representatives" false (il st.1) → Has τ "ties" true (.bool true) → Has τ "weights" true (wD (wts g votes seats)) → Has τ "minweight" true (.int (minw g votes seats)) → Has τ "votes" true (il votes) → Has τ "seats" true (.int seats) → Has τ "tiesallowed" true (.bool ta) → Has τ "i" true (.int i) → Sub ([("representatives", (false, il st.1)), ("ties", (true, .bool true)), ("weights", (true, wD (wts g votes seats))), ("minweight", (true, .int (minw g votes seats))), ("votes", (true, il votes)), ("seats", (true, .int seats)), ("tiesallowed", (true, .bool ta)), ("i", (true, .int i))] : Sg) τ := fun τ _ a1 a2 a3 a4 a5 a6 a7 a8 =>
                      sub_cons a1 (sub_cons a2 (sub_cons a3 (sub_cons a4 (sub_cons a5 (sub_cons a6 (sub_cons a7 (sub_cons a8 sub_nil)))))))
                    refine ex_if ok (tst_not (tst_val (eN rfl) tru_bool)) (ex_mono (Q := fun fl ow' σ' => fl = .next ∧ ow' = some (("representatives" : Str), a) ∧ ta = true ∧ Sub ([("representatives", (false, il st.1)), ("ties", (true, .bool true)), ("weights", (true, wD (wts g votes seats))), ("minweight", (true, .int (minw g votes seats))), ("votes", (true, il votes)), ("seats", (true, .int seats)), ("tiesallowed", (true, .bool ta)), ("i", (true, .int i))] : Sg) σ') ?_ ?_ id)
                    · have hs2 : st.2 = true ∨ st.2 = false := by cases st.2 <;> simp
                      rcases hs2 with hs2 | hs2
                      · have hta' : ta = true := by
                          cases ta with
                          | true => rfl
                          | false => rw [hta rfl] at hs2; cases hs2
                        rw [hs2]
                        exact ex_nil ⟨rfl, rfl, hta', fin _ hta' rfl rfl rfl rfl rfl rfl rfl rfl⟩
                      · rw [hs2]
                        refine ex_if ok (tst_not (tst_val (eN (d := .bool ta) rfl) tru_bool)) ?_
                        cases hta2 : ta with
                        | false => exact ex_raise ok is_exc rfl eStr (by rw [hmono rfl]; rfl)
                        | true =>
                          refine ex_nil (ex_assign ok (.inl rfl) (by rintro _ _ ⟨⟩; decide) eBool (ex_nil ⟨rfl, rfl, rfl, ?_⟩))
                          have := fin (("ties", (true, .bool true)) :: ("i", (true, .int i)) :: ([("representatives", (false, il st.1)), ("ties", (true, .bool false)), ("weights", (true, wD (wts g votes seats))), ("minweight", (true, .int (minw g votes seats))), ("votes", (true, il votes)), ("seats", (true, .int seats)), ("tiesallowed", (true, .bool ta))] : Sg)) hta2 rfl rfl rfl rfl rfl rfl rfl rfl
                          rw [hta2] at this
                          exact this
                    · rintro fl ow' σ' ⟨rfl, rfl, hta', hsub⟩
                      refine ex_nil (ex_forget hsub ?_)
                      refine ex_if ok (b := false) (tst_eq (a := (decide (st.1.sum < (seats : Int)) && (gw (wts g votes seats) i).any (· == minw g votes seats))) (tst_and (tst_cmp (ev_sum rfl (eO rfl)) (eN rfl) cmp_lt) fun _ => tst_cmp (eN rfl) (ev_item (d := il (gw (wts g votes seats) i)) (eN rfl) (eN rfl) (by omega) (by omega) hwi) cmp_in_ints) (by rw [decide_eq_false (by omega), Bool.false_and])) (ex_nil ?_)
                      refine ex_forget ?_ (ex_nil ⟨rfl, (fun h => by rw [hta'] at h; cases h), rfl⟩)
                      exact (sub_cons rfl (sub_cons rfl (sub_cons rfl (sub_cons rfl (sub_cons rfl (sub_cons rfl (sub_cons rfl sub_nil)))))))
                  · refine ex_if ok (b := false) (tst_eq (a := ((st.1.sum == (seats : Int)) && (gw (wts g votes seats) i).any (· == minw g votes seats))) (tst_and (tst_cmp (ev_sum rfl (eO rfl)) (eN rfl) cmp_eq) fun _ => tst_cmp (eN rfl) (ev_item (d := il (gw (wts g votes seats) i)) (eN rfl) (eN rfl) (by omega) (by omega) hwi) cmp_in_ints) (by rw [Bool.eq_false_iff]; intro h; rw [Bool.and_eq_true] at h; exact c1 ⟨by simpa using h.1, h.2⟩)) (ex_nil ?_)
                    by_cases c2 : st.1.sum < seats ∧ (gw (wts g votes seats) i).any (· == minw g votes seats) = true
                    · have e : dvStep (wts g votes seats) (minw g votes seats) seats st i = (bump st.1 i, st.2) := by unfold dvStep; rw [if_neg c1, if_pos c2]
                      rw [e] at hmono ⊢
                      refine ex_if ok (b := true) (tst_eq (a := (decide (st.1.sum < (seats : Int)) && (gw (wts g votes seats) i).any (· == minw g votes seats))) (tst_and (tst_cmp (ev_sum rfl (eO rfl)) (eN rfl) cmp_lt) fun _ => tst_cmp (eN rfl) (ev_item (d := il (gw (wts g votes seats) i)) (eN rfl) (eN rfl) (by omega) (by omega) hwi) cmp_in_ints) (by rw [c2.2, decide_eq_true c2.1]; rfl)) ?_
                      rw [if_pos rfl]
                      refine ex_aug ok rfl (il_flat st.1) hfa (eN rfl) eInt (by omega) (by omega) (by rw [Int.toNat_natCast]; exact gt_get (by omega)) (ex_nil ?_)
                      rw [Int.toNat_natCast, bump_map]
                      refine ex_forget ?_ (ex_nil ⟨rfl, hta, rfl⟩)
                      exact (sub_cons rfl (sub_cons rfl (sub_cons rfl (sub_cons rfl (sub_cons rfl (sub_cons rfl (sub_cons rfl sub_nil)))))))
                    · have e : dvStep (wts g votes seats) (minw g votes seats) seats st i = st := by unfold dvStep; rw [if_neg c1, if_neg c2]
                      rw [e] at hmono ⊢
                      refine ex_if ok (b := false) (tst_eq (a := (decide (st.1.sum < (seats : Int)) && (gw (wts g votes seats) i).any (· == minw g votes seats))) (tst_and (tst_cmp (ev_sum rfl (eO rfl)) (eN rfl) cmp_lt) fun _ => tst_cmp (eN rfl) (ev_item (d := il (gw (wts g votes seats) i)) (eN rfl) (eN rfl) (by omega) (by omega) hwi) cmp_in_ints) (by rw [Bool.eq_false_iff]; intro h; rw [Bool.and_eq_true] at h; exact c2 ⟨by simpa using h.1, h.2⟩)) (ex_nil ?_)
                      refine ex_forget ?_ (ex_nil ⟨rfl, hta, rfl⟩)
                      exact (sub_cons rfl (sub_cons rfl (sub_cons rfl (sub_cons rfl (sub_cons rfl (sub_cons rfl (sub_cons rfl sub_nil)))))))
                · rintro τ ⟨hta, rfl⟩
                  rw [rangeD_length, List.length_map]
                  exact ex_nil ⟨rfl, rfl, by rw [hall]; rfl, by rw [hall]; rfl, rfl⟩
              · rw [decide_eq_false hab, if_neg (by decide)]
                have hall : dvAll g votes seats = (above g votes seats, false) := by unfold dvAll; rw [if_pos hlt, if_neg hab]
                exact ex_nil ⟨rfl, rfl, by rw [hall]; rfl, by rw [hall]; rfl, rfl⟩
            · rintro fl ow' σ' ⟨rfl, rfl, h1, h2, h3⟩
              refine ex_if ok (b := (dvAll g votes seats).2 && !ta) (tst_and (tst_val (eN h2) tru_bool) fun _ => tst_not (tst_val (eN h3) tru_bool)) ?_
              by_cases hb : ((dvAll g votes seats).2 && !ta) = true
              · rw [if_pos hb]
                exact ex_raise ok is_exc rfl eStr hb
              · rw [if_neg hb]
                refine ex_nil ?_
                exact ex_return ok (eO h1) ⟨_, _, rfl, by simpa using hb, rfl⟩
      · have hall : dvAll g votes seats = (base g votes, false) := by unfold dvAll; rw [if_neg hlt]
        refine ex_if ok (b := false) (tst_eq (tst_cmp (eN rfl) (ev_sum rfl (eN rfl)) cmp_gt) (decide_eq_false hlt)) (ex_nil ?_)
        refine ex_assign ok (.inl rfl) (by rintro _ _ ⟨⟩) eBool ?_
        refine ex_if ok (b := false) (tst_eq (tst_cmp (eN rfl) (ev_sum rfl (eN rfl)) cmp_gt) (decide_eq_false hlt)) (ex_nil ?_)
        refine ex_if ok (b := false) (tst_eq (a := (false && !ta)) (tst_and (tst_val (eN rfl) tru_bool) fun _ => tst_not (tst_val (eN rfl) tru_bool)) (by simp)) (ex_nil ?_)
        exact ex_return ok (eN rfl) ⟨_, _, rfl, by rw [hall]; rfl, by rw [hall]⟩
end
end Jg
end PartJgD

noncomputable section PartJgC
open PySem PySem.W PySem.Calls PyProof.Rows
namespace Jg

/-- a def of the program, asked with data, gives what P says, or raises where T holds; m calls lie below it -/
def Can (W : Wd) (m : Nat) (f : Addr) (ps : List Str) (ds : List D) (P : D → Prop) (T : Prop) : Prop := ∃ fd body, Fn W f fd ps body ∧ ∀ n, m ≤ n → Does W (.ref 24) n f fd ps body ds P T
theorem callx_can {W : Wd} {c : Cx} {ow : Ow} {σ : Sg} {T : Prop} {n m : Nat} {f : Addr} {ps : List Str} {ds : List D} {P : D → Prop} {x : Str} {np pos : Pos} {es : List Expr} (ok : COk W c) (lv : Lv c (n + 1)) (hn : m ≤ n) (hf : EvV W c.A c.env (oas ow) σ (.Name x np) (.ref f))
    (F : Can W m f ps ds P T) (hlen : ps.length = ds.length) (hs : ArgsK W c ow σ es ds) (hplain : (backTo pos (starEach es c.env)).any (·.1) = false := by rfl) : CallX W c (.ref 24) ow σ (.Call (.Name x np) es [] pos) P T := by
  obtain ⟨fd, body, hF, hD⟩ := F
  exact callx_fn ok lv hf hF (hD n hn) hlen hs hplain
theorem argsE {W : Wd} {c : Cx} {ow : Ow} {σ : Sg} {k : Bool} {e : Expr} {es : List Expr} {d : D} {ds : List D} (ok : COk W c) (h1 : Ev W c.A c.env (oas ow) σ k e d) (h2 : ArgsK W c ow σ es ds) (he : starEach (e :: es) c.env = (false, eval e c.env) :: starEach es c.env := by rfl) :
    ArgsK W c ow σ (e :: es) (d :: ds) := argsK_cons (cls := .ref 24) ok (callx_of ok h1) h2 he

theorem callx_lift {W : Wd} {c : Cx} {cls : Value} {ow : Ow} {σ : Sg} {e : Expr} {P : D → Prop} {T : Prop} (h : CallX W c cls ow σ e P False) : CallX W c cls ow σ e P T := fun s E S _ => h s E S fun t => t.elim

section
variable {prog : Program} {w : World} {mean : ExcName → Option Value} {mg mb : Str → Option Value} {P : D → Prop} {T : Prop}
theorem can_compute (at' : Nat) (hat : at' < 18) (m : Str) (hm : names[at']? = some m) (votes : List Int) (seats : Nat) (ta : Bool)
    (hq : at' = 14 → Can (wd prog w mean mg mb) 0 67 ["votes", "seats", "tiesallowed"] [il votes, .int seats, .bool ta] P T)
    (hl : 14 < at' → Can (wd prog w mean mg mb) 0 48 ["votes", "seats", "tiesallowed"] [il votes, .int seats, .bool ta] P T)
    (hd : at' < 14 → Can (wd prog w mean mg mb) 0 54 ["votes", "seats", "method", "tiesallowed"] [il votes, .int seats, .str m, .bool ta] P T) :
    Can (wd prog w mean mg mb) 1 35 ["method", "votes", "seats", "threshold", "tiesallowed"] [.str m, il votes, .int seats, .none, .bool ta] P T := by
  refine ⟨_, _, ⟨rfl, rfl, rfl, rfl, rfl, rfl, rfl, by decide, ?_, ?_, ⟨_, _, _, rfl⟩, by rfl⟩, ?_⟩
  · intro s vs K h
    match vs, h with
    | [a, b, c, d, e], _ => exact .of_defaults rfl (K _ _ rfl) rfl rfl rfl
  · intro x hx n
    simp only [List.mem_cons, List.not_mem_nil, or_false] at hx
    rcases hx with rfl | rfl | rfl | rfl | rfl <;> exact .inl rfl
  · rintro n hn ⟨A₀, basE, outer, hG, env⟩ ok lv ⟨L, hL⟩
    change env = _ at hL
    subst hL
    obtain ⟨n, rfl⟩ : ∃ k, n = k + 1 := ⟨n - 1, by omega⟩
    obtain ⟨fa, ba, hFa, hDa⟩ := fn_apply (prog := prog) (w := w) (mean := mean) (mg := mg) (mb := mb) (cls := .ref 24) (n := n)
    have e14 : (m == Str.ofString "quota") = decide (at' = 14) := by
      have : ∀ k < 18, ∀ x, names[k]? = some x → (x == Str.ofString "quota") = decide (k = 14) := by decide
      exact this at' hat m hm
    have e15 : (([Str.ofString "lrm", Str.ofString "hamilton", Str.ofString "largest_remainder"] : List Str).any (· == m)) = decide (14 < at') := by
      have : ∀ k < 18, ∀ x, names[k]? = some x → (([Str.ofString "lrm", Str.ofString "hamilton", Str.ofString "largest_remainder"] : List Str).any (· == x)) = decide (14 < k) := by decide
      exact this at' hat m hm
    refine ex_assign_call (P := (· = il votes)) ok (.inl rfl) (by rintro _ _ ⟨⟩) (.inl rfl) (callx_lift (callx_fn ok lv gl_apply hFa (hDa (il votes)) rfl (argsE ok (eN rfl) (argsE ok (eN rfl) argsK_nil)))) ?_
    rintro d rfl
    have e0 : ∀ k < 18, ∀ x, names[k]? = some x → (([Str.ofString "dhondt", Str.ofString "jefferson", Str.ofString "saintelague", Str.ofString "webster", Str.ofString "modified_saintelague", Str.ofString "huntington", Str.ofString "hill", Str.ofString "adams", Str.ofString "dean", Str.ofString "smallestdivisor", Str.ofString "harmonicmean", Str.ofString "equalproportions", Str.ofString "majorfractions", Str.ofString "greatestdivisors"] : List Str).any (· == x)) = decide (k < 14) := by decide
    refine ex_if ok (b := decide (at' = 14)) (tst_eq (tst_cmp (eN rfl) eStr cmp_eq_str) e14) ?_
    by_cases c1 : at' = 14
    · rw [decide_eq_true c1, if_pos rfl]
      exact ex_return_call ok (callx_can ok lv (by omega) gl_quota (hq c1) rfl (argsE ok (eN rfl) (argsE ok (eN rfl) (argsE ok (eN rfl) argsK_nil)))) (fun d p => ⟨_, _, rfl, p⟩)
    rw [decide_eq_false c1, if_neg (by decide)]
    refine ex_if ok (b := decide (14 < at')) (tst_eq (tst_in (eN rfl) (.cons (.cons (.cons .nil))) (by decide) (by with_unfolding_all rfl)) e15) ?_
    by_cases c2 : 14 < at'
    · rw [decide_eq_true c2, if_pos rfl]
      exact ex_return_call ok (callx_can ok lv (by omega) gl_lr (hl c2) rfl (argsE ok (eN rfl) (argsE ok (eN rfl) (argsE ok (eN rfl) argsK_nil)))) (fun d p => ⟨_, _, rfl, p⟩)
    rw [decide_eq_false c2, if_neg (by decide)]
    have c3 : at' < 14 := by omega
    refine ex_if ok (b := true) (tst_eq (tst_in (eN rfl) (.cons (.cons (.cons (.cons (.cons (.cons (.cons (.cons (.cons (.cons (.cons (.cons (.cons (.cons .nil)))))))))))))) (by decide) (by with_unfolding_all rfl)) ((e0 at' hat m hm).trans (decide_eq_true c3))) ?_
    rw [if_pos rfl]
    exact ex_return_call ok (callx_can ok lv (by omega) gl_divisor (hd c3) rfl (argsE ok (eN rfl) (argsE ok (eN rfl) (argsE ok (eN rfl) (argsE ok (eN rfl) argsK_nil))))) (fun d p => ⟨_, _, rfl, p⟩)

theorem can_run (at' : Nat) (hat : at' < 18) (m : Str) (hm : names[at']? = some m) (way : Int) (votes : List Int) (seats : Nat) (ta : Bool) (hlen : votes.length ≤ 5)
    (hq : at' = 14 → Can (wd prog w mean mg mb) 0 67 ["votes", "seats", "tiesallowed"] [il votes, .int seats, .bool ta] P T)
    (hl : 14 < at' → Can (wd prog w mean mg mb) 0 48 ["votes", "seats", "tiesallowed"] [il votes, .int seats, .bool ta] P T)
    (hd : at' < 14 → Can (wd prog w mean mg mb) 0 54 ["votes", "seats", "method", "tiesallowed"] [il votes, .int seats, .str m, .bool ta] P T) :
    Can (wd prog w mean mg mb) 2 93 ["at", "way", "votes", "seats", "ties"] [.int at', .int way, il votes, .int seats, .bool ta] (fun d => P d ∨ (T ∧ d = .str "tie")) False := by
  refine ⟨_, _, ⟨rfl, rfl, rfl, rfl, rfl, rfl, rfl, by decide, ?_, ?_, ⟨_, _, _, rfl⟩, by rfl⟩, ?_⟩
  · intro s vs K h
    match vs, h with
    | [a, b, c, d, e], _ => exact .of_eq rfl
  · intro x hx n
    simp only [List.mem_cons, List.not_mem_nil, or_false] at hx
    rcases hx with rfl | rfl | rfl | rfl | rfl <;> exact .inl rfl
  · rintro n hn ⟨A₀, basE, outer, hG, env⟩ ok lv ⟨L, hL⟩
    change env = _ at hL
    subst hL
    obtain ⟨n, rfl⟩ : ∃ k, n = k + 2 := ⟨n - 2, by omega⟩
    obtain ⟨fa, ba, hFa, hDa⟩ := fn_names (prog := prog) (w := w) (mean := mean) (mg := mg) (mb := mb) (cls := .ref 24) (n := n + 1)
    have hcomp := can_compute (prog := prog) (w := w) (mean := mean) (mg := mg) (mb := mb) at' hat m hm votes seats ta hq hl hd
    have hv5 : (votes.map D.int).length ≤ 10000000 := by rw [List.length_map]; omega
    have hnm : (names.map D.str)[(at' : Int).toNat]? = some (.str m) := by rw [Int.toNat_natCast, List.getElem?_map, hm]; rfl
    refine ex_assign ok (.inl rfl) (by rintro _ _ ⟨⟩) (ev_new (ev_slice_all (eN rfl) hv5)) ?_
    refine ex_try (T' := T) ok (.inl rfl) is_exc ?_ ?_
    · refine exr_if ok (b := decide (way = 0)) (tst_eq (tst_cmp (eN rfl) eInt cmp_eq) (by rw [Bool.eq_iff_iff]; simp)) ?_
      by_cases c1 : way = 0
      · rw [decide_eq_true c1, if_pos rfl]
        refine exr_assign ok (.inl rfl) (callx_can ok lv (by omega) gl_compute hcomp rfl (argsK_cons (cls := .ref 24) ok (callx_item ok (callx_fn ok lv gl_names hFa hDa rfl argsK_nil) (eN rfl) (by omega) (by omega) hnm) (argsE ok (eN rfl) (argsE ok (eN rfl) (argsE ok eNone (argsE ok (eN rfl) argsK_nil)))))) fun d p => ?_
        exact ex_return ok (ev_if (k := true) (d := d) (q := true) (tst_eq (tst_cmp (eN rfl) (eN rfl) cmp_eq_ints) (by simp)) (fun _ => eN rfl) (fun h => by cases h)) ⟨_, _, rfl, .inl p⟩
      rw [decide_eq_false c1, if_neg (by decide)]
      refine exr_if ok (b := decide (at' = 14)) (tst_eq (tst_cmp (eN rfl) eInt cmp_eq) (by rw [Bool.eq_iff_iff]; simp; omega)) ?_
      by_cases c2 : at' = 14
      · rw [decide_eq_true c2, if_pos rfl]
        refine exr_assign ok (.inl rfl) (callx_can ok lv (by omega) gl_quota (hq c2) rfl (argsE ok (eN rfl) (argsE ok (eN rfl) (argsE ok (eN rfl) argsK_nil)))) fun d p => ?_
        exact ex_return ok (ev_if (k := true) (d := d) (q := true) (tst_eq (tst_cmp (eN rfl) (eN rfl) cmp_eq_ints) (by simp)) (fun _ => eN rfl) (fun h => by cases h)) ⟨_, _, rfl, .inl p⟩
      rw [decide_eq_false c2, if_neg (by decide)]
      refine exr_if ok (b := decide (14 < at')) (tst_eq (tst_cmp (eN rfl) eInt cmp_gt) (by rw [Bool.eq_iff_iff]; simp; omega)) ?_
      by_cases c3 : 14 < at'
      · rw [decide_eq_true c3, if_pos rfl]
        refine exr_assign ok (.inl rfl) (callx_can ok lv (by omega) gl_lr (hl c3) rfl (argsE ok (eN rfl) (argsE ok (eN rfl) (argsE ok (eN rfl) argsK_nil)))) fun d p => ?_
        exact ex_return ok (ev_if (k := true) (d := d) (q := true) (tst_eq (tst_cmp (eN rfl) (eN rfl) cmp_eq_ints) (by simp)) (fun _ => eN rfl) (fun h => by cases h)) ⟨_, _, rfl, .inl p⟩
      rw [decide_eq_false c3, if_neg (by decide)]
      refine exr_assign ok (.inl rfl) (callx_can ok lv (by omega) gl_divisor (hd (by omega)) rfl (argsE ok (eN rfl) (argsE ok (eN rfl) (argsK_cons (cls := .ref 24) ok (callx_item ok (callx_fn ok lv gl_names hFa hDa rfl argsK_nil) (eN rfl) (by omega) (by omega) hnm) (argsE ok (eN rfl) argsK_nil))))) fun d p => ?_
      exact ex_return ok (ev_if (k := true) (d := d) (q := true) (tst_eq (tst_cmp (eN rfl) (eN rfl) cmp_eq_ints) (by simp)) (fun _ => eN rfl) (fun h => by cases h)) ⟨_, _, rfl, .inl p⟩
    · intro t
      exact ex_return ok (ev_if (k := true) (d := .str "tie") (q := true) (tst_eq (tst_cmp (eN rfl) (eN rfl) cmp_eq_ints) (by simp)) (fun _ => eN rfl) (fun h => by cases h)) ⟨_, _, rfl, .inr ⟨t, rfl⟩⟩
end
end Jg
end PartJgC

noncomputable section PartJg15
open PySem PySem.W PySem.Calls PyProof.Rows
namespace Jg

/-- the questions of the sort, answered by lt: they all ask for places below n, and the end is good -/
noncomputable def chk (good : Array Nat → Bool) (n : Nat) (lt : Nat → Nat → Bool) : KasT (Array Nat) → Bool
  | .ret p => good p
  | .ask i j k => decide (i < n) && decide (j < n) && chk good n lt (k (lt i j))
theorem chk_wp {good : Array Nat → Bool} {n : Nat} {lt : Nat → Nat → Bool} {cmp : Nat → Nat → (Bool → Shared → Prop) → Shared → Prop} {I : Shared → Prop} {Q : Array Nat → Shared → Prop}
    (hcmp : ∀ i j C s, i < n → j < n → I s → (∀ s', I s' → C (lt i j) s') → cmp i j C s) (hq : ∀ p s', good p = true → I s' → Q p s') : ∀ (t : KasT (Array Nat)) (s : Shared), chk good n lt t = true → I s → t.kasWp cmp Q s
  | .ret p, s, h, i => hq p s h i
  | .ask a b k, s, h, i => by
    unfold chk at h
    simp only [Bool.and_eq_true, decide_eq_true_eq] at h
    exact hcmp a b _ s h.1.1 h.1.2 i fun s' i' => chk_wp hcmp hq (k (lt a b)) s' h.2 i'
theorem chk_congr {good : Array Nat → Bool} {n : Nat} {lt lt' : Nat → Nat → Bool} (e : ∀ i j, i < n → j < n → lt i j = lt' i j) : ∀ t : KasT (Array Nat), chk good n lt t = true → chk good n lt' t = true
  | .ret p, h => h
  | .ask a b k, h => by
    unfold chk at h ⊢
    simp only [Bool.and_eq_true, decide_eq_true_eq] at h ⊢
    rw [← e a b h.1.1 h.1.2]
    exact ⟨h.1, chk_congr e _ h.2⟩
noncomputable def listsOf (m : Nat) : Nat → List (List Nat)
  | 0 => [[]]
  | k + 1 => (listsOf m k).flatMap fun l => (List.range m).map (· :: l)
theorem mem_listsOf {m : Nat} : ∀ (l : List Nat), (∀ x ∈ l, x < m) → l ∈ listsOf m l.length
  | [], _ => by simp [listsOf]
  | x :: l, h => by
    simp only [listsOf, List.length_cons, List.mem_flatMap, List.mem_map, List.mem_range]
    exact ⟨l, mem_listsOf l fun y hy => h y (List.mem_cons_of_mem _ hy), x, h x List.mem_cons_self, rfl⟩
def goodR (r : List Nat) (n : Nat) (p : Array Nat) : Bool := p.toList.isPerm (List.range n) && (p.toList.map (r.getD · 0) == List.range n)
noncomputable def nodupB : List Nat → Bool
  | [] => true
  | x :: l => !l.contains x && nodupB l
theorem sort_ranks : ([2, 3, 4, 5].all fun n => (listsOf n n).all fun r => !nodupB r || chk (goodR r n) n (fun i j => decide (r.getD i 0 < r.getD j 0)) (kas_sort n)) = true := by decide +kernel

/-- pairs in the order of the sort -/
def pLt (a b : Int × Int) : Bool := decide (a.1 < b.1 ∨ (a.1 = b.1 ∧ a.2 < b.2))
def pLe (a b : Int × Int) : Bool := !pLt b a
def srtP (ps : List (Int × Int)) : List (Int × Int) := ps.mergeSort pLe
theorem pLt_trans {a b c : Int × Int} (h1 : pLt a b = true) (h2 : pLt b c = true) : pLt a c = true := by unfold pLt at *; simp at *; omega
theorem pLt_irrefl (a : Int × Int) : pLt a a = false := by unfold pLt; simp
theorem pLt_asymm {a b : Int × Int} (h1 : pLt a b = true) : pLt b a = false := by unfold pLt at *; simp at *; omega
theorem pLt_total {a b : Int × Int} (h : a ≠ b) : pLt a b = true ∨ pLt b a = true := by
  unfold pLt; simp
  by_cases h1 : a.1 = b.1
  · by_cases h2 : a.2 = b.2
    · exact absurd (Prod.ext h1 h2) h
    · omega
  · omega
theorem srtP_ok (ps : List (Int × Int)) : (srtP ps).Perm ps ∧ (srtP ps).Pairwise (fun a b => pLe a b = true) := ⟨List.mergeSort_perm ps _, List.pairwise_mergeSort (fun a b c h1 h2 => by unfold pLe pLt at *; simp at *; omega) (fun a b => by unfold pLe pLt; simp; omega) ps⟩
theorem srtP_uniq {ps l : List (Int × Int)} (h1 : l.Perm ps) (h2 : l.Pairwise (fun a b => pLe a b = true)) : l = srtP ps :=
  (h1.trans (srtP_ok ps).1.symm).eq_of_pairwise (fun a b _ _ x y => by
    unfold pLe pLt at x y; simp at x y
    exact Prod.ext (by omega) (by omega)) h2 (srtP_ok ps).2

theorem count_lt {l : List Nat} {p q : Nat → Bool} (h : ∀ k ∈ l, p k = true → q k = true) {x : Nat} (hx : x ∈ l) (h1 : q x = true) (h2 : p x = false) : (l.filter p).length < (l.filter q).length := by
  induction l with
  | nil => cases hx
  | cons a l ih =>
    have hle : ∀ m : List Nat, (∀ k ∈ m, p k = true → q k = true) → (m.filter p).length ≤ (m.filter q).length := fun m => by
      induction m with
      | nil => intro _; exact Nat.le_refl _
      | cons b m ihm =>
        intro hm
        have h0 := ihm fun k hk => hm k (List.mem_cons_of_mem _ hk)
        simp only [List.filter_cons]
        cases hb : p b with
        | true => rw [hm b List.mem_cons_self hb]; simpa using h0
        | false =>
          cases q b with
          | true => simp; omega
          | false => simpa using h0
    have hl : ∀ k ∈ l, p k = true → q k = true := fun k hk => h k (List.mem_cons_of_mem _ hk)
    simp only [List.filter_cons]
    rcases List.mem_cons.mp hx with rfl | hx
    · rw [h1, h2]
      have := hle l hl
      simp; omega
    · have h0 := ih hl hx
      cases hb : p a with
      | true => rw [h a List.mem_cons_self hb]; simpa using h0
      | false =>
        cases q a with
        | true => simp; omega
        | false => simpa using h0

/-- how many stand before -/
def rk (ps : List (Int × Int)) (i : Nat) : Nat := ((List.range ps.length).filter fun j => pLt (ps.getD j (0, 0)) (ps.getD i (0, 0))).length
def rks (ps : List (Int × Int)) : List Nat := (List.range ps.length).map (rk ps)
theorem rks_get {ps : List (Int × Int)} {i : Nat} (h : i < ps.length) : (rks ps).getD i 0 = rk ps i := by simp [rks, h]
theorem rk_lt {ps : List (Int × Int)} {i j : Nat} (hi : i < ps.length) (hj : j < ps.length) (h : pLt (ps.getD i (0, 0)) (ps.getD j (0, 0)) = true) : rk ps i < rk ps j :=
  count_lt (fun k _ hk => pLt_trans hk h) (List.mem_range.mpr hi) h (pLt_irrefl _)
theorem rk_iff {ps : List (Int × Int)} (hd : ∀ i j, i < ps.length → j < ps.length → i ≠ j → ps.getD i (0, 0) ≠ ps.getD j (0, 0)) {i j : Nat} (hi : i < ps.length) (hj : j < ps.length) : decide ((rks ps).getD i 0 < (rks ps).getD j 0) = pLt (ps.getD i (0, 0)) (ps.getD j (0, 0)) := by
  rw [rks_get hi, rks_get hj]
  cases h : pLt (ps.getD i (0, 0)) (ps.getD j (0, 0)) with
  | true => exact decide_eq_true (rk_lt hi hj h)
  | false =>
    refine decide_eq_false fun q => ?_
    by_cases e : i = j
    · subst e; exact Nat.lt_irrefl _ q
    · rcases pLt_total (hd i j hi hj e) with x | x
      · rw [h] at x; cases x
      · exact Nat.lt_asymm q (rk_lt hj hi x)
theorem nodupB_of {l : List Nat} (h : l.Nodup) : nodupB l = true := by
  induction l with
  | nil => rfl
  | cons x l ih =>
    obtain ⟨h1, h2⟩ := List.nodup_cons.mp h
    simp [nodupB, ih h2, h1]
theorem rks_nodup {ps : List (Int × Int)} (hd : ∀ i j, i < ps.length → j < ps.length → i ≠ j → ps.getD i (0, 0) ≠ ps.getD j (0, 0)) : (rks ps).Nodup := by
  unfold rks
  rw [List.nodup_iff_pairwise_ne, List.pairwise_map]
  refine (List.nodup_range (n := ps.length)).imp_of_mem fun {a b} ha hb hab => ?_
  rw [List.mem_range] at ha hb
  intro e
  rcases pLt_total (hd a b ha hb hab) with x | x
  · have := rk_lt ha hb x; omega
  · have := rk_lt hb ha x; omega
theorem rks_bound {ps : List (Int × Int)} : ∀ x ∈ rks ps, x < ps.length := fun x hx => by
  obtain ⟨i, hi, rfl⟩ := List.mem_map.mp hx
  rw [List.mem_range] at hi
  have : rk ps i < ((List.range ps.length).filter fun _ => true).length := count_lt (fun _ _ _ => rfl) (List.mem_range.mpr hi) rfl (pLt_irrefl _)
  rw [show (List.range ps.length).filter (fun _ => true) = List.range ps.length from List.filter_eq_self.mpr fun _ _ => rfl, List.length_range] at this
  exact this
theorem sort_chk {ps : List (Int × Int)} (hd : ∀ i j, i < ps.length → j < ps.length → i ≠ j → ps.getD i (0, 0) ≠ ps.getD j (0, 0)) (h2 : 2 ≤ ps.length) (h5 : ps.length ≤ 5) :
    chk (goodR (rks ps) ps.length) ps.length (fun i j => pLt (ps.getD i (0, 0)) (ps.getD j (0, 0))) (kas_sort ps.length) = true := by
  have hl : (rks ps).length = ps.length := by simp [rks]
  have hmem := mem_listsOf (rks ps) (m := ps.length) rks_bound
  rw [hl] at hmem
  have hin : ps.length ∈ [2, 3, 4, 5] := by simp; omega
  have := List.all_eq_true.mp (List.all_eq_true.mp sort_ranks _ hin) _ hmem
  rw [nodupB_of (rks_nodup hd)] at this
  exact chk_congr (fun i j hi hj => rk_iff hd hi hj) _ (by simpa using this)
theorem good_sorted {ps : List (Int × Int)} (hd : ∀ i j, i < ps.length → j < ps.length → i ≠ j → ps.getD i (0, 0) ≠ ps.getD j (0, 0)) {p : Array Nat} (h : goodR (rks ps) ps.length p = true) : p.toList.map (ps.getD · (0, 0)) = srtP ps := by
  unfold goodR at h
  simp only [Bool.and_eq_true, beq_iff_eq] at h
  obtain ⟨h1, h2⟩ := h
  have hp := List.isPerm_iff.mp h1
  refine srtP_uniq ?_ ?_
  · have : ((List.range ps.length).map (ps.getD · (0, 0))) = ps := by
      apply List.ext_getElem
      · simp
      · intro i a b; simp [b]
    have q := hp.map (ps.getD · (0, 0))
    rwa [this] at q
  · rw [List.pairwise_map]
    have h3 : (p.toList.map ((rks ps).getD · 0)).Pairwise (· < ·) := by rw [h2]; exact List.pairwise_lt_range
    rw [List.pairwise_map] at h3
    refine h3.imp_of_mem fun {a b} ha hb hab => ?_
    have ha' := List.mem_range.mp (hp.mem_iff.mp ha)
    have hb' := List.mem_range.mp (hp.mem_iff.mp hb)
    have e := rk_iff hd ha' hb'
    rw [decide_eq_true hab] at e
    unfold pLe
    rw [pLt_asymm e.symm]; rfl

def pairD (p : Int × Int) : D := .tup [.int p.1, .int p.2]
theorem pair_at {ok : Addr → Prop} {h : Heap} {ps : List (Int × Int)} {vs : List Value} (r : Rds ok h (ps.map pairD) vs) {i : Nat} (hi : i < ps.length) : ∃ x o t u n, vs.getD i Value.none = .ref x ∧ h.get? x = some o ∧ o.cls = .type "tuple" ∧ o.data = .seq #[.int (ps.getD i (0, 0)).1 t, .int (ps.getD i (0, 0)).2 u] n := by
  obtain ⟨v, hv, a, ws, rfl, _, ⟨o, ho, hc, n, hd⟩, v0, r0, rfl, ⟨t, rfl⟩, v1, r1, rfl, ⟨u, rfl⟩, e⟩ := r.get (i := i) (d := pairD (ps.getD i (0, 0))) (by simp [hi])
  obtain rfl := e
  exact ⟨a, o, t, u, n, by simp [hv], ho, hc, hd⟩
theorem kat_of {ok : Addr → Prop} {h : Heap} : ∀ {ps : List (Int × Int)} {vs : List Value}, Rds ok h (ps.map pairD) vs → ∃ fs, KatTups h vs fs ∧ (∀ v ∈ fs, ∃ i t, v = .int i t) ∧ fs.length = vs.length
  | [], vs, r => ⟨[], by rw [show vs = [] from r]; exact .nil, (fun _ q => nomatch q), by rw [show vs = [] from r]⟩
  | p :: ps, vs, ⟨v, rest, e0, hv, hr⟩ => by
    subst e0
    obtain ⟨a', ws, rfl, _, ⟨o, ho', hc, n', hd'⟩, v0, r0, rfl, ⟨t, rfl⟩, v1, r1, rfl, ⟨u, rfl⟩, e⟩ := hv
    obtain ⟨fs, h1, h2, h3⟩ := kat_of hr
    exact ⟨.int p.1 t :: fs, .cons ho' hc hd' rfl h1, (fun v hv => by
      rcases List.mem_cons.mp hv with rfl | hv
      · exact ⟨_, _, rfl⟩
      · exact h2 v hv), by simp [h3]⟩
theorem rds_pick {ok : Addr → Prop} {h : Heap} {ps : List (Int × Int)} {vs : List Value} (r : Rds ok h (ps.map pairD) vs) : ∀ l : List Nat, (∀ i ∈ l, i < ps.length) → Rds ok h ((l.map (ps.getD · (0, 0))).map pairD) (l.map fun i => vs.getD i Value.none)
  | [], _ => rfl
  | i :: l, hl => by
    have hi := hl i List.mem_cons_self
    obtain ⟨v, hv, rv⟩ := r.get (i := i) (d := pairD (ps.getD i (0, 0))) (by simp [hi])
    exact ⟨_, _, rfl, by simp only [List.getD_eq_getElem?_getD, hv, Option.getD_some]; simpa using rv, rds_pick r l fun j hj => hl j (List.mem_cons_of_mem _ hj)⟩

section
variable {prog : Program} {w : World} {A : Around} {E : Value → Shared → Prop} {s : Shared}
theorem pair_lt {x y : Addr} {ox oy : Obj} {a b : Int × Int} {t u t' u' : Tok} {n k : Nat} {C : Bool → Shared → Prop} (hx : s.heap.get? x = some ox) (dx : ox.data = .seq #[.int a.1 t, .int a.2 u] n) (hy : s.heap.get? y = some oy) (dy : oy.data = .seq #[.int b.1 t', .int b.2 u'] k)
    (h : C (pLt a b) s) : wpAny (model prog w) A (keyLt' (tuples' true) (.ref x) (.ref y)) C E s := by
  refine kat_lt hx dx hy dy ?_
  show KatLex prog w A true _ C [(.int a.1 t, .int b.1 t'), (.int a.2 u, .int b.2 u')] 0 s
  refine kat_cons (wpAny_eqBool_int (kat_go (fun e => kat_yes (kat_cons (wpAny_eqBool_int (kat_go (fun e2 => kat_yes (kat_nil ?_)) (fun e2 => kat_no ?_))))) (fun e => kat_no ?_)))
  · have e' : a.1 = b.1 := by simpa using e
    have e2' : a.2 = b.2 := by simpa using e2
    have : pLt a b = false := by unfold pLt; simp; omega
    rw [this] at h
    exact h
  · have e' : a.1 = b.1 := by simpa using e
    refine kat_one _ _ (PyProof.Rows.lt_int ?_)
    have : pLt a b = decide (a.2 < b.2) := by unfold pLt; rw [decide_eq_decide]; omega
    rw [this] at h
    exact h
  · have e' : ¬ a.1 = b.1 := by simpa using e
    refine oneLt_int ?_
    have : pLt a b = decide (a.1 < b.1) := by unfold pLt; rw [decide_eq_decide]; omega
    rw [this] at h
    exact h

theorem pairs_sort {a : Addr} {vs : List Value} {ps : List (Int × Int)} {n : Nat} {P : PySem.Fin → Shared → Prop} {ok : Addr → Prop} (ho : s.heap.get? a = some (seqObj "list" vs.toArray n)) (hok : ∀ b, ok b → b ≠ a) (r : Rds ok s.heap (ps.map pairD) vs)
    (hd : ∀ i j, i < ps.length → j < ps.length → i ≠ j → ps.getD i (0, 0) ≠ ps.getD j (0, 0)) (h5 : ps.length ≤ 5) (h1 : 0 < ps.length)
    (h : ∀ h' tk out, (∀ b o, b ≠ a → s.heap.get? b = some o → h'.get? b = some o) → (∃ c, h'.get? a = some (seqObj "list" (List.toArray out) c)) → Rds ok h' ((srtP ps).map pairD) out → P (.done (.ret .none)) { s with heap := h', toks := tk }) :
    wpAny (model prog w) A (Builtin.«list.sort» ⟨[.ref a], []⟩) P E s := by
  have hlen : vs.length = ps.length := by rw [r.length, List.length_map]
  have ha : a < s.heap.objs.size := Heap.lt_size ho
  have s1 := Heap.SameBut.update s.heap a (Obj.mapSeq fun _ => (#[] : Array Value))
  obtain ⟨e1, ho1⟩ : ∃ e1, (s.heap.update a (Obj.mapSeq fun _ => (#[] : Array Value))).get? a = some (seqObj "list" #[] e1) := ⟨_, get?_update_seq ho fun _ => #[]⟩
  rw [list_sort_plain]
  refine wpAny_bind (listItems_at ho rfl ?_)
  refine wpAny_bind (listUpdate_at ho rfl ?_ (by rw [List.size_toArray, sizeLine_eq]; omega) (Nat.zero_le _))
  refine wpAny_bind (seqEpoch_at ho1 rfl ?_)
  refine wpAny_bind (wpAny_newTuple ?_ (by show vs.length ≤ _; rw [sizeLine_eq]; omega))
  refine wpAny_bind (wpAny_newList ?_ (Nat.zero_le _))
  refine wpAny_holding ?_
  generalize hH6 : ((s.heap.update a (Obj.mapSeq fun _ => (#[] : Array Value))).push (seqObj "tuple" vs.toArray 0)).push (seqObj "list" #[] 0) = H6
  have U6 : Ups (s.heap.update a (Obj.mapSeq fun _ => (#[] : Array Value))) H6 := hH6 ▸ (Ups.push _ _).trans (Ups.push _ _)
  have k6 : ∀ b o, b ≠ a → s.heap.get? b = some o → H6.get? b = some o := fun b o n e => U6 b o ((s1.2 b n).trans e)
  have r6 : Rds ok H6 (ps.map pairD) vs := r.mono (fun _ q => q) fun b o xs n hb e _ => k6 b o (hok b hb) e
  have ho6 : H6.get? a = some (seqObj "list" #[] e1) := U6 _ _ ho1
  have fin : ∀ (out : List Value) (h0 : Heap) (tk : Nat), Ups H6 h0 → Rds ok h0 ((srtP ps).map pairD) out → out.length = vs.length → ∀ (st : SortSt), (arrOf st).map (·.2) = List.toArray out → failedOf st = none →
      wpAny (model prog w) A (do
        let touched := (← seqEpoch a) != e1
        Builtin.List.listUpdate (.ref a) fun _ => (arrOf st).map (·.2)
        if let some e := failedOf st then rule "list.sort.comparison-raised"; throw e
        if touched then rule "list.sort.modified"; raiseError "ValueError" "list modified during sort"
        ret .none) P E { s with heap := h0, toks := tk } := fun out h0 tk u ro hl st hout hf => by
    have ho7 := u _ _ ho6
    have s2 := Heap.SameBut.update h0 a (Obj.mapSeq fun _ => List.toArray out)
    obtain ⟨c2, hc2⟩ : ∃ c2, (h0.update a (Obj.mapSeq fun _ => List.toArray out)).get? a = some (seqObj "list" (List.toArray out) c2) := ⟨_, get?_update_seq ho7 fun _ => List.toArray out⟩
    rw [hout, hf]
    refine wpAny_bind (seqEpoch_at ho7 rfl ?_)
    refine wpAny_bind (listUpdate_at ho7 rfl ?_ (Nat.zero_le _) (by rw [List.size_toArray, hl, sizeLine_eq]; omega))
    simp only [bne_self_eq_false, Bool.false_eq_true, if_false]
    refine wpAny_pure (h _ tk out (fun b o n e => (s2.2 b n).trans (u b o (k6 b o n e))) ⟨c2, hc2⟩ (ro.mono (fun _ q => q) fun b o xs n hb e _ => (s2.2 b (hok b hb)).trans e))
  show wpAny (model prog w) A _ P E { s with heap := H6 }
  dsimp only
  by_cases hn2 : vs.toArray.size < 2
  · rw [if_pos hn2, if_pos hn2]
    refine wpAny_bind (wpAny_pure ?_)
    rw [StateT.run_pure]
    refine wpAny_bind (wpAny_pure ?_)
    have hn1 : ps.length = 1 := by rw [List.size_toArray] at hn2; omega
    obtain ⟨p0, rfl⟩ : ∃ p0, ps = [p0] := by
      match ps, hn1 with
      | [p0], _ => exact ⟨p0, rfl⟩
    have e0 : srtP [p0] = [p0] := by unfold srtP; simp
    exact fin vs H6 s.toks (Ups.refl _) (by rw [e0]; exact r6) rfl _ (by
      match vs, hlen with
      | [v0], _ =>
        show ((List.toArray [v0]).zip (List.toArray [v0])).map (·.2) = _
        simp) rfl
  · rw [if_neg hn2, if_neg hn2]
    have h2 : 2 ≤ vs.length := by rw [List.size_toArray] at hn2; omega
    obtain ⟨fs, hT, hfs, hfl⟩ := kat_of r6
    refine wpAny_bind (kat_kind (T := .type "int") hT (by omega) (fun v hv => by obtain ⟨i, t, rfl⟩ := hfs v hv; exact .now) rfl ?_)
    show wpAny (model prog w) A _ P E { s with heap := H6 }
    refine wpAny_bind (wpAny_mono (kat_run (κ := tuples' true) (ks := vs) (vs := vs) (G := fun p s' => goodR (rks ps) ps.length p = true ∧ ∃ h0 tk, s' = { s with heap := h0, toks := tk } ∧ Ups H6 h0)
      (Q := fun st' s' => ∃ p : Array Nat, arrOf st' = p.map (kas_item (vs.toArray.zip vs.toArray)) ∧ failedOf st' = none ∧ goodR (rks ps) ps.length p = true ∧ ∃ h0 tk, s' = { s with heap := h0, toks := tk } ∧ Ups H6 h0)
      rfl h2 (by omega) (fun p' st' s' a1 a2 a3 a4 => ⟨p', a2, a3, a4⟩) ?_) ?_ fun _ _ e => e)
    · rw [hlen]
      refine chk_wp (I := fun s' => ∃ h0 tk, s' = { s with heap := h0, toks := tk } ∧ Ups H6 h0) (fun i j C s' hi hj ⟨h0, tk, e, u⟩ hC => ?_) (fun p s' g i => ⟨g, i⟩) _ _ (sort_chk hd (by omega) h5) ⟨H6, s.toks, rfl, Ups.refl _⟩
      subst e
      obtain ⟨x, o, t1, u1, n1, q1, q2, _, q4⟩ := pair_at r6 hi
      obtain ⟨y, o', t2, u2, n2, w1, w2, _, w4⟩ := pair_at r6 hj
      unfold kas_ask
      rw [q1, w1]
      exact pair_lt (u _ _ q2) q4 (u _ _ w2) w4 (hC _ ⟨h0, tk, rfl, u⟩)
    · rintro ⟨⟨⟩, st'⟩ s' ⟨p, har, hf, g, h0, tk, rfl, u⟩
      have hp := List.isPerm_iff.mp (by unfold goodR at g; simp only [Bool.and_eq_true] at g; exact g.1)
      refine fin (p.toList.map fun i => vs.getD i Value.none) h0 tk u ?_ ?_ st' (kat_snds rfl har) hf
      · rw [← good_sorted hd g]
        exact (rds_pick r6 p.toList fun i hi => List.mem_range.mp (hp.mem_iff.mp hi)).up u
      · rw [List.length_map, hp.length_eq, List.length_range, hlen]
end
section
variable {W : Wd}
theorem clv_sortedP {ps : List (Int × Int)} (hd : ∀ i j, i < ps.length → j < ps.length → i ≠ j → ps.getD i (0, 0) ≠ ps.getD j (0, 0)) (h5 : ps.length ≤ 5) (h1 : 0 < ps.length) : Clv W (.builtin "sorted") [.list (ps.map pairD)] (.list ((srtP ps).map pairD)) := fun A s E ok vs ao hf ⟨v, r, e, x, y⟩ => by
  subst e
  rw [show r = [] from y]
  obtain ⟨l, us, rfl, _, hl, rl⟩ := x
  have hlen : us.length = ps.length := by rw [rl.length, List.length_map]
  refine Calls.call_function_entry kind_sorted plain_sorted entry_sorted (args_sorted1 _) ?_
  unfold Builtin.«sorted»
  refine wpAny_bind (m := checkCount "sorted" 1 1 _) (wpAny_pure ?_)
  refine wpAny_bind (collect_list hl ?_ (by rw [sizeLine_eq]; omega))
  refine wpAny_bind (wpAny_newList ?_ (by rw [sizeLine_eq]; omega))
  have hsz : ((s.heap.push (seqObj "list" #[] 0)).update s.heap.objs.size (Obj.mapSeq (· ++ us.toArray))).objs.size = s.heap.objs.size + 1 := by
    rw [Heap.size_update, size_push']
  have hoL : (((s.heap.push (seqObj "list" #[] 0)).update s.heap.objs.size (Obj.mapSeq (· ++ us.toArray))).push (seqObj "list" us.toArray 0)).get? (s.heap.objs.size + 1) = some (seqObj "list" us.toArray 0) := by
    rw [← hsz]; exact Heap.get?_push_size _ rfl
  have keep : Ups s.heap (((s.heap.push (seqObj "list" #[] 0)).update s.heap.objs.size (Obj.mapSeq (· ++ us.toArray))).push (seqObj "list" us.toArray 0)) := fun b o q => by
    have hlt : b < s.heap.objs.size := Heap.lt_size q
    rw [Heap.get?_push_ne _ _ _ (by rw [hsz]; exact Nat.ne_of_lt (Nat.lt_succ_of_lt hlt)), Heap.get?_update_ne _ _ _ _ (Nat.ne_of_lt hlt), Heap.get?_push_ne _ _ _ (Nat.ne_of_lt hlt)]
    exact q
  show wpAny _ _ _ _ _ { s with heap := ((s.heap.push (seqObj "list" #[] 0)).update s.heap.objs.size (Obj.mapSeq (· ++ us.toArray))).push (seqObj "list" us.toArray 0) }
  rw [hsz]
  generalize (((s.heap.push (seqObj "list" #[] 0)).update s.heap.objs.size (Obj.mapSeq (· ++ us.toArray))).push (seqObj "list" us.toArray 0)) = H at hoL keep
  have hnone : s.heap.get? (s.heap.objs.size + 1) = none := lt_none (Nat.le_succ _)
  have r' : Rds (fun b => ok b ∧ b ≠ s.heap.objs.size + 1) H (ps.map pairD) us := (Rds.strong (fun b o xs n hb _ hk => ⟨hk, fun q => by rw [q, hnone] at hb; cases hb⟩) rl).up keep
  refine wpAny_bind (wpAny_holding (wpAny_call_entry slot_list_sort ⟨_, hoL, rfl⟩ entry_list_sort (pairs_sort (s := { s with heap := H }) hoL (fun b q => q.2) r' hd h5 h1 fun h' tk out k hc ro => ⟨_, rfl, ?_⟩) (args_list_sort _)))
  have hne : ∀ b o, s.heap.get? b = some o → b ≠ s.heap.objs.size + 1 := fun b o e q => by rw [q, hnone] at e; cases e
  refine wpAny_pure ⟨_, rfl, keeps_of fun b o e => k b o (hne b o e) (keep b o e), s.heap.objs.size + 1, out, rfl, hf _ hnone, ?_, ro.mono (fun _ q => q.1) (Ups.refl _).seqs⟩
  obtain ⟨c, hc⟩ := hc
  exact ⟨_, hc, rfl, c, rfl⟩
end

section
variable {W : Wd} {c : Cx} {cls : Value} {fx : Addr → Prop} {ow : Ow} {σ : Sg} {Q : Post} {T : Prop}
theorem go_tuple {es : List Expr} {n : Nat} {pt : Pos} : GoOk W c (.Tuple es n pt) := fun I v s E C ⟨o, m, ho, hc, hn⟩ k => by
  unfold letOwnedTupleGo
  cases v with
  | ref a =>
    dsimp only
    refine wpAny_bind (wpAny_load ho ?_)
    rw [hc]
    cases hd : o.data with
    | fields vs =>
      dsimp only
      have hn' : (["enumerate", "zip", "dict_itemiterator", "dict_reverseitemiterator", "odict_iterator", "itertools.zip_longest", "itertools.pairwise"] : List String).contains m = false := hn
      rw [hn', Bool.false_and]
      exact wpAny_pure k
    | _ => exact wpAny_pure k
  | _ => exact wpAny_pure k
/-- for x, y in a list of pairs -/
def IsPair (d : D) : Prop := ∃ p, d = pairD p
def unp : D → Int × Int
  | .tup [.int a, .int b] => (a, b)
  | _ => (0, 0)
theorem asg_pairs {x y : Str} {px py pt : Pos} {n : Nat} (ok : COk W c) (hx : StOk c x) (hy : StOk c y) (ho : ∀ z a, ow = some (z, a) → x ≠ z ∧ y ≠ z) : Asg W c ow (.Tuple [.Name x px, .Name y py] n pt) IsPair (fun d σ => (y, (true, .int (unp d).2)) :: (x, (true, .int (unp d).1)) :: σ) := fun d σ v s E C ⟨p, hp⟩ S r k => by
  subst hp
  exact asg_pair ok hx hy ho S r k

theorem ex_triple {x y z : Str} {px py pz pt pos : Pos} {n : Nat} {e : Expr} {d1 d2 d3 : D} {k1 : Bool} {rest : List Stmt} (ok : COk W c) (hx : StOk c x) (hy : StOk c y) (hz : StOk c z) (ho : ∀ u a, ow = some (u, a) → x ≠ u ∧ y ≠ u ∧ z ≠ u) (h : Ev W c.A c.env (oas ow) σ k1 e (.tup [d1, d2, d3]))
    (f1 : d1.flat = true) (f2 : d2.flat = true) (f3 : d3.flat = true) (k : Ex W c cls fx ow ((z, (true, d3)) :: (y, (true, d2)) :: (x, (true, d1)) :: σ) rest Q T) (hs : swapsWithSole [.Tuple [.Name x px, .Name y py, .Name z pz] n pt] e pos.line c.env = pure false := by rfl)
    (hw : swappedStores [.Tuple [.Name x px, .Name y py, .Name z pz] n pt] e c.env = pure none := by rfl) : Ex W c cls fx ow σ (.Assign [.Tuple [.Name x px, .Name y py, .Name z pz] n pt] e pos :: rest) Q T := fun s E S F hp hb => by
  refine wpAny_execs_cons (Assign_Tuple (ev_then h ok.ao S.sv fun v s1 k1 S1 r1 => ?_) hs hw)
  obtain ⟨a, vs, rfl, _, ht, v0, r0, rfl, h1, v1, r1, rfl, h2, v2, r2, rfl, h3, h4⟩ := r1
  obtain rfl := h4
  refine assign_Tuple_tuple ok.ao.hand ht rfl rfl fun h' he => ?_
  have up : Ups s1.heap h' := fun b o e => he b o (Nat.ne_of_lt (Heap.lt_size e)) e
  have S1' := (S.up (kups k1)).up up
  show wpAny _ c.A (do holding [v1, v2] (assign (.Name x px) c.env v0); do holding [v2] (assign (.Name y py) c.env v1); do holding [] (assign (.Name z pz) c.env v2); pure ()) _ _ _
  refine wpAny_bind (wpAny_holding (PySem.wpAny_assign_Name (st_store (s := { s1 with heap := h' }) ok S1' hx (fun u a q => (ho u a q).1) (h1.flat f1) fun g1 t1 S2 b1 _ _ _ _ => ?_)))
  refine wpAny_bind (wpAny_holding (PySem.wpAny_assign_Name (st_store (s := { s1 with heap := g1, toks := t1 }) ok S2 hy (fun u a q => (ho u a q).2.1) (h2.flat f2) fun g2 t2 S3 b2 _ _ _ _ => ?_)))
  refine wpAny_bind (wpAny_holding (PySem.wpAny_assign_Name (st_store (s := { s1 with heap := g2, toks := t2 }) ok S3 hz (fun u a q => (ho u a q).2.2) (h3.flat f3) fun g3 t3 S4 b3 _ _ _ _ => wpAny_pure ?_)))
  exact ex_go k S4 ((adv_of k1).trans ⟨g3, t3, rfl⟩) (kx_stb S F ((kups k1).stb.trans (up.stb.trans (b1.trans (b2.trans b3))))) hp hb
theorem ex_triple_swap {x y z : Str} {px py pz pt pos : Pos} {n : Nat} {e : Expr} {d1 d2 d3 : D} {k1 : Bool} {rest : List Stmt} (ok : COk W c) (hx : StOk c x) (hy : StOk c y) (hz : StOk c z) (ho : ∀ u a, ow = some (u, a) → x ≠ u ∧ y ≠ u ∧ z ≠ u) (h : Ev W c.A c.env (oas ow) σ k1 e (.tup [d1, d2, d3]))
    (f1 : d1.flat = true) (f2 : d2.flat = true) (f3 : d3.flat = true) (k : Ex W c cls fx ow ((x, (true, d1)) :: (y, (true, d2)) :: (z, (true, d3)) :: σ) rest Q T) (hs : swapsWithSole [.Tuple [.Name x px, .Name y py, .Name z pz] n pt] e pos.line c.env = pure false := by rfl)
    (hw : swappedStores [.Tuple [.Name x px, .Name y py, .Name z pz] n pt] e c.env = pure (some [x, y, z]) := by rfl) : Ex W c cls fx ow σ (.Assign [.Tuple [.Name x px, .Name y py, .Name z pz] n pt] e pos :: rest) Q T := fun s E S F hp hb => by
  refine wpAny_execs_cons (Assign_Tuple_swapped (ev_then h ok.ao S.sv fun v s1 k1 S1 r1 => ?_) hs hw)
  obtain ⟨a, vs, rfl, _, ht, v0, r0, rfl, h1, v1, r1, rfl, h2, v2, r2, rfl, h3, h4⟩ := r1
  obtain rfl := h4
  refine unpackItems_tuple (items := List.toArray [v0, v1, v2]) ok.ao.hand ht fun h' he => ?_
  have up : Ups s1.heap h' := fun b o e => he b o (Nat.ne_of_lt (Heap.lt_size e)) e
  have S1' := (S.up (kups k1)).up up
  show wpAny _ c.A (do holding [v1, v0] (bindName c.env z v2); do holding [v0] (bindName c.env y v1); do holding [] (bindName c.env x v0); pure ()) _ _ _
  refine wpAny_bind (wpAny_holding (wpAny_bindName (st_store (s := { s1 with heap := h' }) ok S1' hz (fun u a q => (ho u a q).2.2) (h3.flat f3) fun g1 t1 S2 b1 _ _ _ _ => ?_)))
  refine wpAny_bind (wpAny_holding (wpAny_bindName (st_store (s := { s1 with heap := g1, toks := t1 }) ok S2 hy (fun u a q => (ho u a q).2.1) (h2.flat f2) fun g2 t2 S3 b2 _ _ _ _ => ?_)))
  refine wpAny_bind (wpAny_holding (wpAny_bindName (st_store (s := { s1 with heap := g2, toks := t2 }) ok S3 hx (fun u a q => (ho u a q).1) (h1.flat f1) fun g3 t3 S4 b3 _ _ _ _ => wpAny_pure ?_)))
  exact ex_go k S4 ((adv_of k1).trans ⟨g3, t3, rfl⟩) (kx_stb S F ((kups k1).stb.trans (up.stb.trans (b1.trans (b2.trans b3))))) hp hb
end
end Jg
end PartJg15

noncomputable section PartJgE
open PySem PySem.W PySem.Calls PyProof.Rows
namespace Jg

/-- the law's own dealing: largest remainders -/
def lwRest (votes : List Int) (seats : Int) : List Int := votes.map fun p => (p * seats).fmod votes.sum
def lwPairs (votes : List Int) (seats : Int) : List (Int × Int) := (List.range votes.length).map fun i => (-gt (lwRest votes seats) i, (i : Int))
def lwOrd (votes : List Int) (seats : Int) : List (Int × Int) := srtP (lwPairs votes seats)
def lwLeft (votes : List Int) (seats : Int) : Int := seats - (lrFl votes seats).sum
def lwHad (votes : List Int) (seats : Int) : List Int := ((lwOrd votes seats).take (lwLeft votes seats).toNat).foldl (fun h p => bump h p.2.toNat) (lrFl votes seats)
def lwTied (votes : List Int) (seats : Int) : Bool := decide (0 < lwLeft votes seats ∧ lwLeft votes seats < votes.length) && (((lwOrd votes seats).getD (lwLeft votes seats - 1).toNat (0, 0)).1 == ((lwOrd votes seats).getD (lwLeft votes seats).toNat (0, 0)).1)

/-- one party's turn: (top, under, best, tied) -/
abbrev Best := Int × Int × Option Nat × Bool
def dlTurn (at' : Nat) (votes : List Int) (house : Int) (had : List Int) (st : Best) (i : Nat) : Best :=
  if gt votes i = 0 ∨ (at' = 14 ∧ gt votes i * house ≤ gt had i * votes.sum) then st
  else if st.1 * (claim at' (gt votes i) (gt had i)).2 < (claim at' (gt votes i) (gt had i)).1 * st.2.1 then ((claim at' (gt votes i) (gt had i)).1, (claim at' (gt votes i) (gt had i)).2, some i, false)
  else if (claim at' (gt votes i) (gt had i)).1 * st.2.1 = st.1 * (claim at' (gt votes i) (gt had i)).2 ∧ st.2.2.1.isSome = true then (st.1, st.2.1, st.2.2.1, true) else st
def dlSeat (at' : Nat) (votes : List Int) (house : Int) (had : List Int) (n : Nat) : Best := (List.range n).foldl (dlTurn at' votes house had) (0, 1, none, false)
/-- seat by seat -/
inductive DRun (at' : Nat) (votes : List Int) : Nat → Int → List Int → Bool → List Int → Bool → Prop
  | done (house had td) : DRun at' votes 0 house had td had td
  | step {m house had td b r rt} : (dlSeat at' votes house had votes.length).2.2.1 = some b → b < votes.length → DRun at' votes m (house + 1) (bump had b) (dlSeat at' votes house had votes.length).2.2.2 r rt → DRun at' votes (m + 1) house had td r rt
theorem DRun.inv {at' : Nat} {votes : List Int} {m : Nat} {house : Int} {had : List Int} {td : Bool} {r : List Int} {rt : Bool} (h : DRun at' votes (m + 1) house had td r rt) :
    ∃ b, (dlSeat at' votes house had votes.length).2.2.1 = some b ∧ b < votes.length ∧ DRun at' votes m (house + 1) (bump had b) (dlSeat at' votes house had votes.length).2.2.2 r rt := by
  cases h with
  | step h1 h2 h3 => exact ⟨_, h1, h2, h3⟩
def start (at' : Nat) (votes : List Int) : List Int := votes.map fun p => if (6 < at' ∧ at' < 14) ∧ 0 < p then 1 else 0

def bestD : Option Nat → D
  | none => .none
  | some b => .int (b : Int)
theorem dlSeat_succ (at' : Nat) (votes : List Int) (house : Int) (had : List Int) (n : Nat) : dlSeat at' votes house had (n + 1) = dlTurn at' votes house had (dlSeat at' votes house had n) n := by
  unfold dlSeat; rw [List.range_succ, List.foldl_append]; rfl
theorem claim_small (at' : Nat) (v h : Int) (h0 : 0 ≤ h) (h1 : h ≤ 100) : (claim at' v h).2.natAbs < 2 ^ 32 := by
  have hh : h * (h + 1) < 2 ^ 30 := by
    have := Int.mul_le_mul (a := h) (b := h + 1) (c := 100) (d := 101) (by omega) (by omega) (by omega) (by omega)
    omega
  have hh0 : 0 ≤ h * (h + 1) := Int.mul_nonneg h0 (by omega)
  have e : 2 * h * (h + 1) = 2 * (h * (h + 1)) := Int.mul_assoc ..
  unfold claim
  split
  · simp only []; omega
  · split
    · simp only []; omega
    · split
      · simp only []; omega
      · split
        · simp only []; omega
        · split
          · simp only []; omega
          · simp only [e]; omega
theorem dl_small {at' : Nat} {votes : List Int} {house : Int} {had : List Int} (h0 : ∀ x ∈ had, 0 ≤ x) (hs : had.sum ≤ 50) : ∀ n, (dlSeat at' votes house had n).2.1.natAbs < 2 ^ 32 ∧ ∀ b, (dlSeat at' votes house had n).2.2.1 = some b → b < n
  | 0 => ⟨(show (1 : Int).natAbs < 2 ^ 32 by decide), fun b h => by cases h⟩
  | n + 1 => by
    have ih := dl_small (at' := at') (votes := votes) (house := house) h0 hs n
    rw [dlSeat_succ]
    unfold dlTurn
    have hg := gt_bound h0 (m := 50) (by omega) (by omega) n
    split
    · exact ⟨ih.1, fun b h => Nat.lt_succ_of_lt (ih.2 b h)⟩
    · split
      · exact ⟨claim_small _ _ _ hg.1 (by omega), fun b h => by cases h; exact Nat.lt_succ_self _⟩
      · split
        · exact ⟨ih.1, fun b h => Nat.lt_succ_of_lt (ih.2 b h)⟩
        · exact ⟨ih.1, fun b h => Nat.lt_succ_of_lt (ih.2 b h)⟩

section
variable {prog : Program} {w : World} {mean : ExcName → Option Value} {mg mb : Str → Option Value}
theorem can_dealt (at' : Nat) (hat : at' < 18) (votes : List Int) (seats : Nat) (hl0 : 0 < votes.length) (hlen : votes.length ≤ 5) (hs9 : seats ≤ 20) (hnn : ∀ v ∈ votes, 0 ≤ v) (hpos : 0 < votes.sum) (hvv : ∀ v ∈ votes, IntMulOk v v) (r : List Int) (rt : Bool)
    (hrl : 14 < at' → r = lwHad votes seats ∧ rt = lwTied votes seats ∧ 0 ≤ lwLeft votes seats ∧ lwLeft votes seats ≤ votes.length)
    (hrd : at' ≤ 14 → (start at' votes).sum ≤ seats ∧ ∃ td, DRun at' votes (seats - (start at' votes).sum.toNat) ((start at' votes).sum + 1) (start at' votes) false r td ∧ rt = (td && !decide (at' = 14))) :
    Can (wd prog w mean mg mb) 1 86 ["at", "votes", "seats"] [.int at', il votes, .int seats] (· = .tup [il r, .bool rt]) False := by
  refine ⟨_, _, ⟨rfl, rfl, rfl, rfl, rfl, rfl, rfl, by decide, ?_, ?_, ⟨_, _, _, rfl⟩, by rfl⟩, ?_⟩
  · intro s vs K h
    match vs, h with
    | [a, b, c], _ => exact .of_eq rfl
  · intro x hx n
    simp only [List.mem_cons, List.not_mem_nil, or_false] at hx
    rcases hx with rfl | rfl | rfl
    · exact .inr ⟨rfl, rfl⟩
    · exact .inl rfl
    · exact .inr ⟨rfl, rfl⟩
  · rintro n hn ⟨A₀, basE, outer, hG, env⟩ ok lv ⟨L, hL⟩
    change env = _ at hL
    subst hL
    obtain ⟨n, rfl⟩ : ∃ k, n = k + 1 := ⟨n - 1, by omega⟩
    have hv5 : (votes.map D.int).length < 2 ^ 60 := by rw [List.length_map]; omega
    have hlv : votes.length < 2 ^ 60 := by omega
    have hsm : ∀ p : Int, IntMulOk p (seats : Int) := fun p => .of_right (small_bits (by omega))
    have npv : ∀ i, i < votes.length → Builtin.divisionGoesByPylong (gt votes i * seats) votes.sum = false := fun i hi => npl (by
      have h8 := mem_sum_le hnn _ (gt_mem hi)
      have h9 := hnn _ (gt_mem hi)
      rw [Int.natAbs_mul]
      exact Nat.mul_le_mul (by omega) (by omega))
    refine ex_assign ok (.inr ⟨rfl, _, rfl⟩) (by rintro _ _ ⟨⟩) (ev_sum rfl (eN rfl)) ?_
    refine ex_if ok (b := decide (14 < at')) (tst_eq (tst_cmp (eN rfl) eInt cmp_gt) (by rw [Bool.eq_iff_iff]; simp; omega)) ?_
    by_cases c1 : 14 < at'
    · rw [decide_eq_true c1, if_pos rfl]
      obtain ⟨rfl, rfl, hlf0, hlf1⟩ := hrl c1
      refine ex_comp_own ok (.inl rfl) rfl (r := (lrFl votes seats).map .int) (f := fun i => some (.int ((fun p : Int => (p * seats).fdiv votes.sum) (gt votes i)))) (σc := ([("seats", (true, .int seats)), ("total", (true, .int votes.sum))] : Sg)) (src_off (src_list (eN rfl))) (by rw [List.length_map]; omega) (comp_map' (l := votes) (fun p : Int => (p * seats).fdiv votes.sum)) (fun x => rfl) rfl rfl (by decide) (.loc (fun n => rfl) (fun h => rfl) (fun C => rfl)) (cap_cell rfl (cap_cell rfl cap_nil)) (fun i C X d hd => .nil) (fun i C X d e hd he => ?_) (fun a ha => ?_)
      · obtain ⟨hi, rfl⟩ := map_d hd
        cases he
        exact eDiv (eMul (eN rfl) (eN rfl) (hsm _)) (eN rfl) (by omega) (npv i hi)
      have hrl' : (lwRest votes seats).length = votes.length := by simp [lwRest]
      have hpl : (lwPairs votes seats).length = votes.length := by simp [lwPairs]
      have hpg : ∀ i, i < votes.length → (lwPairs votes seats).getD i (0, 0) = (-gt (lwRest votes seats) i, (i : Int)) := fun i hi => by simp [lwPairs, hi]
      have hol : (lwOrd votes seats).length = votes.length := by rw [lwOrd, (srtP_ok _).1.length_eq, hpl]
      have hom : ∀ p ∈ lwOrd votes seats, ∃ k : Nat, k < votes.length ∧ p.2 = k := fun p hp => by
        have := (srtP_ok (lwPairs votes seats)).1.mem_iff.mp hp
        obtain ⟨k, hk, rfl⟩ := List.mem_map.mp this
        exact ⟨k, List.mem_range.mp hk, rfl⟩
      refine ex_assign ok (.inr ⟨rfl, _, rfl⟩) (by rintro _ _ ⟨⟩; decide) (ev_new (evN_comp (r := (lwRest votes seats).map .int) (f := fun i => some (.int ((fun p : Int => (p * seats).fmod votes.sum) (gt votes i)))) (σc := ([("seats", (true, .int seats)), ("total", (true, .int votes.sum))] : Sg)) (src_off (src_list (eN rfl))) (by rw [List.length_map]; omega) (comp_map' (l := votes) (fun p : Int => (p * seats).fmod votes.sum)) (fun x => rfl) rfl rfl (by decide) (.loc (fun n => rfl) (fun h => rfl) (fun C => rfl)) (cap_cell rfl (cap_cell rfl cap_nil)) (fun i C X d hd => .nil) (fun i C X d e hd he => ?_))) ?_
      · obtain ⟨hi, rfl⟩ := map_d hd
        cases he
        exact eMod (eMul (eN rfl) (eN rfl) (hsm _)) (eN rfl) (by omega)
      refine ex_assign ok (.inl rfl) (by rintro _ _ ⟨⟩; decide) (d := .int (lwLeft votes seats)) (eSub (eN rfl) (ev_sum rfl (eO rfl))) ?_
      refine ex_assign ok (.inl rfl) (by rintro _ _ ⟨⟩; decide) (d := .list ((lwOrd votes seats).map pairD)) (ev_call gl_sorted (.builtin _) (evs_cons (ev_new (evN_comp (r := (lwPairs votes seats).map pairD) (f := fun i => some (pairD (-gt (lwRest votes seats) i, (i : Int)))) (σc := ([("rests", (true, il (lwRest votes seats)))] : Sg)) (src_off (src_rlen rfl rfl (eN rfl) hv5)) (by rw [rangeD_length, List.length_map]; omega) ?_ (fun x => rfl) rfl rfl (by decide) (.loc (fun n => rfl) (fun h => rfl) (fun C => rfl)) (cap_cell rfl cap_nil) (fun i C X d hd => .nil) (fun i C X d e hd he => ?_))) evs_nil) (clv_sortedP (fun i j hi hj hij => ?_) (by omega) (by omega))) ?_
      · rw [rangeD_length, List.length_map, filterMap_some]; simp [lwPairs]
      · obtain ⟨hi, rfl⟩ := rangeD0_get hd
        rw [List.length_map] at hi
        cases he
        exact ev_tuple (evs_cons (eNeg (ev_at (eN rfl) (eN rfl) (by omega) (by omega))) (evs_cons (eN rfl) evs_nil)) (by simp)
      · rw [hpg i (by omega), hpg j (by omega)]
        intro h
        have := congrArg Prod.snd h
        simp only [] at this
        omega
      refine ex_forget (σ' := ([("had", (false, il (lrFl votes seats))), ("order", (true, .list ((lwOrd votes seats).map pairD))), ("left", (true, .int (lwLeft votes seats))), ("votes", (true, il votes))] : Sg)) (sub_cons rfl (sub_cons rfl (sub_cons rfl (sub_cons rfl sub_nil)))) ?_
      have htk : ((lwOrd votes seats).map pairD).take (lwLeft votes seats).toNat = ((lwOrd votes seats).take (lwLeft votes seats).toNat).map pairD := List.map_take.symm
      refine ex_for_core ok (fun i τ => τ = ([("had", (false, il (((lwOrd votes seats).take (lwLeft votes seats).toNat).take i |>.foldl (fun h p => bump h p.2.toNat) (lrFl votes seats)))), ("order", (true, .list ((lwOrd votes seats).map pairD))), ("left", (true, .int (lwLeft votes seats))), ("votes", (true, il votes))] : Sg))
        (asg_pairs ok (.inl rfl) (.inl rfl) (by rintro _ _ ⟨⟩; exact ⟨by decide, by decide⟩)) (l := ((lwOrd votes seats).map pairD).take (lwLeft votes seats).toNat) ?_ go_tuple (src_list (ev_new (ev_slice_to (eN rfl) (ev_eq (eN rfl) (by rw [Int.toNat_of_nonneg hlf0])) (by rw [List.length_map]; omega)))) rfl ?_ ?_
      · intro i d hd
        rw [htk] at hd
        obtain ⟨p, hp, rfl⟩ := List.mem_map.mp (List.mem_of_getElem? hd)
        exact ⟨p, rfl⟩
      · rintro fx' i d τ hn hd rfl
        rw [htk, List.getElem?_map] at hd
        obtain ⟨p, hp, rfl⟩ := Option.map_eq_some_iff.mp hd
        obtain ⟨k, hk, hp2⟩ := hom p (List.mem_of_mem_take (List.mem_of_getElem? hp))
        have hnext : (((lwOrd votes seats).take (lwLeft votes seats).toNat).take (i + 1) |>.foldl (fun h p => bump h p.2.toNat) (lrFl votes seats)) = bump (((lwOrd votes seats).take (lwLeft votes seats).toNat).take i |>.foldl (fun h p => bump h p.2.toNat) (lrFl votes seats)) p.2.toNat := by
          rw [List.take_add_one, hp, List.foldl_append]; rfl
        have hlen' : ∀ (l : List (Int × Int)) (h : List Int), (l.foldl (fun h p => bump h p.2.toNat) h).length = h.length := fun l => by
          induction l with
          | nil => intro h; rfl
          | cons q l ih => intro h; rw [List.foldl_cons, ih, bump_length]
        have hfl : (lrFl votes seats).length = votes.length := by simp [lrFl]
        generalize hcur : (((lwOrd votes seats).take (lwLeft votes seats).toNat).take i |>.foldl (fun h p => bump h p.2.toNat) (lrFl votes seats)) = cur at hnext
        have hcl : cur.length = votes.length := by rw [← hcur, hlen', hfl]
        refine ex_aug (n := p.2) ok rfl (il_flat cur) (hn a (List.mem_singleton.mpr rfl) (List.mem_singleton.mpr rfl) ha) (eN rfl) eInt (by omega) (by omega) (m := gt cur p.2.toNat) (gt_get (by omega)) ?_
        rw [bump_map]
        refine ex_forget ?_ (ex_nil ⟨rfl, rfl⟩)
        rw [hnext]
        exact sub_cons rfl (sub_cons rfl (sub_cons rfl (sub_cons rfl sub_nil)))
      · rintro τ rfl
        have hhad : (((lwOrd votes seats).take (lwLeft votes seats).toNat).take (((lwOrd votes seats).map pairD).take (lwLeft votes seats).toNat).length |>.foldl (fun h p => bump h p.2.toNat) (lrFl votes seats)) = lwHad votes seats := by
          rw [htk, List.length_map, List.take_length]; rfl
        rw [hhad]
        have hog : ∀ k : Int, 0 ≤ k → k < votes.length → ((lwOrd votes seats).map pairD)[k.toNat]? = some (pairD ((lwOrd votes seats).getD k.toNat (0, 0))) := fun k k0 k1 => by
          have : k.toNat < (lwOrd votes seats).length := by omega
          simp [this]
        refine ex_return (k := false) (d := .tup [il (lwHad votes seats), .bool (lwTied votes seats)]) ok (ev_tuple (evs_cons (eO rfl) (evs_cons (ev_flat (k' := true) (ev_eq (ev_and (k1 := true) (a := decide (0 < lwLeft votes seats) && decide (lwLeft votes seats < votes.length)) (d2 := .bool (((lwOrd votes seats).getD (lwLeft votes seats - 1).toNat (0, 0)).1 == ((lwOrd votes seats).getD (lwLeft votes seats).toNat (0, 0)).1)) (ev_chain eInt (eN rfl) (fun _ => ev_eq (ev_len rfl (eN rfl) hv5) (by rw [List.length_map])) cmp_lt cmp_lt) tru_bool (fun q => ?_)) ?_)) evs_nil)) (by simp)) ⟨_, _, rfl, rfl⟩
        · simp only [Bool.and_eq_true, decide_eq_true_eq] at q
          exact ev_cmp (ev_itemT (ev_item (eN rfl) (eSub (eN rfl) eInt) (by omega) (by omega) (hog _ (by omega) (by omega))) eInt (by omega) (by omega) rfl) (ev_itemT (ev_item (eN rfl) (eN rfl) (by omega) (by omega) (hog _ (by omega) (by omega))) eInt (by omega) (by omega) rfl) cmp_eq
        · unfold lwTied
          rw [Bool.decide_and]
          cases (decide (0 < lwLeft votes seats) && decide (lwLeft votes seats < votes.length)) <;> rfl
    · rw [decide_eq_false c1, if_neg (by decide)]
      refine ex_nil ?_
      obtain ⟨hS, td0, hrun, rfl⟩ := hrd (by omega)
      have hst0 : ∀ x ∈ start at' votes, 0 ≤ x := fun x hx => by
        obtain ⟨p, hp, rfl⟩ := List.mem_map.mp hx
        split <;> omega
      have hstl : (start at' votes).length = votes.length := by simp [start]
      have hSn := sum_nonneg hst0
      obtain ⟨fc, bc, hFc, hDc⟩ := fn_claim (prog := prog) (w := w) (mean := mean) (mg := mg) (mb := mb) (cls := .ref 24) (n := n)
      refine ex_comp_own ok (.inl rfl) rfl (r := (start at' votes).map .int) (f := fun i => some (.int ((fun p : Int => if (6 < at' ∧ at' < 14) ∧ 0 < p then (1 : Int) else 0) (gt votes i)))) (σc := ([("at", (true, .int at'))] : Sg)) (src_off (src_list (eN rfl))) (by rw [List.length_map]; omega) (comp_map' (l := votes) (fun p : Int => if (6 < at' ∧ at' < 14) ∧ 0 < p then (1 : Int) else 0)) (fun x => rfl) rfl rfl (by decide) (.loc (fun n => rfl) (fun h => rfl) (fun C => rfl)) (cap_cell rfl cap_nil) (fun i C X d hd => .nil) (fun i C X d e hd he => ?_) (fun a ha => ?_)
      · obtain ⟨hi, rfl⟩ := map_d hd
        cases he
        refine ev_if (q := decide ((6 < at' ∧ at' < 14) ∧ 0 < gt votes i)) (tst_eq (a := ((decide ((6 : Int) < at') && decide ((at' : Int) < 14)) && decide (0 < gt votes i))) (tst_and (tst_chain eInt (eN rfl) (fun _ => eInt) cmp_lt cmp_lt) (fun _ => tst_cmp (eN rfl) eInt cmp_gt)) (by rw [Bool.eq_iff_iff]; simp; omega)) (fun hq => ?_) (fun hq => ?_)
        · exact ev_eq eInt (by simp only [if_pos (of_decide_eq_true hq)])
        · exact ev_eq eInt (by simp only [if_neg (of_decide_eq_false hq)])
      refine ex_assign ok (.inl rfl) (by rintro _ _ ⟨⟩; decide) eBool ?_
      refine ex_forget (σ' := ([("had", (false, il (start at' votes))), ("tied", (true, .bool false)), ("at", (true, .int at')), ("votes", (true, il votes)), ("seats", (true, .int seats)), ("total", (true, .int votes.sum))] : Sg)) (sub_cons rfl (sub_cons rfl (sub_cons rfl (sub_cons rfl (sub_cons rfl (sub_cons rfl sub_nil)))))) ?_
      have hM : (((seats : Int) + 1) - ((start at' votes).sum + 1)).toNat = seats - (start at' votes).sum.toNat := by omega
      refine ex_for ok (.inl rfl) (by rintro _ _ ⟨⟩; decide) (fun k τ => ∃ had td, DRun at' votes (seats - (start at' votes).sum.toNat - k) ((start at' votes).sum + 1 + (k : Int)) had td r td0 ∧ had.length = votes.length ∧ (∀ x ∈ had, 0 ≤ x) ∧ had.sum = (start at' votes).sum + k ∧ k ≤ seats - (start at' votes).sum.toNat ∧
          τ = ([("had", (false, il had)), ("tied", (true, .bool td)), ("at", (true, .int at')), ("votes", (true, il votes)), ("seats", (true, .int seats)), ("total", (true, .int votes.sum))] : Sg))
        (src_range2 gl_range (eAdd (ev_sum rfl (eO rfl)) eInt) (eAdd (eN rfl) eInt) (by omega) (by omega) (by omega) (by omega)) ⟨start at' votes, false, by rw [Nat.sub_zero]; simpa using hrun, hstl, hst0, by simp, Nat.zero_le _, rfl⟩ ?_ ?_
      · rintro fx' k d τ hn hd ⟨had, td, hR, hhl, hh0, hhs, hk, rfl⟩
        obtain ⟨hi, rfl⟩ := rangeD_get hd
        rw [hM] at hi
        have hhs50 : had.sum ≤ 50 := by omega
        obtain ⟨q, hq⟩ : ∃ q, seats - (start at' votes).sum.toNat - k = q + 1 := ⟨seats - (start at' votes).sum.toNat - k - 1, by omega⟩
        rw [hq] at hR
        generalize hho : (start at' votes).sum + 1 + (k : Int) = house at hR
        have hhouse : house.natAbs < 2 ^ 64 := by omega
        obtain ⟨b, hb, hbl, hR⟩ := hR.inv
        refine ex_triple ok (.inl rfl) (.inl rfl) (.inl rfl) (by rintro _ _ ⟨⟩; exact ⟨by decide, by decide, by decide⟩) (ev_tuple (evs_cons eInt (evs_cons eInt (evs_cons eNone evs_nil))) (by simp)) rfl rfl rfl ?_
        refine ex_assign ok (.inl rfl) (by rintro _ _ ⟨⟩; decide) eBool ?_
        refine ex_forget (σ' := ([("had", (false, il had)), ("tied", (true, .bool false)), ("top", (true, .int 0)), ("under", (true, .int 1)), ("best", (true, bestD none)), ("house", (true, .int house)), ("at", (true, .int at')), ("votes", (true, il votes)), ("seats", (true, .int seats)), ("total", (true, .int votes.sum))] : Sg)) (sub_cons rfl (sub_cons rfl (sub_cons rfl (sub_cons rfl (sub_cons rfl (sub_cons rfl (sub_cons rfl (sub_cons rfl (sub_cons rfl (sub_cons rfl sub_nil)))))))))) ?_
        refine ex_for ok (.inl rfl) (by rintro _ _ ⟨⟩; decide) (fun i τ => τ = ([("had", (false, il had)), ("tied", (true, .bool (dlSeat at' votes house had i).2.2.2)), ("top", (true, .int (dlSeat at' votes house had i).1)), ("under", (true, .int (dlSeat at' votes house had i).2.1)), ("best", (true, bestD (dlSeat at' votes house had i).2.2.1)), ("house", (true, .int house)), ("at", (true, .int at')), ("votes", (true, il votes)), ("seats", (true, .int seats)), ("total", (true, .int votes.sum))] : Sg))
          (src_rlen rfl rfl (eN rfl) hv5) rfl ?_ ?_
        · rintro fx'' i d τ hn' hd ⟨⟩
          obtain ⟨hi', rfl⟩ := rangeD0_get hd
          rw [List.length_map] at hi'
          have hsmall := (dl_small (at' := at') (votes := votes) (house := house) hh0 hhs50 i).1
          have hnext := dlSeat_succ at' votes house had i
          rw [hnext]
          revert hsmall
          generalize dlSeat at' votes house had i = st
          intro hsmall
          have hg := gt_bound hh0 (m := 50) (by omega) hhs50 i
          have hcl := claim_small at' (gt votes i) (gt had i) hg.1 (by omega)
          have hDc' := hDc at' (gt votes i) (gt had i) (hvv _ (gt_mem hi')) hg.1 (by omega)
          refine ex_if ok (b := decide (gt votes i = 0 ∨ (at' = 14 ∧ gt votes i * house ≤ gt had i * votes.sum))) (tst_eq (a := ((gt votes i == 0) || (((at' : Int) == 14) && decide (gt votes i * house ≤ gt had i * votes.sum))))
            (tst_or (tst_cmp (ev_at (eN rfl) (eN rfl) hi' hlv) eInt cmp_eq) (fun _ => tst_and (tst_cmp (eN rfl) eInt cmp_eq) (fun _ => tst_cmp (eMul (ev_at (eO rfl) (eN rfl) (by omega) (by omega)) (eN rfl) (.of_left (small_bits (by omega)))) (eMul (ev_at (eN rfl) (eN rfl) hi' hlv) (eN rfl) (.of_right (small_bits hhouse))) cmp_ge))) (by rw [Bool.eq_iff_iff]; simp; omega)) ?_
          by_cases c2 : gt votes i = 0 ∨ (at' = 14 ∧ gt votes i * house ≤ gt had i * votes.sum)
          · rw [decide_eq_true c2, if_pos rfl]
            have e : dlTurn at' votes house had st i = st := by unfold dlTurn; rw [if_pos c2]
            refine ex_forget ?_ (ex_continue ⟨rfl, rfl⟩)
            rw [e]
            exact (sub_cons rfl (sub_cons rfl (sub_cons rfl (sub_cons rfl (sub_cons rfl (sub_cons rfl (sub_cons rfl (sub_cons rfl (sub_cons rfl (sub_cons rfl sub_nil))))))))))
          rw [decide_eq_false c2, if_neg (by decide)]
          refine ex_nil ?_
          refine ex_pair_call (P := (· = .tup [.int (claim at' (gt votes i) (gt had i)).1, .int (claim at' (gt votes i) (gt had i)).2])) ok (.inl rfl) (.inl rfl) (by rintro _ _ ⟨⟩; exact ⟨by decide, by decide⟩) ?_
            (callx_fn ok lv gl_claim hFc hDc' rfl (argsE ok (eN rfl) (argsE ok (ev_at (eN rfl) (eN rfl) hi' hlv) (argsE ok (ev_at (eO rfl) (eN rfl) (by omega) (by omega)) argsK_nil))))
          rintro d rfl
          refine ⟨_, _, rfl, .inr ⟨rfl, rfl⟩, ?_⟩
          have hm1 : ∀ x : Int, IntMulOk x st.2.1 := fun x => .of_right (small_bits (by omega))
          have hm2 : ∀ x : Int, IntMulOk x (claim at' (gt votes i) (gt had i)).2 := fun x => .of_right (small_bits (by omega))
          revert hm2
          have hdl : dlTurn at' votes house had st i = (if st.1 * (claim at' (gt votes i) (gt had i)).2 < (claim at' (gt votes i) (gt had i)).1 * st.2.1 then ((claim at' (gt votes i) (gt had i)).1, (claim at' (gt votes i) (gt had i)).2, some i, false)
            else if (claim at' (gt votes i) (gt had i)).1 * st.2.1 = st.1 * (claim at' (gt votes i) (gt had i)).2 ∧ st.2.2.1.isSome = true then (st.1, st.2.1, st.2.2.1, true) else st) := by unfold dlTurn; rw [if_neg c2]
          rw [hdl]
          generalize claim at' (gt votes i) (gt had i) = cl
          intro hm2
          refine ex_if ok (b := decide (st.1 * cl.2 < cl.1 * st.2.1)) (tst_cmp (eMul (eN rfl) (eN rfl) (hm1 _)) (eMul (eN rfl) (eN rfl) (hm2 _)) cmp_gt) ?_
          by_cases c3 : st.1 * cl.2 < cl.1 * st.2.1
          · rw [decide_eq_true c3, if_pos rfl]
            refine ex_triple_swap (d1 := .int cl.1) (d2 := .int cl.2) (d3 := .int (i : Int)) ok (.inl rfl) (.inl rfl) (.inl rfl) (by rintro _ _ ⟨⟩; exact ⟨by decide, by decide, by decide⟩) (ev_tuple (evs_cons (eN rfl) (evs_cons (eN rfl) (evs_cons (eN rfl) evs_nil))) (by simp)) rfl rfl rfl ?_
            refine ex_assign ok (.inl rfl) (by rintro _ _ ⟨⟩; decide) eBool (ex_nil ?_)
            refine ex_forget ?_ (ex_nil ⟨rfl, rfl⟩)
            rw [if_pos c3]
            exact (sub_cons rfl (sub_cons rfl (sub_cons rfl (sub_cons rfl (sub_cons rfl (sub_cons rfl (sub_cons rfl (sub_cons rfl (sub_cons rfl (sub_cons rfl sub_nil))))))))))
          rw [decide_eq_false c3, if_neg (by decide)]
          refine ex_if ok (b := decide (cl.1 * st.2.1 = st.1 * cl.2 ∧ st.2.2.1.isSome = true)) (tst_eq (a := ((cl.1 * st.2.1 == st.1 * cl.2) && !(bestD st.2.2.1).isNone)) (tst_and (tst_cmp (eMul (eN rfl) (eN rfl) (hm1 _)) (eMul (eN rfl) (eN rfl) (hm2 _)) cmp_eq) fun _ => tst_cmp (eN rfl) eNone cmp_isnot_none) ?_) ?_
          · rw [Bool.eq_iff_iff]
            cases st.2.2.1 <;> simp [bestD, D.isNone]
          by_cases c4 : cl.1 * st.2.1 = st.1 * cl.2 ∧ st.2.2.1.isSome = true
          · rw [decide_eq_true c4, if_pos rfl]
            refine ex_assign ok (.inl rfl) (by rintro _ _ ⟨⟩; decide) eBool (ex_nil (ex_nil ?_))
            refine ex_forget ?_ (ex_nil ⟨rfl, rfl⟩)
            rw [if_neg c3, if_pos c4]
            exact (sub_cons rfl (sub_cons rfl (sub_cons rfl (sub_cons rfl (sub_cons rfl (sub_cons rfl (sub_cons rfl (sub_cons rfl (sub_cons rfl (sub_cons rfl sub_nil))))))))))
          · rw [decide_eq_false c4, if_neg (by decide)]
            refine ex_nil (ex_nil ?_)
            refine ex_forget ?_ (ex_nil ⟨rfl, rfl⟩)
            rw [if_neg c3, if_neg c4]
            exact (sub_cons rfl (sub_cons rfl (sub_cons rfl (sub_cons rfl (sub_cons rfl (sub_cons rfl (sub_cons rfl (sub_cons rfl (sub_cons rfl (sub_cons rfl sub_nil))))))))))
        · rintro τ rfl
          rw [rangeD_length, List.length_map, hb]
          refine ex_aug ok rfl (il_flat had) (hn a (List.mem_singleton.mpr rfl) (List.mem_singleton.mpr rfl) ha) (eN (d := .int (b : Int)) rfl) eInt (by omega) (by omega) (by rw [Int.toNat_natCast]; exact gt_get (by omega)) ?_
          rw [Int.toNat_natCast, bump_map]
          refine ex_forget ?_ (ex_nil ⟨rfl, bump had b, (dlSeat at' votes house had votes.length).2.2.2, ?_, by rw [bump_length, hhl], bump_nonneg hh0, by rw [bump_sum (by omega)]; omega, by omega, rfl⟩)
          · exact sub_cons rfl (sub_cons rfl (sub_cons rfl (sub_cons rfl (sub_cons rfl (sub_cons rfl sub_nil)))))
          · rw [show seats - (start at' votes).sum.toNat - (k + 1) = q by omega, show (start at' votes).sum + 1 + ((k + 1 : Nat) : Int) = house + 1 by omega]
            exact hR
      · rintro τ ⟨had, td, hR, hhl, hh0, hhs, hk, rfl⟩
        rw [rangeD_length, hM, Nat.sub_self] at hR
        cases hR
        refine ex_return (k := false) (d := .tup [il r, .bool (td0 && !decide (at' = 14))]) ok (ev_tuple (evs_cons (eO rfl) (evs_cons (ev_flat (k' := true) (ev_eq (ev_and (k1 := true) (a := td0) (d2 := .bool ((at' : Int) != 14)) (eN rfl) tru_bool (fun _ => ev_cmp (eN rfl) eInt cmp_ne)) ?_)) evs_nil)) (by simp)) ⟨_, _, rfl, rfl⟩
        cases td0 with
        | false => rfl
        | true =>
          simp only [if_true, Bool.true_and]
          congr 1
          rw [Bool.eq_iff_iff]; simp; omega
end
end Jg
end PartJgE

noncomputable section PartJgP
open PySem PySem.W PySem.Calls PyProof.Rows
namespace Jg

/-- fractions, over greater than nought -/
theorem fr_lt_of_le_of_lt {a b c d e f : Int} (hb : 0 < b) (hd : 0 < d) (hf : 0 < f) (h1 : a * d ≤ c * b) (h2 : c * f < e * d) : a * f < e * b := by
  have h3 := Int.mul_le_mul_of_nonneg_right h1 (Int.le_of_lt hf)
  have h4 := Int.mul_lt_mul_of_pos_right h2 hb
  have e1 : a * d * f = a * f * d := by rw [Int.mul_assoc, Int.mul_comm d f, ← Int.mul_assoc]
  have e2 : c * b * f = c * f * b := by rw [Int.mul_assoc, Int.mul_comm b f, ← Int.mul_assoc]
  have e3 : e * d * b = e * b * d := by rw [Int.mul_assoc, Int.mul_comm d b, ← Int.mul_assoc]
  rw [e1, e2] at h3
  rw [e3] at h4
  exact Int.lt_of_mul_lt_mul_right (Int.lt_of_le_of_lt h3 h4) (Int.le_of_lt hd)
theorem fr_le_trans {a b c d e f : Int} (hb : 0 < b) (hd : 0 < d) (hf : 0 < f) (h1 : a * d ≤ c * b) (h2 : c * f ≤ e * d) : a * f ≤ e * b := by
  have h3 := Int.mul_le_mul_of_nonneg_right h1 (Int.le_of_lt hf)
  have h4 := Int.mul_le_mul_of_nonneg_right h2 (Int.le_of_lt hb)
  have e1 : a * d * f = a * f * d := by rw [Int.mul_assoc, Int.mul_comm d f, ← Int.mul_assoc]
  have e2 : c * b * f = c * f * b := by rw [Int.mul_assoc, Int.mul_comm b f, ← Int.mul_assoc]
  have e3 : e * d * b = e * b * d := by rw [Int.mul_assoc, Int.mul_comm d b, ← Int.mul_assoc]
  rw [e1, e2] at h3
  rw [e3] at h4
  exact Int.le_of_mul_le_mul_right (Int.le_trans h3 h4) hd

section
variable (at' : Nat) (V : List Int) (house : Int) (had : List Int)
def live (i : Nat) : Prop := ¬ (gt V i = 0 ∨ (at' = 14 ∧ gt V i * house ≤ gt had i * V.sum))
def cA (i : Nat) : Int := (claim at' (gt V i) (gt had i)).1
def cB (i : Nat) : Int := (claim at' (gt V i) (gt had i)).2
/-- after n parties: none that lives, or the first of the greatest and whether another one equals it -/
def Seen (n : Nat) (st : Best) : Prop :=
  ((∀ i, i < n → ¬ live at' V house had i) ∧ st = (0, 1, none, false)) ∨
  ∃ b t, b < n ∧ live at' V house had b ∧ st = (cA at' V had b, cB at' V had b, some b, t) ∧ (∀ i, i < n → live at' V house had i → cA at' V had i * cB at' V had b ≤ cA at' V had b * cB at' V had i) ∧
    (∀ i, i < b → live at' V house had i → cA at' V had i * cB at' V had b < cA at' V had b * cB at' V had i) ∧ (t = true ↔ ∃ i, b < i ∧ i < n ∧ live at' V house had i ∧ cA at' V had i * cB at' V had b = cA at' V had b * cB at' V had i)
theorem dlSeat_seen {N : Nat} (hp : ∀ i, i < N → live at' V house had i → 0 < cA at' V had i ∧ 0 < cB at' V had i) : ∀ n, n ≤ N → Seen at' V house had n (dlSeat at' V house had n)
  | 0, _ => .inl ⟨fun i h => absurd h (Nat.not_lt_zero i), rfl⟩
  | n + 1, hn => by
    have ih := dlSeat_seen hp n (by omega)
    rw [dlSeat_succ]
    generalize dlSeat at' V house had n = st at ih
    unfold dlTurn
    by_cases hl : live at' V house had n
    · rw [if_neg hl]
      obtain ⟨ha, hb⟩ := hp n (by omega) hl
      show Seen at' V house had (n + 1) (if st.1 * cB at' V had n < cA at' V had n * st.2.1 then (cA at' V had n, cB at' V had n, some n, false) else if cA at' V had n * st.2.1 = st.1 * cB at' V had n ∧ st.2.2.1.isSome = true then (st.1, st.2.1, st.2.2.1, true) else st)
      rcases ih with ⟨h0, rfl⟩ | ⟨b, t, hbn, hlb, rfl, hmax, hfst, ht⟩
      · rw [if_pos (by simpa using ha)]
        refine .inr ⟨n, false, Nat.lt_succ_self n, hl, rfl, fun i hi hli => ?_, fun i hi hli => absurd hli (h0 i hi), ?_⟩
        · rcases Nat.lt_succ_iff_lt_or_eq.mp hi with h | rfl
          · exact absurd hli (h0 i h)
          · exact Int.le_refl _
        · constructor
          · intro h; cases h
          · rintro ⟨i, h1, h2, _⟩; omega
      · obtain ⟨hba, hbb⟩ := hp b (by omega) hlb
        dsimp only
        by_cases c1 : cA at' V had b * cB at' V had n < cA at' V had n * cB at' V had b
        · rw [if_pos c1]
          refine .inr ⟨n, false, Nat.lt_succ_self n, hl, rfl, fun i hi hli => ?_, fun i hi hli => ?_, ?_⟩
          · rcases Nat.lt_succ_iff_lt_or_eq.mp hi with h | rfl
            · exact Int.le_of_lt (fr_lt_of_le_of_lt (hp i (by omega) hli).2 hbb hb (hmax i h hli) c1)
            · exact Int.le_refl _
          · exact fr_lt_of_le_of_lt (hp i (by omega) hli).2 hbb hb (hmax i hi hli) c1
          · constructor
            · intro h; cases h
            · rintro ⟨i, h1, h2, _⟩; omega
        · rw [if_neg c1]
          by_cases c2 : cA at' V had n * cB at' V had b = cA at' V had b * cB at' V had n
          · rw [if_pos ⟨c2, rfl⟩]
            refine .inr ⟨b, true, by omega, hlb, rfl, fun i hi hli => ?_, hfst, ?_⟩
            · rcases Nat.lt_succ_iff_lt_or_eq.mp hi with h | rfl
              · exact hmax i h hli
              · exact Int.le_of_eq c2
            · exact ⟨fun _ => ⟨n, hbn, Nat.lt_succ_self n, hl, c2⟩, fun _ => rfl⟩
          · rw [if_neg (fun h => c2 h.1)]
            refine .inr ⟨b, t, by omega, hlb, rfl, fun i hi hli => ?_, hfst, ht.trans ?_⟩
            · rcases Nat.lt_succ_iff_lt_or_eq.mp hi with h | rfl
              · exact hmax i h hli
              · omega
            · constructor
              · rintro ⟨i, h1, h2, h3⟩; exact ⟨i, h1, by omega, h3⟩
              · rintro ⟨i, h1, h2, h3, h4⟩
                rcases Nat.lt_succ_iff_lt_or_eq.mp h2 with h | rfl
                · exact ⟨i, h1, h, h3, h4⟩
                · exact absurd h4 c2
    · rw [if_pos (Classical.byContradiction fun h => hl h)]
      rcases ih with ⟨h0, e⟩ | ⟨b, t, hbn, hlb, e, hmax, hfst, ht⟩
      · refine .inl ⟨fun i hi => ?_, e⟩
        rcases Nat.lt_succ_iff_lt_or_eq.mp hi with h | rfl
        · exact h0 i h
        · exact hl
      · refine .inr ⟨b, t, by omega, hlb, e, fun i hi hli => ?_, hfst, ht.trans ?_⟩
        · rcases Nat.lt_succ_iff_lt_or_eq.mp hi with h | rfl
          · exact hmax i h hli
          · exact absurd hli hl
        · constructor
          · rintro ⟨i, h1, h2, h3⟩; exact ⟨i, h1, by omega, h3⟩
          · rintro ⟨i, h1, h2, h3, h4⟩
            rcases Nat.lt_succ_iff_lt_or_eq.mp h2 with h | rfl
            · exact ⟨i, h1, h, h3, h4⟩
            · exact absurd h3 hl
end
end Jg
end PartJgP

noncomputable section PartJgP2
open PySem PySem.W PySem.Calls PyProof.Rows
namespace Jg

def grpOf (at' : Nat) : Nat := if at' < 3 then 1 else if at' < 6 then 2 else if at' = 6 then 3 else if at' < 10 then 4 else if at' < 12 then 5 else 6
theorem grpOf_bound (at' : Nat) : 1 ≤ grpOf at' ∧ grpOf at' ≤ 6 := by unfold grpOf; constructor <;> (repeat' split) <;> omega
theorem grp_names : ∀ at' < 14, ∀ m, names[at']? = some m → ∀ j, 1 ≤ j → j ≤ 6 → (grp j).any (· == m) = decide (j = grpOf at') := by
  have : ∀ at' < 14, ∀ m, names[at']? = some m → ∀ j < 7, 1 ≤ j → (grp j).any (· == m) = decide (j = grpOf at') := by decide
  exact fun a h m hm j h1 h6 => this a h m hm j (by omega) h1

theorem divs_get {g S k : Nat} (hk : k < S) : (divs g S)[k]? = some (if g = 3 then (if k = 0 then (7, 5) else (2 * (k : Int) + 1, 1)) else divF g k) := by
  unfold divs
  by_cases h : g = 3
  · rw [if_pos h, if_pos h]
    cases k with
    | zero => rfl
    | succ k =>
      rw [if_neg (by omega)]
      simp [show k < S - 1 by omega]
      omega
  · rw [if_neg h, if_neg h]
    simp [hk]
theorem claim_div {at' : Nat} (h14 : at' < 14) {v : Int} (hv : 0 < v) (k : Nat) : claim at' v ((if 3 < grpOf at' then 1 else 0) + (k : Int)) =
    ((if grpOf at' = 4 then v * v else v) * (if grpOf at' = 3 then (if k = 0 then ((7 : Int), (5 : Int)) else (2 * (k : Int) + 1, 1)) else divF (grpOf at') k).2, (if grpOf at' = 3 then (if k = 0 then ((7 : Int), (5 : Int)) else (2 * (k : Int) + 1, 1)) else divF (grpOf at') k).1) := by
  have hc : at' = 0 ∨ at' = 1 ∨ at' = 2 ∨ at' = 3 ∨ at' = 4 ∨ at' = 5 ∨ at' = 6 ∨ at' = 7 ∨ at' = 8 ∨ at' = 9 ∨ at' = 10 ∨ at' = 11 ∨ at' = 12 ∨ at' = 13 := by omega
  rcases hc with rfl | rfl | rfl | rfl | rfl | rfl | rfl | rfl | rfl | rfl | rfl | rfl | rfl | rfl
  case inr.inr.inr.inr.inr.inr.inl =>
    by_cases k0 : k = 0
    · subst k0; simp [claim, grpOf]; omega
    · simp [claim, grpOf, k0]
  all_goals simp [claim, grpOf, divF]
  all_goals (try (constructor))
  all_goals (try (congr 1; omega))
  all_goals (try omega)

theorem dvd_cmn {ds : List (Int × Int)} {d : Int × Int} (h : d ∈ ds) : d.1 ∣ cmn ds := by
  have key : ∀ (l : List (Int × Int)) (a : Int), (d.1 ∣ a ∨ d ∈ l) → d.1 ∣ l.foldl (fun c d => c * d.1) a := by
    intro l
    induction l with
    | nil => intro a h; rcases h with h | h; exact h; cases h
    | cons x l ih =>
      intro a h
      refine ih _ ?_
      rcases h with h | h
      · exact .inl (Int.dvd_trans h (Int.dvd_mul_right _ _))
      · rcases List.mem_cons.mp h with rfl | h
        · exact .inl (Int.dvd_mul_left _ _)
        · exact .inr h
  exact key ds 1 (.inr h)
/-- the k-th weight of a party with v votes -/
def uu (g S : Nat) (v : Int) (k : Nat) : Int := gt (wt g (divs g S) v) k
theorem uu_mul {g S k : Nat} {v : Int} {d : Int × Int} (hg : g ≤ 6) (hS : S ≤ 9) (hd : (divs g S)[k]? = some d) : uu g S v k * d.1 = (if g = 4 then v * v else v) * d.2 * cmn (divs g S) := by
  have hm := List.mem_of_getElem? hd
  have hb := divs_bound hg hS d hm
  have e : uu g S v k = ((if g = 4 then v * v else v) * d.2 * cmn (divs g S)).fdiv d.1 := by
    unfold uu gt wt
    rw [List.getElem?_map, hd]; rfl
  rw [e, Int.fdiv_eq_ediv_of_nonneg _ (by omega)]
  exact Int.ediv_mul_cancel (Int.dvd_trans (dvd_cmn hm) (Int.dvd_mul_left _ _))
theorem divs_dec : ∀ g < 7, ∀ S < 10, ∀ k < 9, ∀ d d', (divs g S)[k]? = some d → (divs g S)[k + 1]? = some d' → d'.2 * d.1 < d.2 * d'.1 := by
  have : ∀ g < 7, ∀ S < 10, ∀ k < 9, (match (divs g S)[k]?, (divs g S)[k + 1]? with | some d, some d' => decide (d'.2 * d.1 < d.2 * d'.1) | _, _ => true) = true := by decide +kernel
  intro g hg S hS k hk d d' h1 h2
  have := this g hg S hS k hk
  rw [h1, h2] at this
  simpa using this
theorem vv_pos {g : Nat} {v : Int} (hv : 0 < v) : 0 < (if g = 4 then v * v else v) := by
  split
  · exact Int.mul_pos hv hv
  · exact hv
theorem uu_dec {g S k : Nat} {v : Int} (hg1 : 1 ≤ g) (hg : g ≤ 6) (hS : S ≤ 9) (hk : k + 1 < S) (hv : 0 < v) : uu g S v (k + 1) < uu g S v k := by
  have h1 := divs_get (g := g) (show k < S by omega)
  have h2 := divs_get (g := g) hk
  have e1 := uu_mul (v := v) hg hS h1
  have e2 := uu_mul (v := v) hg hS h2
  have hb1 := divs_bound hg hS _ (List.mem_of_getElem? h1)
  have hb2 := divs_bound hg hS _ (List.mem_of_getElem? h2)
  have hd := divs_dec g (by omega) S (by omega) k (by omega) _ _ h1 h2
  have hc := (cmn_bound (divs_bound hg hS)).1
  have hvp := vv_pos (g := g) hv
  revert e1 e2 hb1 hb2 hd
  generalize (if g = 3 then (if k = 0 then ((7 : Int), (5 : Int)) else (2 * (k : Int) + 1, 1)) else divF g k) = d
  generalize (if g = 3 then (if k + 1 = 0 then ((7 : Int), (5 : Int)) else (2 * ((k + 1 : Nat) : Int) + 1, 1)) else divF g (k + 1)) = d'
  generalize (if g = 4 then v * v else v) = vv at hvp
  generalize cmn (divs g S) = C at hc
  intro e1 e2 hb1 hb2 hd
  have hp : 0 < d.1 * d'.1 := Int.mul_pos (by omega) (by omega)
  refine Int.lt_of_mul_lt_mul_right (a := d.1 * d'.1) ?_ (Int.le_of_lt hp)
  have q1 : uu g S v (k + 1) * (d.1 * d'.1) = vv * C * (d'.2 * d.1) := by
    rw [Int.mul_comm d.1 d'.1, ← Int.mul_assoc, e2]
    rw [Int.mul_assoc vv, Int.mul_comm d'.2 C, ← Int.mul_assoc vv, Int.mul_assoc (vv * C)]
  have q2 : uu g S v k * (d.1 * d'.1) = vv * C * (d.2 * d'.1) := by
    rw [← Int.mul_assoc, e1]
    rw [Int.mul_assoc vv, Int.mul_comm d.2 C, ← Int.mul_assoc vv, Int.mul_assoc (vv * C)]
  rw [q1, q2]
  exact Int.mul_lt_mul_of_pos_left hd (Int.mul_pos hvp hc)
theorem uu_zero {g S k : Nat} : uu g S 0 k = 0 := by
  unfold uu gt wt
  rw [List.getElem?_map]
  cases (divs g S)[k]? with
  | none => rfl
  | some d => simp
theorem uu_pos {g S k : Nat} {v : Int} (hg : g ≤ 6) (hS : S ≤ 9) (hk : k < S) (hv : 0 < v) : 0 < uu g S v k := by
  have h1 := divs_get (g := g) hk
  have e1 := uu_mul (v := v) hg hS h1
  have hb1 := divs_bound hg hS _ (List.mem_of_getElem? h1)
  have hc := (cmn_bound (divs_bound hg hS)).1
  have hp : 0 < uu g S v k * (if g = 3 then (if k = 0 then ((7 : Int), (5 : Int)) else (2 * (k : Int) + 1, 1)) else divF g k).1 := by
    rw [e1]
    exact Int.mul_pos (Int.mul_pos (vv_pos hv) (by omega)) hc
  exact Int.pos_of_mul_pos_left hp (by omega) 

theorem cmp_core {a b c d u v C : Int} (hb : 0 < b) (hd : 0 < d) (hC : 0 < C) (h1 : u * b = a * C) (h2 : v * d = c * C) : (a * d < c * b ↔ u < v) ∧ (a * d = c * b ↔ u = v) := by
  have e1 : u * (b * d) = a * d * C := by rw [← Int.mul_assoc, h1, Int.mul_assoc, Int.mul_comm C d, ← Int.mul_assoc]
  have e2 : v * (b * d) = c * b * C := by rw [Int.mul_comm b d, ← Int.mul_assoc, h2, Int.mul_assoc, Int.mul_comm C b, ← Int.mul_assoc]
  have hp : 0 < b * d := Int.mul_pos hb hd
  constructor
  · constructor
    · intro h
      have := Int.mul_lt_mul_of_pos_right h hC
      rw [← e1, ← e2] at this
      exact Int.lt_of_mul_lt_mul_right this (Int.le_of_lt hp)
    · intro h
      have := Int.mul_lt_mul_of_pos_right h hp
      rw [e1, e2] at this
      exact Int.lt_of_mul_lt_mul_right this (Int.le_of_lt hC)
  · constructor
    · intro h
      rw [h] at e1
      exact Int.eq_of_mul_eq_mul_right (Int.ne_of_gt hp) (e1.trans e2.symm)
    · intro h
      rw [h] at e1
      exact Int.eq_of_mul_eq_mul_right (Int.ne_of_gt hC) (e1.symm.trans e2)
def bs (at' : Nat) (v : Int) : Int := if 3 < grpOf at' ∧ 0 < v then 1 else 0
theorem dl_pick {at' S : Nat} {V had : List Int} {house : Int} {x : Nat → Nat} (h14 : at' < 14) (hS : S ≤ 9) (hV : ∀ v ∈ V, 0 ≤ v) (hx : ∀ i, i < V.length → gt had i = bs at' (gt V i) + (x i : Int)) (hxS : ∀ i, i < V.length → x i < S) {b : Nat} (hb : b < V.length)
    (hmax : ∀ i, i < V.length → uu (grpOf at') S (gt V i) (x i) ≤ uu (grpOf at') S (gt V b) (x b)) (hfst : ∀ i, i < b → uu (grpOf at') S (gt V i) (x i) < uu (grpOf at') S (gt V b) (x b)) (hpos : 0 < uu (grpOf at') S (gt V b) (x b)) :
    (dlSeat at' V house had V.length).2.2.1 = some b ∧ ((dlSeat at' V house had V.length).2.2.2 = true ↔ ∃ i, b < i ∧ i < V.length ∧ uu (grpOf at') S (gt V i) (x i) = uu (grpOf at') S (gt V b) (x b)) := by
  obtain ⟨hg1, hg6⟩ := grpOf_bound at'
  have hC := (cmn_bound (divs_bound (g := grpOf at') hg6 hS)).1
  have hlive : ∀ i, i < V.length → (live at' V house had i ↔ 0 < gt V i) := fun i hi => by
    have := hV _ (gt_mem hi)
    unfold live
    constructor
    · intro h
      have : gt V i ≠ 0 := fun q => h (.inl q)
      omega
    · intro h q
      rcases q with q | ⟨q, _⟩ <;> omega
  have hval : ∀ i, i < V.length → 0 < gt V i → 0 < cA at' V had i ∧ 0 < cB at' V had i ∧ uu (grpOf at') S (gt V i) (x i) * cB at' V had i = cA at' V had i * cmn (divs (grpOf at') S) := fun i hi hp => by
    have h1 := divs_get (g := grpOf at') (hxS i hi)
    have hb1 := divs_bound hg6 hS _ (List.mem_of_getElem? h1)
    have e1 := uu_mul (v := gt V i) hg6 hS h1
    have hc := claim_div h14 hp (x i)
    have hh : gt had i = (if 3 < grpOf at' then 1 else 0) + (x i : Int) := by
      rw [hx i hi]; unfold bs
      congr 1
      simp [hp]
    unfold cA cB
    rw [hh, hc]
    exact ⟨Int.mul_pos (vv_pos hp) (by omega), by omega, e1⟩
  have hU0 : ∀ i, i < V.length → 0 < uu (grpOf at') S (gt V i) (x i) → 0 < gt V i := fun i hi h => by
    have := hV _ (gt_mem hi)
    rcases Int.lt_or_eq_of_le this with q | q
    · exact q
    · rw [← q, uu_zero] at h; omega
  have hcmp : ∀ i j, i < V.length → j < V.length → 0 < gt V i → 0 < gt V j → (cA at' V had i * cB at' V had j < cA at' V had j * cB at' V had i ↔ uu (grpOf at') S (gt V i) (x i) < uu (grpOf at') S (gt V j) (x j)) ∧ (cA at' V had i * cB at' V had j = cA at' V had j * cB at' V had i ↔ uu (grpOf at') S (gt V i) (x i) = uu (grpOf at') S (gt V j) (x j)) := fun i j hi hj pi pj => by
    obtain ⟨_, q1, q2⟩ := hval i hi pi
    obtain ⟨_, q3, q4⟩ := hval j hj pj
    exact cmp_core q1 q3 hC q2 q4
  have hbv := hU0 b hb hpos
  have seen := dlSeat_seen at' V house had (N := V.length) (fun i hi hl => ⟨(hval i hi ((hlive i hi).mp hl)).1, (hval i hi ((hlive i hi).mp hl)).2.1⟩) V.length (Nat.le_refl _)
  rcases seen with ⟨h0, _⟩ | ⟨b', t, hb', hlb, e, hm, hf, ht⟩
  · exact absurd ((hlive b hb).mpr hbv) (h0 b hb)
  · have hv' := (hlive b' hb').mp hlb
    have hbb : b' = b := by
      rcases Nat.lt_trichotomy b' b with h | h | h
      · have h1 := hfst b' h
        have h2 := hm b hb ((hlive b hb).mpr hbv)
        have := (hcmp b' b hb' hb hv' hbv).1.mpr h1
        omega
      · exact h
      · have h1 := hf b h ((hlive b hb).mpr hbv)
        have := (hcmp b b' hb hb' hbv hv').1.mp h1
        have := hmax b' hb'
        omega
    subst hbb
    rw [e]
    refine ⟨rfl, ht.trans ?_⟩
    constructor
    · rintro ⟨i, h1, h2, h3, h4⟩
      exact ⟨i, h1, h2, (hcmp i b' h2 hb' ((hlive i h2).mp h3) hv').2.mp h4⟩
    · rintro ⟨i, h1, h2, h3⟩
      have pi := hU0 i h2 (by omega)
      exact ⟨i, h1, h2, (hlive i h2).mpr pi, (hcmp i b' h2 hb' pi hv').2.mpr h3⟩
end Jg
end PartJgP2

noncomputable section PartJgP3
open PySem PySem.W PySem.Calls PyProof.Rows
namespace Jg

/-- falling weights -/
def Fall (l : List Int) : Prop := l.Pairwise fun a b => b ≤ a ∧ (0 < a → b < a)
def cnt (m : Int) (l : List Int) : Nat := (l.filter fun w => decide (m < w)).length
theorem filter_none {l : List Int} {p : Int → Bool} (h : ∀ x ∈ l, p x = false) : l.filter p = [] := List.filter_eq_nil_iff.mpr fun x hx => by rw [h x hx]; exact Bool.false_ne_true
theorem fall_count {m : Int} : ∀ {l : List Int} {k : Nat}, Fall l → k < l.length → (m < gt l k ↔ k < cnt m l)
  | [], k, _, h => by cases h
  | a :: l, k, hf, hk => by
    obtain ⟨h1, h2⟩ := List.pairwise_cons.mp hf
    by_cases c : m < a
    · have e : cnt m (a :: l) = cnt m l + 1 := by unfold cnt; rw [List.filter_cons, if_pos (by simpa using c)]; rfl
      rw [e]
      cases k with
      | zero => exact ⟨fun _ => by omega, fun _ => by simpa [gt] using c⟩
      | succ k =>
        have := fall_count (m := m) (l := l) (k := k) h2 (by simpa using hk)
        have e2 : gt (a :: l) (k + 1) = gt l k := by simp [gt]
        rw [e2]
        omega
    · have e : cnt m (a :: l) = 0 := by
        unfold cnt
        rw [filter_none fun x hx => ?_]
        · rfl
        · rcases List.mem_cons.mp hx with rfl | hx
          · simpa using c
          · have := (h1 x hx).1; simp; omega
      rw [e]
      have hm := gt_mem hk
      constructor
      · intro h
        rcases List.mem_cons.mp hm with q | q
        · rw [q] at h; exact absurd h c
        · have := (h1 _ q).1; omega
      · intro h; omega
theorem fall_eq {m : Int} (hm : 0 < m) : ∀ {l : List Int}, Fall l → (l.filter fun w => decide (m ≤ w)).length = cnt m l + (if l.any (· == m) = true then 1 else 0) ∧ (l.any (· == m) = true ↔ cnt m l < l.length ∧ gt l (cnt m l) = m)
  | [], _ => ⟨rfl, by simp [gt]⟩
  | a :: l, hf => by
    obtain ⟨h1, h2⟩ := List.pairwise_cons.mp hf
    by_cases c : m < a
    · have e : cnt m (a :: l) = cnt m l + 1 := by unfold cnt; rw [List.filter_cons, if_pos (by simpa using c)]; rfl
      obtain ⟨i1, i2⟩ := fall_eq hm h2
      have e3 : (a :: l).any (· == m) = l.any (· == m) := by
        rw [List.any_cons, show (a == m) = false by simp; omega, Bool.false_or]
      rw [e3, e]
      refine ⟨?_, ?_⟩
      · rw [List.filter_cons, if_pos (by simp; omega), List.length_cons, i1]; omega
      · rw [i2]
        have e2 : gt (a :: l) (cnt m l + 1) = gt l (cnt m l) := by simp [gt]
        rw [e2, List.length_cons]
        omega
    · have e : cnt m (a :: l) = 0 := by
        unfold cnt
        rw [filter_none fun x hx => ?_]
        · rfl
        · rcases List.mem_cons.mp hx with rfl | hx
          · simpa using c
          · have := (h1 x hx).1; simp; omega
      rw [e]
      by_cases c2 : a = m
      · subst c2
        have hl : ∀ x ∈ l, x < a := fun x hx => (h1 x hx).2 hm
        refine ⟨?_, ?_⟩
        · rw [List.filter_cons, if_pos (by simp), filter_none fun x hx => by have := hl x hx; simp; omega]; simp
        · simp [gt]
      · have hl : ∀ x ∈ l, x < m := fun x hx => by have := (h1 x hx).1; omega
        have ha : (a :: l).any (· == m) = false := by
          rw [List.any_eq_false]
          intro x hx
          rcases List.mem_cons.mp hx with rfl | hx
          · simpa using c2
          · have := hl x hx; simp; omega
        rw [ha]
        refine ⟨?_, ?_⟩
        · rw [List.filter_cons, if_neg (by simp; omega), filter_none fun x hx => by have := hl x hx; simp; omega]; simp
        · simp [gt, c2]

/-- the left-th greatest of a sorted list -/
theorem srt_counts {F : List Int} {left : Nat} (h0 : 0 < left) (h1 : left ≤ F.length) : cnt (gt (srt F) (F.length - left)) F < left ∧ left ≤ (F.filter fun w => decide (gt (srt F) (F.length - left) ≤ w)).length := by
  obtain ⟨hp, hs⟩ := srt_ok F
  have hl := hp.length_eq
  have hi : F.length - left < (srt F).length := by omega
  have hm := gt_mem hi
  generalize hmm : gt (srt F) (F.length - left) = m
  have hsplit := List.take_append_drop (F.length - left) (srt F)
  have hdrop : (srt F).drop (F.length - left) = m :: (srt F).drop (F.length - left + 1) := by
    rw [List.drop_eq_getElem_cons hi]
    congr 1
    rw [← hmm]; simp [gt, hi]
  have hpw : ∀ x ∈ (srt F).take (F.length - left), x ≤ m := fun x hx => by
    have hs' := hs
    rw [← hsplit] at hs'
    exact (List.pairwise_append.mp hs').2.2 x hx m (by rw [hdrop]; exact List.mem_cons_self)
  have hge : ∀ x ∈ (srt F).drop (F.length - left), m ≤ x := fun x hx => by
    have hs' := hs
    rw [← hsplit] at hs'
    have h3 := (List.pairwise_append.mp hs').2.1
    rw [hdrop] at h3 hx
    rcases List.mem_cons.mp hx with rfl | hx
    · exact Int.le_refl _
    · exact (List.pairwise_cons.mp h3).1 x hx
  have hfs : ((srt F).drop (F.length - left)).filter (fun w => decide (m ≤ w)) = (srt F).drop (F.length - left) := List.filter_eq_self.mpr fun x hx => by simpa using hge x hx
  constructor
  · unfold cnt
    rw [← (hp.filter _).length_eq, ← hsplit, List.filter_append, filter_none fun x hx => by have := hpw x hx; simp; omega, List.nil_append, hdrop, List.filter_cons, if_neg (by simp)]
    have := List.length_filter_le (fun w => decide (m < w)) ((srt F).drop (F.length - left + 1))
    rw [List.length_drop] at this
    omega
  · rw [← (hp.filter _).length_eq, ← hsplit, List.filter_append, List.length_append, hfs, List.length_drop]
    omega

/-- one more for each of a list -/
def bumps (l : List Nat) (h : List Int) : List Int := l.foldl bump h
theorem bumps_length : ∀ (l : List Nat) (h : List Int), (bumps l h).length = h.length
  | [], h => rfl
  | a :: l, h => by show (bumps l (bump h a)).length = _; rw [bumps_length, bump_length]
theorem gt_bump {h : List Int} {a i : Nat} (ha : a < h.length) : gt (bump h a) i = gt h i + (if i = a then 1 else 0) := by
  unfold bump gt
  rw [List.getElem?_set]
  by_cases e : a = i
  · subst e; simp [ha]
  · rw [if_neg e, if_neg (fun q => e q.symm), Int.add_zero]
theorem gt_bumps : ∀ {l : List Nat} {h : List Int} {i : Nat}, (∀ a ∈ l, a < h.length) → l.Nodup → gt (bumps l h) i = gt h i + (if i ∈ l then 1 else 0)
  | [], h, i, _, _ => by simp [bumps]
  | a :: l, h, i, hl, hn => by
    obtain ⟨h1, h2⟩ := List.nodup_cons.mp hn
    show gt (bumps l (bump h a)) i = _
    rw [gt_bumps (fun b hb => by rw [bump_length]; exact hl b (List.mem_cons_of_mem _ hb)) h2, gt_bump (hl a List.mem_cons_self)]
    by_cases e : i = a
    · subst e; rw [if_pos rfl, if_neg h1, if_pos List.mem_cons_self]; omega
    · rw [if_neg e]
      by_cases e2 : i ∈ l
      · rw [if_pos e2, if_pos (List.mem_cons_of_mem _ e2)]; omega
      · rw [if_neg e2, if_neg (by simp [e, e2])]; omega
theorem bumps_sum : ∀ {l : List Nat} {h : List Int}, (∀ a ∈ l, a < h.length) → (bumps l h).sum = h.sum + l.length
  | [], h, _ => by simp [bumps]
  | a :: l, h, hl => by
    show (bumps l (bump h a)).sum = _
    rw [bumps_sum fun b hb => by rw [bump_length]; exact hl b (List.mem_cons_of_mem _ hb), bump_sum (hl a List.mem_cons_self), List.length_cons]
    omega
theorem bumps_snoc (l : List Nat) (h : List Int) (a : Nat) : bumps (l ++ [a]) h = bump (bumps l h) a := by unfold bumps; rw [List.foldl_append]; rfl

/-- the last seats of divisor -/
theorem dvRun_eq {ws : List (List Int)} {m seats : Int} {b : List Int} {q : Nat} (hq : b.sum + q = seats) : ∀ j, j ≤ b.length →
    dvRun ws m seats b j = (bumps (((List.range j).filter fun i => (gw ws i).any (· == m)).take q) b, decide (q < ((List.range j).filter fun i => (gw ws i).any (· == m)).length))
  | 0, _ => by simp [dvRun, bumps]
  | j + 1, hj => by
    rw [dvRun_succ, dvRun_eq hq j (by omega), List.range_succ, List.filter_append]
    have hmem : ∀ a ∈ ((List.range j).filter fun i => (gw ws i).any (· == m)).take q, a < b.length := fun a ha => by
      have := (List.mem_filter.mp (List.mem_of_mem_take ha)).1
      rw [List.mem_range] at this; omega
    have hs := bumps_sum hmem
    rw [List.length_take] at hs
    generalize he : (List.range j).filter (fun i => (gw ws i).any (· == m)) = es at hs hmem
    unfold dvStep
    dsimp only
    cases hc : (gw ws j).any (· == m) with
    | false =>
      have e0 : [j].filter (fun i => (gw ws i).any (· == m)) = [] := by simp [hc]
      rw [e0, List.append_nil, if_neg (by simp), if_neg (by simp)]
    | true =>
      have e0 : [j].filter (fun i => (gw ws i).any (· == m)) = [j] := by simp [hc]
      rw [e0]
      by_cases c : es.length < q
      · rw [if_neg (by omega), if_pos ⟨by omega, rfl⟩, List.take_of_length_le (by omega), List.take_of_length_le (by simp; omega), bumps_snoc]
        simp; omega
      · rw [if_pos ⟨by omega, rfl⟩, List.take_append_of_le_length (by omega)]
        simp; omega
end Jg
end PartJgP3

noncomputable section PartJgP4
open PySem PySem.W PySem.Calls PyProof.Rows
namespace Jg

theorem fall_of : ∀ {l : List Int}, (∀ k, k + 1 < l.length → gt l (k + 1) ≤ gt l k ∧ (0 < gt l k → gt l (k + 1) < gt l k)) → Fall l
  | [], _ => .nil
  | [a], _ => .cons (fun _ h => nomatch h) .nil
  | a :: b :: l, h => by
    have ih := fall_of (l := b :: l) fun k hk => by
      have := h (k + 1) (by simpa using hk)
      simpa [gt] using this
    have h0 := h 0 (by simp)
    have h0' : b ≤ a ∧ (0 < a → b < a) := by simpa [gt] using h0
    refine .cons (fun x hx => ?_) ih
    rcases List.mem_cons.mp hx with rfl | hx
    · exact h0'
    · obtain ⟨q1, q2⟩ := (List.pairwise_cons.mp ih).1 x hx
      exact ⟨by omega, fun q => by have := h0'.2 q; omega⟩
theorem flat_count (p : Int → Bool) : ∀ ws : List (List Int), (ws.flatten.filter p).length = (ws.map fun l => (l.filter p).length).sum
  | [] => rfl
  | l :: ws => by rw [List.flatten_cons, List.filter_append, List.length_append, flat_count p ws, List.map_cons, List.sum_cons]
theorem map_gw {α : Type} (ws : List (List Int)) (f : List Int → α) : (List.range ws.length).map (fun i => f (gw ws i)) = ws.map f := by
  apply List.ext_getElem
  · simp
  · intro i h1 h2
    simp [gw, show i < ws.length by simpa using h1]
theorem sum_add : ∀ (l : List Nat) (f g : Nat → Nat), (l.map fun i => f i + g i).sum = (l.map f).sum + (l.map g).sum
  | [], f, g => rfl
  | a :: l, f, g => by simp only [List.map_cons, List.sum_cons, sum_add l f g]; omega
theorem sum_ite (p : Nat → Bool) : ∀ l : List Nat, (l.map fun i => if p i = true then 1 else 0).sum = (l.filter p).length
  | [] => rfl
  | a :: l => by
    rw [List.map_cons, List.sum_cons, sum_ite p l, List.filter_cons]
    cases p a <;> simp <;> omega
theorem isum_add : ∀ (l : List Nat) (f : Nat → Int) (g : Nat → Nat), (l.map fun i => f i + (g i : Int)).sum = (l.map f).sum + ((l.map g).sum : Nat)
  | [], f, g => rfl
  | a :: l, f, g => by simp only [List.map_cons, List.sum_cons, isum_add l f g]; omega
theorem mem_nsum_le {f : Nat → Nat} : ∀ {l : List Nat} {i : Nat}, i ∈ l → f i ≤ (l.map f).sum
  | a :: l, i, h => by
    rw [List.map_cons, List.sum_cons]
    rcases List.mem_cons.mp h with rfl | h
    · omega
    · have := mem_nsum_le (f := f) h; omega

/-- what is known where a divisor method deals -/
structure Dv (at' S : Nat) (V : List Int) : Prop where
  h14 : at' < 14
  hS : S ≤ 9
  hV : ∀ v ∈ V, 0 ≤ v
  pos : 0 < V.sum
  left : (base (grpOf at') V).sum < S
section
variable {at' S : Nat} {V : List Int}
theorem base_get (i : Nat) (hi : i < V.length) : gt (base (grpOf at') V) i = bs at' (gt V i) := by
  unfold base bs
  split
  · rw [if_neg (by omega)]; simp [gt, hi]
  · rename_i h
    simp [gt, hi, show 3 < grpOf at' by omega]
theorem base_len : (base (grpOf at') V).length = V.length := by unfold base; split <;> simp
theorem base_nn : ∀ x ∈ base (grpOf at') V, 0 ≤ x := fun x hx => by
  unfold base at hx
  split at hx
  · rw [(List.mem_replicate.mp hx).2]; exact Int.le_refl _
  · obtain ⟨p, hp, rfl⟩ := List.mem_map.mp hx
    split <;> omega
theorem Dv.S0 (d : Dv at' S V) : 0 < S := by
  have := d.left
  have := sum_nonneg (base_nn (at' := at') (V := V))
  omega
theorem ws_len : (wts (grpOf at') V S).length = V.length := by simp [wts]
theorem Dv.wlen (d : Dv at' S V) {i : Nat} (hi : i < V.length) : (gw (wts (grpOf at') V S) i).length = S := by
  rw [wts_get hi]; simp [wt, divs_length d.S0]
theorem wuu {i k : Nat} (hi : i < V.length) : gt (gw (wts (grpOf at') V S) i) k = uu (grpOf at') S (gt V i) k := by rw [wts_get hi]; rfl
theorem Dv.fall (d : Dv at' S V) {i : Nat} (hi : i < V.length) : Fall (gw (wts (grpOf at') V S) i) := by
  obtain ⟨hg1, hg6⟩ := grpOf_bound at'
  refine fall_of fun k hk => ?_
  rw [d.wlen hi] at hk
  rw [wuu hi, wuu hi]
  have := d.hV _ (gt_mem hi)
  rcases Int.lt_or_eq_of_le this with q | q
  · have h1 := uu_dec hg1 hg6 d.hS hk q
    exact ⟨Int.le_of_lt h1, fun _ => h1⟩
  · rw [← q, uu_zero, uu_zero]
    exact ⟨Int.le_refl _, fun h => by omega⟩

/-- how many weights of party i are over m -/
def cw (at' S : Nat) (V : List Int) (i : Nat) : Nat := cnt (minw (grpOf at') V S) (gw (wts (grpOf at') V S) i)
def eqs (at' S : Nat) (V : List Int) (j : Nat) : List Nat := (List.range j).filter fun i => (gw (wts (grpOf at') V S) i).any (· == minw (grpOf at') V S)
def csum (at' S : Nat) (V : List Int) : Nat := ((List.range V.length).map (cw at' S V)).sum
theorem Dv.counts (d : Dv at' S V) : 0 < minw (grpOf at') V S ∧ (base (grpOf at') V).sum + csum at' S V < S ∧ (S : Int) ≤ (base (grpOf at') V).sum + csum at' S V + (eqs at' S V V.length).length := by
  obtain ⟨hg1, hg6⟩ := grpOf_bound at'
  have hS0 := d.S0
  have hl := d.left
  have hb := sum_nonneg (base_nn (at' := at') (V := V))
  have hflat : (wts (grpOf at') V S).flatten.length = V.length * S := by rw [wts_flat_length, divs_length hS0]
  obtain ⟨i0, hi0, hp0⟩ : ∃ i, i < V.length ∧ 0 < gt V i := by
    apply Classical.byContradiction
    intro h
    have : ∀ x ∈ V, x ≤ 0 := fun x hx => by
      obtain ⟨i, hi, rfl⟩ := List.getElem_of_mem hx
      have : ¬ 0 < gt V i := fun q => h ⟨i, hi, q⟩
      simpa [gt, hi] using this
    have : ∀ l : List Int, (∀ x ∈ l, x ≤ 0) → l.sum ≤ 0 := fun l => by
      induction l with
      | nil => intro _; exact Int.le_refl _
      | cons a l ih => intro q; rw [List.sum_cons]; have := ih fun x hx => q x (List.mem_cons_of_mem _ hx); have := q a List.mem_cons_self; omega
    have := this V ‹_›
    have := d.pos
    omega
  have hn0 : 0 < V.length := by omega
  have hle : S ≤ V.length * S := Nat.le_mul_of_pos_left _ hn0
  obtain ⟨lf, hlf⟩ : ∃ lf : Nat, (base (grpOf at') V).sum + lf = S := ⟨(S - (base (grpOf at') V).sum).toNat, by omega⟩
  have hm : minw (grpOf at') V S = gt (srt (wts (grpOf at') V S).flatten) ((wts (grpOf at') V S).flatten.length - lf) := by
    unfold minw
    congr 1
    rw [hflat]
    omega
  obtain ⟨c1, c2⟩ := srt_counts (F := (wts (grpOf at') V S).flatten) (left := lf) (by omega) (by rw [hflat]; omega)
  rw [← hm] at c1 c2
  have ecs : cnt (minw (grpOf at') V S) (wts (grpOf at') V S).flatten = csum at' S V := by
    unfold cnt csum
    rw [flat_count, ← map_gw, ws_len]; rfl
  rw [ecs] at c1
  have hmpos : 0 < minw (grpOf at') V S := by
    apply Classical.byContradiction
    intro h
    have : cw at' S V i0 = S := by
      unfold cw cnt
      rw [show (gw (wts (grpOf at') V S) i0).filter (fun w => decide (minw (grpOf at') V S < w)) = gw (wts (grpOf at') V S) i0 from List.filter_eq_self.mpr ?_, d.wlen hi0]
      intro x hx
      obtain ⟨k, hk, rfl⟩ := List.getElem_of_mem hx
      rw [d.wlen hi0] at hk
      have h1 := uu_pos (v := gt V i0) hg6 d.hS hk hp0
      rw [← wuu (at' := at') hi0] at h1
      have : gt (gw (wts (grpOf at') V S) i0) k = (gw (wts (grpOf at') V S) i0)[k] := by
        unfold gt; rw [List.getElem?_eq_getElem]; rfl
      rw [this] at h1
      simp; omega
    have := mem_nsum_le (f := cw at' S V) (List.mem_range.mpr hi0)
    unfold csum at c1
    omega
  refine ⟨hmpos, by omega, ?_⟩
  have e2 : ((wts (grpOf at') V S).flatten.filter fun w => decide (minw (grpOf at') V S ≤ w)).length = csum at' S V + (eqs at' S V V.length).length := by
    rw [flat_count, ← map_gw, ws_len]
    unfold csum eqs
    rw [← sum_ite, ← sum_add]
    congr 1
    refine List.map_congr_left fun i hi => ?_
    rw [List.mem_range] at hi
    exact (fall_eq hmpos (d.fall hi)).1
  rw [e2] at c2
  omega
end
end Jg
end PartJgP4

noncomputable section PartJgP5
open PySem PySem.W PySem.Calls PyProof.Rows
namespace Jg

section
variable {at' S : Nat} {V : List Int}
theorem above_len : (above (grpOf at') V S).length = V.length := by simp [above]
theorem above_get {i : Nat} (hi : i < V.length) : gt (above (grpOf at') V S) i = bs at' (gt V i) + (cw at' S V i : Int) := by
  rw [← base_get i hi]
  unfold above cw cnt
  simp [gt, hi]
theorem above_sum : (above (grpOf at') V S).sum = (base (grpOf at') V).sum + (csum at' S V : Int) := by
  unfold above csum cw cnt
  rw [isum_add]
  congr 1
  have := map_gt (base (grpOf at') V) (fun x => x)
  rw [base_len] at this
  rw [this, List.map_id']
theorem eqs_mem {i j : Nat} : i ∈ eqs at' S V j ↔ i < j ∧ (gw (wts (grpOf at') V S) i).any (· == minw (grpOf at') V S) = true := by
  unfold eqs; rw [List.mem_filter, List.mem_range]
theorem eqs_sorted (j : Nat) : (eqs at' S V j).Pairwise (· < ·) := (List.pairwise_lt_range).filter _
theorem sorted_split {l : List Nat} (h : l.Pairwise (· < ·)) {p : Nat} (hp : p < l.length) : (∀ i ∈ l, i ∉ l.take p → l[p] ≤ i) ∧ l[p] ∉ l.take p := by
  have hs := List.take_append_drop p l
  have hd : l.drop p = l[p] :: l.drop (p + 1) := List.drop_eq_getElem_cons hp
  have h' := h
  rw [← hs] at h'
  obtain ⟨_, q2, q3⟩ := List.pairwise_append.mp h'
  rw [hd] at q2
  refine ⟨fun i hi hn => ?_, fun hm => ?_⟩
  · rw [← hs] at hi
    rcases List.mem_append.mp hi with x | x
    · exact absurd x hn
    · rw [hd] at x
      rcases List.mem_cons.mp x with rfl | x
      · exact Nat.le_refl _
      · exact Nat.le_of_lt ((List.pairwise_cons.mp q2).1 i x)
  · have := q3 _ hm l[p] (by rw [hd]; exact List.mem_cons_self)
    omega

/-- the weight that is next for a party that has had its greater ones, or one more -/
theorem Dv.next (d : Dv at' S V) {i : Nat} (hi : i < V.length) (hc : cw at' S V i < S) :
    uu (grpOf at') S (gt V i) (cw at' S V i) ≤ minw (grpOf at') V S ∧ (uu (grpOf at') S (gt V i) (cw at' S V i) = minw (grpOf at') V S ↔ (gw (wts (grpOf at') V S) i).any (· == minw (grpOf at') V S) = true) ∧
    ((gw (wts (grpOf at') V S) i).any (· == minw (grpOf at') V S) = true → cw at' S V i + 1 < S → uu (grpOf at') S (gt V i) (cw at' S V i + 1) < minw (grpOf at') V S) := by
  obtain ⟨hm, _, _⟩ := d.counts
  obtain ⟨hg1, hg6⟩ := grpOf_bound at'
  have hf := d.fall hi
  have hl := d.wlen hi
  have h1 := fall_count (m := minw (grpOf at') V S) (k := cw at' S V i) hf (by rw [hl]; exact hc)
  have h2 := (fall_eq hm hf).2
  have e : cnt (minw (grpOf at') V S) (gw (wts (grpOf at') V S) i) = cw at' S V i := rfl
  rw [e] at h1 h2
  rw [wuu hi] at h1 h2
  rw [hl] at h2
  have hle : uu (grpOf at') S (gt V i) (cw at' S V i) ≤ minw (grpOf at') V S := by
    apply Classical.byContradiction
    intro q
    have := h1.mp (by omega)
    omega
  refine ⟨hle, ⟨fun q => h2.mpr ⟨hc, q⟩, fun q => (h2.mp q).2⟩, fun q hk => ?_⟩
  have e3 := (h2.mp q).2
  have := d.hV _ (gt_mem hi)
  rcases Int.lt_or_eq_of_le this with v | v
  · have := uu_dec hg1 hg6 d.hS hk v
    omega
  · rw [← v, uu_zero] at e3; omega

def left2 (at' S : Nat) (V : List Int) : Nat := (S - (above (grpOf at') V S).sum).toNat
theorem Dv.left2 (d : Dv at' S V) : (above (grpOf at') V S).sum + (left2 at' S V : Nat) = S ∧ 0 < left2 at' S V ∧ left2 at' S V ≤ (eqs at' S V V.length).length := by
  obtain ⟨_, h1, h2⟩ := d.counts
  have := above_sum (at' := at') (S := S) (V := V)
  unfold Jg.left2
  omega
theorem Dv.phase2 (d : Dv at' S V) : ∀ (q p : Nat) (house : Int) (td : Bool), p + q = Jg.left2 at' S V →
    DRun at' V q house (bumps ((eqs at' S V V.length).take p) (above (grpOf at') V S)) td (bumps ((eqs at' S V V.length).take (Jg.left2 at' S V)) (above (grpOf at') V S)) (if q = 0 then td else decide (Jg.left2 at' S V < (eqs at' S V V.length).length))
  | 0, p, house, td, h => by
    rw [if_pos rfl, ← h, Nat.add_zero]
    exact .done ..
  | q + 1, p, house, td, h => by
    obtain ⟨l1, l2, l3⟩ := d.left2
    obtain ⟨hm, _, _⟩ := d.counts
    have hbs := sum_nonneg (base_nn (at' := at') (V := V))
    have has := above_sum (at' := at') (S := S) (V := V)
    have hp : p < (eqs at' S V V.length).length := by omega
    obtain ⟨s1, s2⟩ := sorted_split (eqs_sorted (at' := at') (S := S) (V := V) V.length) hp
    have hnd : ((eqs at' S V V.length).take p).Nodup := ((eqs_sorted (at' := at') (S := S) (V := V) V.length).imp fun h => Nat.ne_of_lt h).sublist (List.take_sublist _ _)
    have htl : ∀ a ∈ (eqs at' S V V.length).take p, a < (above (grpOf at') V S).length := fun a ha => by
      rw [above_len]; exact (eqs_mem.mp (List.mem_of_mem_take ha)).1
    have hcs : ∀ i, i < V.length → cw at' S V i ≤ csum at' S V := fun i hi => mem_nsum_le (List.mem_range.mpr hi)
    have hxS : ∀ i, i < V.length → cw at' S V i + (if i ∈ (eqs at' S V V.length).take p then 1 else 0) < S := fun i hi => by
      have := hcs i hi
      by_cases c : i ∈ (eqs at' S V V.length).take p
      · rw [if_pos c]
        have : 0 < p := by
          rcases Nat.eq_zero_or_pos p with rfl | h
          · simp at c
          · exact h
        omega
      · rw [if_neg c]; omega
    have hb := List.getElem_mem hp
    generalize hbe : (eqs at' S V V.length)[p] = b at hb s1 s2
    obtain ⟨hbn, hba⟩ := eqs_mem.mp hb
    -- the weights that are next
    have hU : ∀ i, i < V.length → uu (grpOf at') S (gt V i) (cw at' S V i + (if i ∈ (eqs at' S V V.length).take p then 1 else 0)) ≤ minw (grpOf at') V S ∧
        (uu (grpOf at') S (gt V i) (cw at' S V i + (if i ∈ (eqs at' S V V.length).take p then 1 else 0)) = minw (grpOf at') V S ↔ i ∈ eqs at' S V V.length ∧ i ∉ (eqs at' S V V.length).take p) := fun i hi => by
      have hx := hxS i hi
      obtain ⟨n1, n2, n3⟩ := d.next hi (by omega)
      by_cases c : i ∈ (eqs at' S V V.length).take p
      · rw [if_pos c] at hx ⊢
        have := n3 (eqs_mem.mp (List.mem_of_mem_take c)).2 hx
        exact ⟨Int.le_of_lt this, fun q => by omega, fun q => absurd c q.2⟩
      · rw [if_neg c, Nat.add_zero]
        exact ⟨n1, n2.trans ⟨fun q => ⟨eqs_mem.mpr ⟨hi, q⟩, c⟩, fun q => (eqs_mem.mp q.1).2⟩⟩
    have hUb := (hU b hbn).2.mpr ⟨hb, s2⟩
    obtain ⟨r1, r2⟩ := dl_pick (house := house) (had := bumps ((eqs at' S V V.length).take p) (above (grpOf at') V S)) (x := fun i => cw at' S V i + (if i ∈ (eqs at' S V V.length).take p then 1 else 0)) d.h14 d.hS d.hV (fun i hi => by
        rw [gt_bumps htl hnd, above_get hi]
        by_cases c : i ∈ (eqs at' S V V.length).take p
        · rw [if_pos c, if_pos c]; omega
        · rw [if_neg c, if_neg c]; omega) hxS hbn (fun i hi => by rw [hUb]; exact (hU i hi).1) (fun i hi => by
        rw [hUb]
        have hi' : i < V.length := by omega
        have := (hU i hi').1
        rcases Int.lt_or_eq_of_le this with x | x
        · exact x
        · have := (hU i hi').2.mp x
          have := s1 i this.1 this.2
          omega) (by rw [hUb]; exact hm)
    have ht : (dlSeat at' V house (bumps ((eqs at' S V V.length).take p) (above (grpOf at') V S)) V.length).2.2.2 = decide (p + 1 < (eqs at' S V V.length).length) := by
      rw [Bool.eq_iff_iff, r2, decide_eq_true_iff]
      constructor
      · rintro ⟨i, h1, h2, h3⟩
        rw [hUb] at h3
        have := (hU i h2).2.mp h3
        apply Classical.byContradiction
        intro hn
        have hle : (eqs at' S V V.length).length = p + 1 := by omega
        have : i ∈ (eqs at' S V V.length).take (p + 1) := by rw [List.take_of_length_le (by omega)]; exact this.1
        rw [List.take_add_one, List.getElem?_eq_getElem hp, hbe] at this
        simp at this
        rcases this with q | q
        · simp_all
        · omega
      · intro h1
        have hm1 := List.getElem_mem h1
        obtain ⟨t1, t2⟩ := sorted_split (eqs_sorted (at' := at') (S := S) (V := V) V.length) h1
        have hlt : b < (eqs at' S V V.length)[p + 1] := by
          have := List.pairwise_iff_getElem.mp (eqs_sorted (at' := at') (S := S) (V := V) V.length) p (p + 1) hp h1 (Nat.lt_succ_self p)
          rw [hbe] at this; exact this
        refine ⟨_, hlt, (eqs_mem.mp hm1).1, ?_⟩
        rw [hUb]
        exact (hU _ (eqs_mem.mp hm1).1).2.mpr ⟨hm1, fun q => t2 (by rw [List.take_add_one]; exact List.mem_append_left _ q)⟩
    have ih := d.phase2 q (p + 1) (house + 1) (dlSeat at' V house (bumps ((eqs at' S V V.length).take p) (above (grpOf at') V S)) V.length).2.2.2 (by omega)
    rw [show (eqs at' S V V.length).take (p + 1) = (eqs at' S V V.length).take p ++ [b] by rw [List.take_add_one, List.getElem?_eq_getElem hp, hbe]; rfl, bumps_snoc] at ih
    have e : (if q = 0 then (dlSeat at' V house (bumps ((eqs at' S V V.length).take p) (above (grpOf at') V S)) V.length).2.2.2 else decide (Jg.left2 at' S V < (eqs at' S V V.length).length)) = decide (Jg.left2 at' S V < (eqs at' S V V.length).length) := by
      split
      · rw [ht, show p + 1 = Jg.left2 at' S V by omega]
      · rfl
    rw [e] at ih
    rw [if_neg (Nat.succ_ne_zero q)]
    exact .step r1 hbn ih
end
end Jg
end PartJgP5

noncomputable section PartJgP6
open PySem PySem.W PySem.Calls PyProof.Rows
namespace Jg

theorem sum_le_of : ∀ {l k : List Int}, l.length = k.length → (∀ i, i < l.length → gt l i ≤ gt k i) → l.sum ≤ k.sum ∧ (l.sum = k.sum → l = k)
  | [], [], _, _ => ⟨Int.le_refl _, fun _ => rfl⟩
  | a :: l, b :: k, h, hp => by
    have h0 : a ≤ b := by simpa [gt] using hp 0 (by simp)
    obtain ⟨i1, i2⟩ := sum_le_of (l := l) (k := k) (by simpa using h) fun i hi => by simpa [gt] using hp (i + 1) (by simpa using hi)
    rw [List.sum_cons, List.sum_cons]
    refine ⟨by omega, fun e => ?_⟩
    have e1 : a = b := by omega
    rw [e1, i2 (by omega)]
theorem first_max (f : Nat → Int) : ∀ n, 0 < n → ∃ b, b < n ∧ (∀ i, i < n → f i ≤ f b) ∧ ∀ i, i < b → f i < f b
  | 1, _ => ⟨0, by omega, fun i hi => by rw [show i = 0 by omega]; exact Int.le_refl _, fun i hi => by omega⟩
  | n + 2, _ => by
    obtain ⟨b, h1, h2, h3⟩ := first_max f (n + 1) (by omega)
    by_cases c : f b < f (n + 1)
    · refine ⟨n + 1, by omega, fun i hi => ?_, fun i hi => by have := h2 i hi; omega⟩
      rcases Nat.lt_succ_iff_lt_or_eq.mp hi with q | rfl
      · have := h2 i q; omega
      · exact Int.le_refl _
    · refine ⟨b, by omega, fun i hi => ?_, h3⟩
      rcases Nat.lt_succ_iff_lt_or_eq.mp hi with q | rfl
      · exact h2 i q
      · omega
section
variable {at' S : Nat} {V : List Int}
theorem Dv.phase1 (d : Dv at' S V) {q : Nat} {r : List Int} {rt : Bool} (hyp : ∀ (house : Int) (td : Bool), DRun at' V q house (above (grpOf at') V S) td r rt) : ∀ (p : Nat) (had : List Int) (house : Int) (td : Bool), had.length = V.length →
    (∀ i, i < V.length → bs at' (gt V i) ≤ gt had i ∧ gt had i ≤ bs at' (gt V i) + (cw at' S V i : Int)) → had.sum + p = (above (grpOf at') V S).sum → DRun at' V (p + q) house had td r rt
  | 0, had, house, td, hl, hp, hs => by
    have := (sum_le_of (l := had) (k := above (grpOf at') V S) (by rw [hl, above_len]) fun i hi => by rw [above_get (by omega)]; exact (hp i (by omega)).2).2 (by omega)
    rw [this, Nat.zero_add]
    exact hyp house td
  | p + 1, had, house, td, hl, hp, hs => by
    obtain ⟨hm, c1, _⟩ := d.counts
    have hbs := sum_nonneg (base_nn (at' := at') (V := V))
    have hcs : ∀ i, i < V.length → cw at' S V i ≤ csum at' S V := fun i hi => mem_nsum_le (List.mem_range.mpr hi)
    have hxw : ∀ i, i < V.length → (gt had i - bs at' (gt V i)).toNat ≤ cw at' S V i ∧ gt had i = bs at' (gt V i) + ((gt had i - bs at' (gt V i)).toNat : Int) := fun i hi => by
      have := hp i hi; omega
    have hxS : ∀ i, i < V.length → (gt had i - bs at' (gt V i)).toNat < S := fun i hi => by
      have := (hxw i hi).1; have := hcs i hi; omega
    have hcnt : ∀ i, i < V.length → (minw (grpOf at') V S < uu (grpOf at') S (gt V i) (gt had i - bs at' (gt V i)).toNat ↔ (gt had i - bs at' (gt V i)).toNat < cw at' S V i) := fun i hi => by
      rw [← wuu hi]
      exact fall_count (d.fall hi) (by rw [d.wlen hi]; exact hxS i hi)
    obtain ⟨i0, hi0, hlt⟩ : ∃ i, i < V.length ∧ (gt had i - bs at' (gt V i)).toNat < cw at' S V i := by
      apply Classical.byContradiction
      intro h
      have : had = above (grpOf at') V S := by
        apply List.ext_getElem (by rw [hl, above_len])
        intro i h1 h2
        have hi : i < V.length := by omega
        have hn : ¬ (gt had i - bs at' (gt V i)).toNat < cw at' S V i := fun q => h ⟨i, hi, q⟩
        have e1 := above_get (at' := at') (S := S) hi
        have e2 := hxw i hi
        have e3 : gt had i = gt (above (grpOf at') V S) i := by omega
        simpa [gt, h1, h2] using e3
      rw [this] at hs
      omega
    have hn0 : 0 < V.length := by omega
    obtain ⟨b, hb, hmax, hfst⟩ := first_max (fun i => uu (grpOf at') S (gt V i) (gt had i - bs at' (gt V i)).toNat) V.length hn0
    have h0 := (hcnt i0 hi0).mpr hlt
    have hmb := hmax i0 hi0
    have hxb := (hcnt b hb).mp (by omega)
    obtain ⟨r1, _⟩ := dl_pick (house := house) (had := had) (x := fun i => (gt had i - bs at' (gt V i)).toNat) d.h14 d.hS d.hV (fun i hi => (hxw i hi).2) hxS hb hmax hfst (by omega)
    have hbh : b < had.length := by omega
    have ih := d.phase1 hyp p (bump had b) (house + 1) (dlSeat at' V house had V.length).2.2.2 (by rw [bump_length, hl]) (fun i hi => by
      rw [gt_bump hbh]
      have := hp i hi
      by_cases c : i = b
      · subst c; rw [if_pos rfl]; have := (hxw i hi).2; omega
      · rw [if_neg c]; omega) (by rw [bump_sum hbh]; omega)
    rw [show p + 1 + q = p + q + 1 by omega]
    exact .step r1 hb ih

theorem start_eq (h14 : at' < 14) : start at' V = base (grpOf at') V := by
  unfold start base
  by_cases c : at' ≤ 6
  · rw [if_pos (by unfold grpOf; (repeat' split) <;> omega)]
    apply List.ext_getElem
    · simp
    · intro i h1 h2
      simp; omega
  · rw [if_neg (by unfold grpOf; (repeat' split) <;> omega)]
    refine List.map_congr_left fun p _ => ?_
    have : 6 < at' ∧ at' < 14 := by omega
    simp [this]
/-- divisor deals as the law does -/
theorem dv_main (h14 : at' < 14) (hS : S ≤ 9) (hV : ∀ v ∈ V, 0 ≤ v) (hpos : 0 < V.sum) (hle : (start at' V).sum ≤ S) :
    DRun at' V (S - (start at' V).sum.toNat) ((start at' V).sum + 1) (start at' V) false (dvAll (grpOf at') V S).1 (dvAll (grpOf at') V S).2 := by
  rw [start_eq h14] at hle ⊢
  have hbs := sum_nonneg (base_nn (at' := at') (V := V))
  by_cases c : (base (grpOf at') V).sum < (S : Int)
  · have d : Dv at' S V := ⟨h14, hS, hV, hpos, c⟩
    obtain ⟨l1, l2, l3⟩ := d.left2
    have ha : (above (grpOf at') V S).sum < (S : Int) := by omega
    have e : dvAll (grpOf at') V S = (bumps ((eqs at' S V V.length).take (left2 at' S V)) (above (grpOf at') V S), decide (left2 at' S V < (eqs at' S V V.length).length)) := by
      unfold dvAll
      rw [if_pos c, if_pos ha]
      exact dvRun_eq l1 V.length (by rw [above_len]; exact Nat.le_refl _)
    rw [e]
    have has := above_sum (at' := at') (S := S) (V := V)
    have h2 := d.phase1 (q := left2 at' S V) (r := bumps ((eqs at' S V V.length).take (left2 at' S V)) (above (grpOf at') V S)) (rt := decide (left2 at' S V < (eqs at' S V V.length).length)) (fun house td => by
      have := d.phase2 (left2 at' S V) 0 house td (by omega)
      rw [if_neg (by omega)] at this
      exact this) (csum at' S V) (base (grpOf at') V) ((base (grpOf at') V).sum + 1) false base_len (fun i hi => by rw [base_get i hi]; omega) (by omega)
    rw [show S - (base (grpOf at') V).sum.toNat = csum at' S V + left2 at' S V by omega]
    exact h2
  · have e : dvAll (grpOf at') V S = (base (grpOf at') V, false) := by unfold dvAll; rw [if_neg c]
    rw [e, show S - (base (grpOf at') V).sum.toNat = 0 by omega]
    exact .done ..
end
end Jg
end PartJgP6

noncomputable section PartJgP7
open PySem PySem.W PySem.Calls PyProof.Rows
namespace Jg

theorem dvd_qCommon {reps : List Int} {i : Nat} (h : i < reps.length) : gt reps i + 1 ∣ qCommon reps := by
  have key : ∀ (l : List Int) (a x : Int), (x + 1 ∣ a ∨ x ∈ l) → x + 1 ∣ l.foldl (fun c r => c * (r + 1)) a := by
    intro l
    induction l with
    | nil => intro a x h; rcases h with h | h; exact h; cases h
    | cons y l ih =>
      intro a x h
      refine ih _ _ ?_
      rcases h with h | h
      · exact .inl (Int.dvd_trans h (Int.dvd_mul_right _ _))
      · rcases List.mem_cons.mp h with rfl | h
        · exact .inl (Int.dvd_mul_left _ _)
        · exact .inr h
  exact key reps 1 _ (.inr (gt_mem h))
theorem qCommon_pos {reps : List Int} (h : ∀ x ∈ reps, 0 ≤ x) : 0 < qCommon reps := by
  have : ∀ (l : List Int) (a : Int), (∀ x ∈ l, 0 ≤ x) → 0 < a → 0 < l.foldl (fun c r => c * (r + 1)) a := fun l => by
    induction l with
    | nil => intro a _ h; exact h
    | cons y l ih => intro a hl h; exact ih _ (fun x hx => hl x (List.mem_cons_of_mem _ hx)) (Int.mul_pos h (by have := hl y List.mem_cons_self; omega))
  exact this reps 1 h (by omega)
section
variable {V had : List Int} {house : Int}
theorem qUp_le {i : Nat} (hi : i < V.length) (hpos : 0 < V.sum) : gt (qUp V had) i ≤ gt had i ↔ gt V i * (had.sum + 1) ≤ gt had i * V.sum := by
  have e : gt (qUp V had) i = -((-gt V i * (had.sum + 1)).fdiv V.sum) := by simp [qUp, gt, hi]
  rw [e, Int.fdiv_eq_ediv_of_nonneg _ (by omega)]
  have := Int.le_ediv_iff_mul_le (a := -gt had i) (b := -gt V i * (had.sum + 1)) hpos
  rw [Int.neg_mul, Int.neg_mul] at this
  rw [Int.neg_mul]
  omega
theorem quota_step (hl : had.length = V.length) (h0 : ∀ x ∈ had, 0 ≤ x) (hV : ∀ v ∈ V, 0 ≤ v) (hpos : 0 < V.sum) (hh : house = had.sum + 1) :
    ∃ b, FirstMax (qElig V had) b ∧ b < V.length ∧ (dlSeat 14 V house had V.length).2.2.1 = some b := by
  have hs0 := sum_nonneg h0
  have hC := qCommon_pos h0
  have hlen : (qElig V had).length = V.length := by simp [qElig]
  have hg0 : ∀ i, 0 ≤ gt had i := fun i => by
    by_cases h : i < had.length
    · exact h0 _ (gt_mem h)
    · have : gt had i = 0 := by simp [gt, List.getElem?_eq_none (Nat.le_of_not_lt h)]
      omega
  have hv0 : ∀ i, 0 ≤ gt V i := fun i => by
    by_cases h : i < V.length
    · exact hV _ (gt_mem h)
    · have : gt V i = 0 := by simp [gt, List.getElem?_eq_none (Nat.le_of_not_lt h)]
      omega
  have hlive : ∀ i, live 14 V house had i ↔ ¬ (gt V i * house ≤ gt had i * V.sum) := fun i => by
    unfold live
    have h1 := Int.mul_nonneg (hg0 i) (Int.le_of_lt hpos)
    constructor
    · intro h q; exact h (.inr ⟨rfl, q⟩)
    · rintro h (q | ⟨_, q⟩)
      · rw [q, Int.zero_mul] at h; exact h h1
      · exact h q
  have hA : ∀ i, cA 14 V had i = gt V i := fun i => by simp [cA, claim]
  have hB : ∀ i, cB 14 V had i = gt had i + 1 := fun i => by simp [cB, claim]
  have hvp : ∀ i, live 14 V house had i → 0 < gt V i := fun i h => by
    have h1 := (hlive i).mp h
    have h2 := hv0 i
    rcases Int.lt_or_eq_of_le h2 with q | q
    · exact q
    · rw [← q, Int.zero_mul] at h1
      exact absurd (Int.mul_nonneg (hg0 i) (Int.le_of_lt hpos)) h1
  have hq : ∀ i, i < V.length → gt (qQuot V had) i * (gt had i + 1) = gt V i * qCommon had := fun i hi => by
    have e : gt (qQuot V had) i = (gt V i * qCommon had).fdiv (gt had i + 1) := by simp [qQuot, gt, hi]
    rw [e, Int.fdiv_eq_ediv_of_nonneg _ (by have := hg0 i; omega)]
    exact Int.ediv_mul_cancel (Int.dvd_trans (dvd_qCommon (by omega)) (Int.dvd_mul_left _ _))
  have hel : ∀ i, i < V.length → gt (qElig V had) i = if gt (qUp V had) i ≤ gt had i then 0 else gt (qQuot V had) i := fun i hi => by
    show (qElig V had)[i]?.getD 0 = _
    unfold qElig
    rw [List.getElem?_map, List.getElem?_range hi]; rfl
  have hel1 : ∀ i, i < V.length → live 14 V house had i → gt (qElig V had) i = gt (qQuot V had) i ∧ 0 < gt (qQuot V had) i := fun i hi h => by
    have h1 := (hlive i).mp h
    rw [hh] at h1
    rw [hel i hi, if_neg (fun q => h1 ((qUp_le hi hpos).mp q))]
    refine ⟨rfl, ?_⟩
    have : 0 < gt (qQuot V had) i * (gt had i + 1) := by rw [hq i hi]; exact Int.mul_pos (hvp i h) hC
    exact Int.pos_of_mul_pos_left this (by have := hg0 i; omega)
  have hel0 : ∀ i, i < V.length → ¬ live 14 V house had i → gt (qElig V had) i = 0 := fun i hi h => by
    have h1 : gt V i * house ≤ gt had i * V.sum := Classical.byContradiction fun q => h ((hlive i).mpr q)
    rw [hh] at h1
    rw [hel i hi, if_pos ((qUp_le hi hpos).mpr h1)]
  have seen := dlSeat_seen 14 V house had (N := V.length) (fun i hi h => by
    rw [hA, hB]; exact ⟨hvp i h, by have := hg0 i; omega⟩) V.length (Nat.le_refl _)
  rcases seen with ⟨hn, _⟩ | ⟨b, t, hb, hlb, e, hmax, hfst, _⟩
  · exfalso
    have hle : ∀ i, i < (V.map (· * house)).length → gt (V.map (· * house)) i ≤ gt (had.map (· * V.sum)) i := fun i hi => by
      rw [List.length_map] at hi
      have h1 : gt V i * house ≤ gt had i * V.sum := Classical.byContradiction fun q => hn i hi ((hlive i).mpr q)
      have e1 : gt (V.map (· * house)) i = gt V i * house := by simp [gt, hi]
      have e2 : gt (had.map (· * V.sum)) i = gt had i * V.sum := by simp [gt, show i < had.length by omega]
      rw [e1, e2]; exact h1
    have h2 := (sum_le_of (by simp [hl]) hle).1
    have hs : ∀ (l : List Int) (c : Int), (l.map (· * c)).sum = l.sum * c := fun l c => by
      induction l with
      | nil => simp
      | cons a l ih => rw [List.map_cons, List.sum_cons, List.sum_cons, ih, Int.add_mul]
    rw [hs, hs, hh, Int.mul_add, Int.mul_one, Int.mul_comm had.sum] at h2
    omega
  · refine ⟨b, ⟨by rw [hlen]; exact hb, fun i hi => ?_, fun i hi => ?_⟩, hb, by rw [e]⟩
    · rw [hlen] at hi
      obtain ⟨q1, q2⟩ := hel1 b hb hlb
      by_cases c : live 14 V house had i
      · obtain ⟨q3, q4⟩ := hel1 i hi c
        have := hmax i hi c
        have hc := cmp_core (by have := hg0 b; omega) (by have := hg0 i; omega) hC (hq b hb) (hq i hi)
        rw [hA, hA, hB, hB] at this
        rw [q1, q3]
        apply Classical.byContradiction
        intro h
        have := hc.1.mpr (by omega)
        omega
      · rw [hel0 i hi c, q1]; omega
    · have hi' : i < V.length := by omega
      obtain ⟨q1, q2⟩ := hel1 b hb hlb
      by_cases c : live 14 V house had i
      · obtain ⟨q3, q4⟩ := hel1 i hi' c
        have := hfst i hi c
        rw [hA, hA, hB, hB] at this
        rw [q1, q3]
        exact (cmp_core (by have := hg0 i; omega) (by have := hg0 b; omega) hC (hq i hi') (hq b hb)).1.mp this
      · rw [hel0 i hi' c, q1]; omega
theorem quota_main (hV : ∀ v ∈ V, 0 ≤ v) (hpos : 0 < V.sum) : ∀ (m : Nat) (had : List Int) (house : Int) (td : Bool), had.length = V.length → (∀ x ∈ had, 0 ≤ x) → house = had.sum + 1 → ∃ r td', QRun V m had r ∧ DRun 14 V m house had td r td'
  | 0, had, house, td, _, _, _ => ⟨had, td, .done _, .done ..⟩
  | m + 1, had, house, td, hl, h0, hh => by
    obtain ⟨b, f, hb, e⟩ := quota_step hl h0 hV hpos hh
    obtain ⟨r, td', q, dr⟩ := quota_main hV hpos m (bump had b) (house + 1) (dlSeat 14 V house had V.length).2.2.2 (by rw [bump_length, hl]) (bump_nonneg h0) (by rw [bump_sum (by omega)]; omega)
    exact ⟨r, td', .step f q, .step e hb dr⟩
end
end Jg
end PartJgP7

noncomputable section PartJgP8
open PySem PySem.W PySem.Calls PyProof.Rows
namespace Jg

section
variable {V : List Int} {S : Int}
theorem rem_get {i : Nat} (hi : i < V.length) : gt (lrRem V S) i = gt V i * S - gt (lrFl V S) i * V.sum := by simp [lrRem, lrFl, gt, hi]
theorem rest_rem (hpos : 0 < V.sum) (i : Nat) : gt (lwRest V S) i = gt (lrRem V S) i := by
  have : lwRest V S = lrRem V S := by
    unfold lwRest lrRem
    refine List.map_congr_left fun p _ => ?_
    have := Int.fmod_add_mul_fdiv (p * S) V.sum
    rw [Int.mul_comm V.sum] at this
    omega
  rw [this]
theorem rem_bound (hpos : 0 < V.sum) {i : Nat} (hi : i < V.length) : 0 ≤ gt (lrRem V S) i ∧ gt (lrRem V S) i < V.sum := by
  rw [← rest_rem hpos]
  have e : gt (lwRest V S) i = (gt V i * S).fmod V.sum := by simp [lwRest, gt, hi]
  rw [e]
  exact ⟨Int.fmod_nonneg_of_pos _ hpos, Int.fmod_lt_of_pos _ hpos⟩
theorem rem_len : (lrRem V S).length = V.length := by simp [lrRem]
theorem fl_len : (lrFl V S).length = V.length := by simp [lrFl]
theorem rem_sum (hpos : 0 < V.sum) : (lrRem V S).sum = lwLeft V S * V.sum := by
  have : ∀ l : List Int, (l.map fun p => p * S - (p * S).fdiv V.sum * V.sum).sum = l.sum * S - (l.map fun p => (p * S).fdiv V.sum).sum * V.sum := fun l => by
    induction l with
    | nil => simp
    | cons a l ih => simp only [List.map_cons, List.sum_cons, ih, Int.add_mul]; omega
  unfold lrRem lwLeft lrFl
  rw [this, Int.sub_mul, Int.mul_comm V.sum]
theorem sum_pos_le {T : Int} (hT : 0 < T) : ∀ l : List Int, (∀ x ∈ l, x < T) → l.sum ≤ (cnt 0 l : Int) * T
  | [], _ => by simp [cnt]
  | a :: l, h => by
    have ih := sum_pos_le hT l fun x hx => h x (List.mem_cons_of_mem _ hx)
    have ha := h a List.mem_cons_self
    rw [List.sum_cons]
    by_cases c : 0 < a
    · have e : cnt 0 (a :: l) = cnt 0 l + 1 := by unfold cnt; rw [List.filter_cons, if_pos (by simpa using c)]; rfl
      rw [e]
      have : ((cnt 0 l + 1 : Nat) : Int) * T = (cnt 0 l : Int) * T + T := by rw [Int.natCast_add, Int.add_mul]; simp
      omega
    · have e : cnt 0 (a :: l) = cnt 0 l := by unfold cnt; rw [List.filter_cons, if_neg (by simpa using c)]
      rw [e]; omega
theorem left_bound (hpos : 0 < V.sum) : 0 ≤ lwLeft V S ∧ lwLeft V S ≤ (cnt 0 (lrRem V S) : Int) ∧ (cnt 0 (lrRem V S) : Int) ≤ V.length := by
  have h1 := rem_sum (V := V) (S := S) hpos
  have h2 := sum_nonneg (l := lrRem V S) fun x hx => by
    obtain ⟨i, hi, rfl⟩ := List.getElem_of_mem hx
    rw [rem_len] at hi
    have := (rem_bound (S := S) hpos hi).1
    simpa [gt, hi, rem_len] using this
  have h3 := sum_pos_le hpos (lrRem V S) fun x hx => by
    obtain ⟨i, hi, rfl⟩ := List.getElem_of_mem hx
    rw [rem_len] at hi
    have := (rem_bound (S := S) hpos hi).2
    simpa [gt, hi, rem_len] using this
  rw [h1] at h2 h3
  have h4 := List.length_filter_le (fun w => decide (0 < w)) (lrRem V S)
  rw [rem_len] at h4
  refine ⟨?_, Int.le_of_mul_le_mul_right h3 hpos, ?_⟩
  · apply Classical.byContradiction
    intro q
    have := Int.mul_neg_of_neg_of_pos (show lwLeft V S < 0 by omega) hpos
    omega
  · unfold cnt; omega

/-- those with as great a remainder as the last one served -/
def les (V : List Int) (S : Int) (j : Nat) : List Nat := (List.range j).filter fun i => decide (lrCut V S ≤ gt (lrRem V S) i)
theorem lrRun_eq {q : Nat} (hq : (lrFl V S).sum + q = S) : ∀ j, j ≤ V.length → lrRun (lrRem V S) (lrCut V S) S (lrFl V S) j = (bumps ((les V S j).take q) (lrFl V S), decide (q < (les V S j).length))
  | 0, _ => by simp [lrRun, bumps, les]
  | j + 1, hj => by
    rw [lrRun_succ, lrRun_eq hq j (by omega)]
    unfold les
    rw [List.range_succ, List.filter_append]
    have hmem : ∀ a ∈ ((List.range j).filter fun i => decide (lrCut V S ≤ gt (lrRem V S) i)).take q, a < (lrFl V S).length := fun a ha => by
      have := (List.mem_filter.mp (List.mem_of_mem_take ha)).1
      rw [List.mem_range] at this; rw [fl_len]; omega
    have hs := bumps_sum hmem
    rw [List.length_take] at hs
    generalize he : (List.range j).filter (fun i => decide (lrCut V S ≤ gt (lrRem V S) i)) = es at hs hmem
    unfold lrStep
    dsimp only
    by_cases hc : lrCut V S ≤ gt (lrRem V S) j
    · have e0 : [j].filter (fun i => decide (lrCut V S ≤ gt (lrRem V S) i)) = [j] := by simp [hc]
      rw [e0]
      by_cases c : es.length < q
      · rw [if_neg (by omega)]
        have e1 : (if (bumps (es.take q) (lrFl V S)).sum < S ∧ lrCut V S < gt (lrRem V S) j then (bump (bumps (es.take q) (lrFl V S)) j, decide (q < es.length)) else if (bumps (es.take q) (lrFl V S)).sum < S ∧ gt (lrRem V S) j = lrCut V S then (bump (bumps (es.take q) (lrFl V S)) j, decide (q < es.length)) else (bumps (es.take q) (lrFl V S), decide (q < es.length))) = (bump (bumps (es.take q) (lrFl V S)) j, decide (q < es.length)) := by
          by_cases c2 : lrCut V S < gt (lrRem V S) j
          · rw [if_pos ⟨by omega, c2⟩]
          · rw [if_neg (fun h => c2 h.2), if_pos ⟨by omega, by omega⟩]
        rw [e1, List.take_of_length_le (by omega), List.take_of_length_le (by simp; omega), bumps_snoc]
        simp; omega
      · rw [if_pos ⟨by omega, hc⟩, List.take_append_of_le_length (by omega)]
        simp; omega
    · have e0 : [j].filter (fun i => decide (lrCut V S ≤ gt (lrRem V S) i)) = [] := by simp [hc]
      rw [e0, List.append_nil, if_neg (fun h => hc h.2), if_neg (fun h => hc (Int.le_of_lt h.2)), if_neg (fun h => hc (Int.le_of_eq h.2.symm))]
end
end Jg
end PartJgP8

noncomputable section PartJgP9
open PySem PySem.W PySem.Calls PyProof.Rows
namespace Jg

section
variable {V : List Int} {S : Int}
theorem ord_len : (lwOrd V S).length = V.length := by rw [lwOrd, (srtP_ok _).1.length_eq]; simp [lwPairs]
theorem ord_mem (hpos : 0 < V.sum) {p : Int × Int} : p ∈ lwOrd V S ↔ ∃ k : Nat, k < V.length ∧ p = (-gt (lrRem V S) k, (k : Int)) := by
  rw [lwOrd, (srtP_ok _).1.mem_iff]
  unfold lwPairs
  rw [List.mem_map]
  constructor
  · rintro ⟨k, hk, rfl⟩; exact ⟨k, List.mem_range.mp hk, by rw [rest_rem hpos]⟩
  · rintro ⟨k, hk, rfl⟩; exact ⟨k, List.mem_range.mpr hk, by rw [rest_rem hpos]⟩
theorem ord_mono {a b : Nat} (h : a ≤ b) (hb : b < V.length) : ((lwOrd V S).getD a (0, 0)).1 ≤ ((lwOrd V S).getD b (0, 0)).1 := by
  rcases Nat.lt_or_eq_of_le h with h | rfl
  · have hb' : b < (lwOrd V S).length := by rw [ord_len]; exact hb
    have := List.pairwise_iff_getElem.mp (srtP_ok (lwPairs V S)).2 a b (by unfold lwOrd at hb'; omega) hb' h
    unfold pLe pLt at this
    simp at this
    have e1 : (lwOrd V S).getD a (0, 0) = (srtP (lwPairs V S))[a]'(by unfold lwOrd at hb'; omega) := by unfold lwOrd at hb' ⊢; simp [show a < (srtP (lwPairs V S)).length by omega]
    have e2 : (lwOrd V S).getD b (0, 0) = (srtP (lwPairs V S))[b]'hb' := by unfold lwOrd at hb' ⊢; simp [hb']
    rw [e1, e2]
    omega
  · exact Int.le_refl _
theorem cut_ord (hpos : 0 < V.sum) {L : Nat} (h0 : 0 < L) (h1 : L ≤ V.length) (hL : lwLeft V S = L) : lrCut V S = -((lwOrd V S).getD (L - 1) (0, 0)).1 := by
  have hs : SortOf (lrRem V S) ((lwOrd V S).map fun p => -p.1).reverse := by
    refine ⟨(List.reverse_perm _).trans ?_, ?_⟩
    · have := (srtP_ok (lwPairs V S)).1.map fun p : Int × Int => -p.1
      refine this.trans (List.Perm.of_eq ?_)
      unfold lwPairs
      rw [List.map_map]
      apply List.ext_getElem
      · simp [lrRem]
      · intro i q1 q2
        have hi : i < V.length := by simpa [lrRem] using q2
        have := rest_rem (S := S) hpos i
        simp [gt, hi, rem_len] at this ⊢
        simp [this]
    · rw [List.pairwise_reverse, List.pairwise_map]
      exact (srtP_ok (lwPairs V S)).2.imp fun {a b} h => by unfold pLe pLt at h; simp at h; omega
  have e := SortOf.uniq (srt_ok (lrRem V S)) hs
  unfold lrCut
  rw [e]
  have hidx : ((lrFl V S).sum - S + V.length).toNat = V.length - L := by unfold lwLeft at hL; omega
  rw [hidx]
  have hol := ord_len (V := V) (S := S)
  unfold gt
  rw [List.getElem?_reverse (by rw [List.length_map]; omega), List.length_map, List.getElem?_map, hol, show V.length - 1 - (V.length - L) = L - 1 by omega]
  have : L - 1 < (lwOrd V S).length := by omega
  simp [this]
theorem les_count (hpos : 0 < V.sum) : (les V S V.length).length = ((lwOrd V S).filter fun p => decide (p.1 ≤ -lrCut V S)).length := by
  have h1 := ((srtP_ok (lwPairs V S)).1.filter fun p => decide (p.1 ≤ -lrCut V S)).length_eq
  unfold lwOrd
  rw [h1]
  unfold lwPairs les
  rw [List.filter_map, List.length_map]
  congr 1
  refine List.filter_congr fun i _ => ?_
  have := rest_rem (S := S) hpos i
  show decide _ = decide (-gt (lwRest V S) i ≤ -lrCut V S)
  rw [decide_eq_decide, this]
  omega
theorem tied_iff (hpos : 0 < V.sum) {L : Nat} (h0 : 0 < L) (h1 : L ≤ V.length) (hL : lwLeft V S = L) : L ≤ (les V S V.length).length ∧ lwTied V S = decide (L < (les V S V.length).length) ∧
    (lwTied V S = false → L < V.length → ((lwOrd V S).getD (L - 1) (0, 0)).1 < ((lwOrd V S).getD L (0, 0)).1) := by
  have hol := ord_len (V := V) (S := S)
  have hc := cut_ord hpos h0 h1 hL
  have hcc : -lrCut V S = ((lwOrd V S).getD (L - 1) (0, 0)).1 := by omega
  rw [les_count hpos, hcc]
  have hget : ∀ k (hk : k < (lwOrd V S).length), (lwOrd V S)[k] = (lwOrd V S).getD k (0, 0) := fun k hk => by simp [hk]
  have hsp := List.take_append_drop L (lwOrd V S)
  have ht : ((lwOrd V S).take L).filter (fun p => decide (p.1 ≤ ((lwOrd V S).getD (L - 1) (0, 0)).1)) = (lwOrd V S).take L := List.filter_eq_self.mpr fun p hp => by
    obtain ⟨k, hk, rfl⟩ := List.getElem_of_mem hp
    rw [List.length_take] at hk
    rw [List.getElem_take, hget]
    simpa using ord_mono (V := V) (S := S) (show k ≤ L - 1 by omega) (by omega)
  have hlen : ((lwOrd V S).filter fun p => decide (p.1 ≤ ((lwOrd V S).getD (L - 1) (0, 0)).1)).length = L + (((lwOrd V S).drop L).filter fun p => decide (p.1 ≤ ((lwOrd V S).getD (L - 1) (0, 0)).1)).length := by
    conv => lhs; rw [← hsp]
    rw [List.filter_append, List.length_append]
    have e0 := ht
    rw [hsp]
    rw [e0, List.length_take, hol, Nat.min_eq_left h1]
  rw [hlen]
  have hT : lwTied V S = (decide (L < V.length) && (((lwOrd V S).getD (L - 1) (0, 0)).1 == ((lwOrd V S).getD L (0, 0)).1)) := by
    unfold lwTied
    rw [hL, show ((L : Int) - 1).toNat = L - 1 by omega, Int.toNat_natCast]
    congr 1
    rw [decide_eq_decide]; omega
  refine ⟨by omega, ?_, ?_⟩
  · rw [hT]
    by_cases c : L < V.length
    · have hd : (lwOrd V S).drop L = (lwOrd V S)[L]'(by omega) :: (lwOrd V S).drop (L + 1) := List.drop_eq_getElem_cons (by omega)
      have hm := ord_mono (V := V) (S := S) (show L - 1 ≤ L by omega) c
      by_cases c2 : ((lwOrd V S).getD (L - 1) (0, 0)).1 = ((lwOrd V S).getD L (0, 0)).1
      · rw [hd, List.filter_cons, hget, if_pos (by simp only [decide_eq_true_eq]; omega), List.length_cons]
        rw [decide_eq_true c, Bool.true_and, show (((lwOrd V S).getD (L - 1) (0, 0)).1 == ((lwOrd V S).getD L (0, 0)).1) = true from beq_iff_eq.mpr c2]
        symm; apply decide_eq_true; omega
      · have hn : ((lwOrd V S).drop L).filter (fun p => decide (p.1 ≤ ((lwOrd V S).getD (L - 1) (0, 0)).1)) = [] := List.filter_eq_nil_iff.mpr fun p hp => by
          obtain ⟨k, hk, rfl⟩ := List.getElem_of_mem hp
          rw [List.length_drop] at hk
          rw [List.getElem_drop, hget]
          have := ord_mono (V := V) (S := S) (show L ≤ L + k by omega) (by omega)
          simp only [decide_eq_true_eq]; omega
        rw [hn, show (((lwOrd V S).getD (L - 1) (0, 0)).1 == ((lwOrd V S).getD L (0, 0)).1) = false from beq_eq_false_iff_ne.mpr c2, Bool.and_false]
        symm; apply decide_eq_false; simp
    · have : (lwOrd V S).drop L = [] := List.drop_eq_nil_of_le (by omega)
      rw [this, decide_eq_false c, Bool.false_and]
      symm; apply decide_eq_false; simp
  · intro h c
    rw [hT, decide_eq_true c, Bool.true_and] at h
    have h2 := beq_eq_false_iff_ne.mp h
    have hm := ord_mono (V := V) (S := S) (show L - 1 ≤ L by omega) c
    omega

theorem had_bumps : lwHad V S = bumps (((lwOrd V S).take (lwLeft V S).toNat).map fun p => p.2.toNat) (lrFl V S) := by
  unfold lwHad bumps
  rw [List.foldl_map]
theorem untied_eq (hpos : 0 < V.sum) {L : Nat} (h0 : 0 < L) (h1 : L ≤ V.length) (hL : lwLeft V S = L) (ht : lwTied V S = false) : lwHad V S = bumps (les V S V.length) (lrFl V S) := by
  have hol := ord_len (V := V) (S := S)
  obtain ⟨t1, t2, t3⟩ := tied_iff hpos h0 h1 hL
  have hc := cut_ord hpos h0 h1 hL
  have hget : ∀ k (hk : k < (lwOrd V S).length), (lwOrd V S)[k] = (lwOrd V S).getD k (0, 0) := fun k hk => by simp [hk]
  rw [had_bumps, hL, Int.toNat_natCast]
  have hnd : ((lwOrd V S).map fun p => p.2.toNat).Nodup := by
    have := (srtP_ok (lwPairs V S)).1.map fun p : Int × Int => p.2.toNat
    refine this.symm.nodup ?_
    have e : (lwPairs V S).map (fun p => p.2.toNat) = List.range V.length := by
      unfold lwPairs
      rw [List.map_map]
      apply List.ext_getElem
      · simp
      · intro i a b; simp
    rw [e]; exact List.nodup_range
  have hnd1 : (((lwOrd V S).take L).map fun p => p.2.toNat).Nodup := hnd.sublist ((List.take_sublist _ _).map _)
  have hnd2 : (les V S V.length).Nodup := (List.nodup_range).filter _
  have hb1 : ∀ a ∈ ((lwOrd V S).take L).map (fun p => p.2.toNat), a < (lrFl V S).length := fun a ha => by
    obtain ⟨p, hp, rfl⟩ := List.mem_map.mp ha
    obtain ⟨k, hk, rfl⟩ := (ord_mem hpos).mp (List.mem_of_mem_take hp)
    rw [fl_len]; simpa using hk
  have hb2 : ∀ a ∈ les V S V.length, a < (lrFl V S).length := fun a ha => by
    have := (List.mem_filter.mp ha).1
    rw [List.mem_range] at this; rw [fl_len]; exact this
  have hmem : ∀ i, i ∈ ((lwOrd V S).take L).map (fun p => p.2.toNat) ↔ i ∈ les V S V.length := fun i => by
    constructor
    · intro h
      obtain ⟨p, hp, rfl⟩ := List.mem_map.mp h
      obtain ⟨j, hj, e⟩ := List.getElem_of_mem hp
      rw [List.length_take] at hj
      rw [List.getElem_take, hget] at e
      have hm := ord_mono (V := V) (S := S) (show j ≤ L - 1 by omega) (by omega)
      rw [e] at hm
      obtain ⟨k, hk, rfl⟩ := (ord_mem hpos).mp (List.mem_of_mem_take hp)
      unfold les
      rw [List.mem_filter, List.mem_range]
      refine ⟨by simpa using hk, ?_⟩
      simp only [Int.toNat_natCast, decide_eq_true_eq]
      dsimp only at hm
      omega
    · intro h
      unfold les at h
      rw [List.mem_filter, List.mem_range] at h
      obtain ⟨hi, hr⟩ := h
      have hr := of_decide_eq_true hr
      have hp := (ord_mem (S := S) hpos).mpr ⟨i, hi, rfl⟩
      obtain ⟨j, hj, e⟩ := List.getElem_of_mem hp
      have hjL : j < L := by
        apply Classical.byContradiction
        intro q
        have h3 := t3 ht (by omega)
        have hm := ord_mono (V := V) (S := S) (show L ≤ j by omega) (by omega)
        rw [hget] at e
        rw [e] at hm
        dsimp only at hm
        omega
      refine List.mem_map.mpr ⟨_, ?_, show ((-gt (lrRem V S) i, (i : Int)) : Int × Int).2.toNat = i by simp⟩
      rw [← e]
      exact List.mem_iff_getElem.mpr ⟨j, by rw [List.length_take]; omega, List.getElem_take⟩
  apply List.ext_getElem (by rw [bumps_length, bumps_length])
  intro i a b
  have q1 := gt_bumps (i := i) hb1 hnd1
  have q2 := gt_bumps (i := i) hb2 hnd2
  have q3 : gt (bumps (((lwOrd V S).take L).map fun p => p.2.toNat) (lrFl V S)) i = gt (bumps (les V S V.length) (lrFl V S)) i := by
    rw [q1, q2]
    by_cases c : i ∈ les V S V.length
    · rw [if_pos c, if_pos ((hmem i).mpr c)]
    · rw [if_neg c, if_neg fun h => c ((hmem i).mp h)]
  unfold gt at q3
  rw [List.getElem?_eq_getElem a, List.getElem?_eq_getElem b] at q3
  exact q3
/-- a tied answer: each its share rounded down or up -/
theorem cut_pos (hpos : 0 < V.sum) {L : Nat} (h0 : 0 < L) (h1 : L ≤ V.length) (hL : lwLeft V S = L) : 0 < lrCut V S := by
  obtain ⟨b1, b2, b3⟩ := left_bound (S := S) hpos
  have hc := srt_counts (F := lrRem V S) (left := L) h0 (by rw [rem_len]; exact h1)
  have hidx : ((lrFl V S).sum - S + V.length).toNat = (lrRem V S).length - L := by rw [rem_len]; unfold lwLeft at hL; omega
  have e : lrCut V S = gt (srt (lrRem V S)) ((lrRem V S).length - L) := by unfold lrCut; rw [hidx]
  rw [← e] at hc
  apply Classical.byContradiction
  intro q
  have : cnt 0 (lrRem V S) ≤ cnt (lrCut V S) (lrRem V S) := by
    unfold cnt
    have : ∀ l : List Int, (l.filter fun w => decide (0 < w)).length ≤ (l.filter fun w => decide (lrCut V S < w)).length := fun l => by
      induction l with
      | nil => exact Nat.le_refl _
      | cons a l ih =>
        rw [List.filter_cons, List.filter_cons]
        by_cases c : 0 < a
        · rw [if_pos (by simpa using c), if_pos (by simp; omega)]; simpa using ih
        · rw [if_neg (by simpa using c)]
          split
          · simp; omega
          · exact ih
    exact this _
  omega
theorem tied_ok (hpos : 0 < V.sum) {L : Nat} (h0 : 0 < L) (h1 : L ≤ V.length) (hL : lwLeft V S = L) : (bumps ((les V S V.length).take L) (lrFl V S)).sum = S ∧
    ∀ i, i < V.length → ((gt (bumps ((les V S V.length).take L) (lrFl V S)) i * V.sum - gt V i * S).natAbs : Int) < V.sum ∧ (gt (bumps ((les V S V.length).take L) (lrFl V S)) i = gt (lrFl V S) i ∨ gt (bumps ((les V S V.length).take L) (lrFl V S)) i = gt (lrFl V S) i + 1) := by
  obtain ⟨t1, _, _⟩ := tied_iff hpos h0 h1 hL
  have hcp := cut_pos hpos h0 h1 hL
  have hb : ∀ a ∈ (les V S V.length).take L, a < (lrFl V S).length := fun a ha => by
    have := (List.mem_filter.mp (List.mem_of_mem_take ha)).1
    rw [List.mem_range] at this; rw [fl_len]; exact this
  have hnd : ((les V S V.length).take L).Nodup := ((List.nodup_range).filter _).sublist (List.take_sublist _ _)
  refine ⟨by rw [bumps_sum hb, List.length_take, Nat.min_eq_left t1]; unfold lwLeft at hL; omega, fun i hi => ?_⟩
  have hr := rem_bound (S := S) hpos hi
  have hg := rem_get (S := S) hi
  rw [gt_bumps hb hnd]
  by_cases c : i ∈ (les V S V.length).take L
  · rw [if_pos c]
    have := of_decide_eq_true (List.mem_filter.mp (List.mem_of_mem_take c)).2
    refine ⟨?_, .inr rfl⟩
    rw [Int.add_mul, Int.one_mul]
    omega
  · rw [if_neg c, Int.add_zero]
    exact ⟨by omega, .inl rfl⟩
end
end Jg
end PartJgP9

noncomputable section PartJgX
open PySem PySem.W PySem.Calls PyProof.Rows
namespace Jg
/-- what the law hands to its parts -/
def lwAt (ns : List Int) : Nat := ((ns.headD 0).fmod 18).toNat
def lwV0 (ns : List Int) : List Int := if ((ns.drop 2).take 5) = [] then [1] else ((ns.drop 2).take 5).map fun i => (i.natAbs : Int)
def lwVotes (ns : List Int) : List Int := if (lwV0 ns).sum = 0 then (lwV0 ns).set 0 1 else lwV0 ns
def lwS0 (ns : List Int) : Nat := if 1 < ns.length then ((gt ns 1).fmod 8).toNat else 0
def lwS1 (ns : List Int) : Nat := if 6 < lwAt ns ∧ lwAt ns < 14 then (lwVotes ns).length + lwS0 ns % 5 else lwS0 ns
def lwSeats (ns : List Int) : Nat := if 14 < lwAt ns then max 1 (lwS1 ns) else lwS1 ns
/-- what the law takes for an answer -/
def Okd (at' : Nat) (votes : List Int) (seats : Nat) (due : List Int) (tied : Bool) (ta : Bool) (d : D) : Prop :=
  if tied = true ∧ ta = false then d = .str "tie" else ∃ told : List Int, d = il told ∧ told.length = votes.length ∧
    (if tied = true ∧ 14 < at' then told.sum = seats ∧ ∀ i, i < votes.length → ((gt told i * votes.sum - gt votes i * seats).natAbs : Int) < votes.sum ∧ (gt told i).natAbs ≤ 1000 else told = due)

def Parts (W : Wd) (ns : List Int) : Prop := ∃ due tied, Can W 1 86 ["at", "votes", "seats"] [.int (lwAt ns : Nat), il (lwVotes ns), .int (lwSeats ns : Nat)] (· = .tup [il due, .bool tied]) False ∧
      ∀ (way : Int) (ta : Bool), (lwAt ns = 14 → ta = true) → Can W 2 93 ["at", "way", "votes", "seats", "ties"] [.int (lwAt ns : Nat), .int way, il (lwVotes ns), .int (lwSeats ns : Nat), .bool ta] (Okd (lwAt ns) (lwVotes ns) (lwSeats ns) due tied ta) False

theorem lwAt_eq (ns : List Int) : (ns.headD 0).fmod 18 = (lwAt ns : Int) := by
  unfold lwAt
  rw [Int.toNat_of_nonneg]
  exact Int.fmod_nonneg_of_pos _ (by decide)
theorem lwAt_lt (ns : List Int) : lwAt ns < 18 := by
  have := Int.fmod_lt_of_pos (ns.headD 0) (show (0 : Int) < 18 by decide)
  rw [lwAt_eq] at this
  omega
theorem lwV0_len (ns : List Int) : 0 < (lwV0 ns).length ∧ (lwV0 ns).length ≤ 5 := by
  unfold lwV0
  split
  · simp
  · rename_i h
    have : 0 < ((ns.drop 2).take 5).length := List.length_pos_iff.mpr h
    have h2 := List.length_take_le 5 (ns.drop 2)
    simp only [List.length_map]
    omega
theorem lwVotes_len (ns : List Int) : 0 < (lwVotes ns).length ∧ (lwVotes ns).length ≤ 5 := by
  have := lwV0_len ns
  unfold lwVotes
  split
  · simpa using this
  · exact this
theorem lwSeats_le (ns : List Int) : lwSeats ns ≤ 9 := by
  have h1 : lwS0 ns ≤ 7 := by
    unfold lwS0
    split
    · have := Int.fmod_lt_of_pos (gt ns 1) (show (0 : Int) < 8 by decide)
      omega
    · omega
  have := lwVotes_len ns
  have h2 : lwS0 ns % 5 < 5 := Nat.mod_lt _ (by decide)
  unfold lwSeats lwS1
  split
  · rename_i h
    rw [if_neg (by omega)]
    omega
  · split <;> omega

theorem Can.mono {W : Wd} {m : Nat} {f : Addr} {ps : List Str} {ds : List D} {P P' : D → Prop} {T T' : Prop} (h : Can W m f ps ds P T) (hp : ∀ d, P d → P' d) (ht : T → T') : Can W m f ps ds P' T' := by
  obtain ⟨fd, body, hF, hD⟩ := h
  refine ⟨fd, body, hF, fun n hn c ok lv hL => ex_mono (hD n hn c ok lv hL) (fun fl ow' σ' q => ?_) ht⟩
  obtain ⟨k, d, e, p⟩ := q
  exact ⟨k, d, e, hp d p⟩
theorem lwV0_nn (ns : List Int) : ∀ v ∈ lwV0 ns, 0 ≤ v := fun v hv => by
  unfold lwV0 at hv
  split at hv
  · simp at hv; omega
  · obtain ⟨i, _, rfl⟩ := List.mem_map.mp hv
    omega
theorem lwVotes_ok (ns : List Int) : (∀ v ∈ lwVotes ns, 0 ≤ v) ∧ 0 < (lwVotes ns).sum := by
  have h0 := lwV0_nn ns
  have hl := lwV0_len ns
  unfold lwVotes
  split
  · rename_i hs
    have hz : gt (lwV0 ns) 0 = 0 := by
      have h1 := gt_mem (l := lwV0 ns) (i := 0) hl.1
      have := mem_sum_le h0 _ h1
      have := h0 _ h1
      omega
    have e : (lwV0 ns).set 0 1 = bump (lwV0 ns) 0 := by unfold bump; rw [hz]; rfl
    rw [e]
    refine ⟨bump_nonneg h0, ?_⟩
    rw [bump_sum hl.1]; omega
  · exact ⟨h0, by have := sum_nonneg h0; omega⟩
theorem lwVotes_bits (ns : List Int) (hlay : (PyData.list (ns.map .int)).layable0 = true) : ∀ v ∈ lwVotes ns, Builtin.Int.intBits v ≤ 2 ^ 20 := fun v hv => by
  have h0 : ∀ v ∈ lwV0 ns, Builtin.Int.intBits v ≤ 2 ^ 20 := fun v hv => by
    unfold lwV0 at hv
    split at hv
    · simp at hv; subst hv; decide
    · obtain ⟨i, hi, rfl⟩ := List.mem_map.mp hv
      have hm := List.mem_of_mem_drop (List.mem_of_mem_take hi)
      exact PySem.intBits_natAbs_le (PySem.intBits_le_of_item hm hlay)
  unfold lwVotes at hv
  split at hv
  · rcases List.mem_or_eq_of_mem_set hv with h | rfl
    · exact h0 v h
    · decide
  · exact h0 v hv
theorem dvAll_len {at' S : Nat} {V : List Int} : (dvAll (grpOf at') V S).1.length = V.length := by
  unfold dvAll
  split
  · split
    · rw [dvRun_length, above_len]
    · exact above_len
  · exact base_len
theorem lrAll_len {S : Int} {V : List Int} : (lrAll V S).1.length = V.length := by
  unfold lrAll
  split
  · rw [lrRun_length, fl_len]
  · exact fl_len

theorem parts_core {prog : Program} {w : World} {mean : ExcName → Option Value} {mg mb : Str → Option Value} {at' S : Nat} {V : List Int} {m : Str} (hat : at' < 18) (hl0 : 0 < V.length) (hl5 : V.length ≤ 5) (hS9 : S ≤ 9) (hV : ∀ v ∈ V, 0 ≤ v) (hpos : 0 < V.sum) (hbits : ∀ v ∈ V, Builtin.Int.intBits v ≤ 2 ^ 20)
    (hS6 : 6 < at' → at' < 14 → V.length ≤ S) (hS7 : ¬ (6 < at' ∧ at' < 14) → S ≤ 7) (hS1 : 14 < at' → 0 < S) (hm : names[at']? = some m) :
    ∃ due tied, Can (wd prog w mean mg mb) 1 86 ["at", "votes", "seats"] [.int (at' : Nat), il V, .int (S : Nat)] (· = .tup [il due, .bool tied]) False ∧
      ∀ (way : Int) (ta : Bool), (at' = 14 → ta = true) → Can (wd prog w mean mg mb) 2 93 ["at", "way", "votes", "seats", "ties"] [.int (at' : Nat), .int way, il V, .int (S : Nat), .bool ta] (Okd at' V S due tied ta) False := by
  have hvv : ∀ v ∈ V, IntMulOk v v := fun v hv => PySem.IntMulOk.of_le (hbits v hv) (hbits v hv) (by decide)
  by_cases c14 : at' = 14
  · subst c14
    have hst : start 14 V = List.replicate V.length 0 := by
      unfold start
      apply List.ext_getElem
      · simp
      · intro i h1 h2; simp
    obtain ⟨r, td, q, dr⟩ := quota_main hV hpos S (List.replicate V.length 0) 1 false (by simp) (fun x hx => by rw [(List.mem_replicate.mp hx).2]; exact Int.le_refl _) (by rw [sum_zeros]; rfl)
    refine ⟨r, false, can_dealt 14 hat V S hl0 hl5 (by omega) hV hpos hvv r false (fun h => absurd h (by decide)) (fun _ => ⟨by rw [hst, sum_zeros]; omega, td, ?_, by simp⟩), fun way ta hta => ?_⟩
    · rw [hst, sum_zeros]
      simpa using dr
    · have := hta rfl
      subst this
      obtain ⟨fd, body, hF, hD⟩ := fn_quota (prog := prog) (w := w) (mean := mean) (mg := mg) (mb := mb) (cls := .ref 24)
      have hc : Can (wd prog w mean mg mb) 0 67 ["votes", "seats", "tiesallowed"] [il V, .int (S : Nat), .bool true] (· = il r) False := ⟨fd, body, hF, fun n _ => hD n V r S hl5 (hS7 (by omega)) hpos hV q⟩
      refine (can_run 14 hat m hm way V S true hl5 (fun _ => hc) (fun h => absurd h (by decide)) (fun h => absurd h (by decide))).mono (fun d h => ?_) id
      rcases h with rfl | ⟨h, _⟩
      · have hrl : r.length = V.length := by
          have : ∀ {k h r}, QRun V k h r → r.length = h.length := fun {k h r} q => by
            induction q with
            | done => rfl
            | step _ _ ih => rw [ih, bump_length]
          rw [this q]; simp
        unfold Okd
        rw [if_neg (by simp)]
        exact ⟨r, rfl, hrl, by rw [if_neg (by simp)]⟩
      · exact h.elim
  by_cases c15 : 14 < at'
  · obtain ⟨b1, b2, b3⟩ := left_bound (S := (S : Int)) hpos
    have hS0 := hS1 c15
    have hS7' := hS7 (by omega)
    refine ⟨lwHad V S, lwTied V S, can_dealt at' hat V S hl0 hl5 (by omega) hV hpos hvv _ _ (fun _ => ⟨rfl, rfl, b1, by omega⟩) (fun h => absurd h (by omega)), fun way ta hta => ?_⟩
    obtain ⟨fd, body, hF, hD⟩ := fn_lr (prog := prog) (w := w) (mean := mean) (mg := mg) (mb := mb)
    have hc : Can (wd prog w mean mg mb) 0 48 ["votes", "seats", "tiesallowed"] [il V, .int (S : Nat), .bool ta] (fun d => ((lrAll V S).2 && !ta) = false ∧ d = il (lrAll V S).1) (((lrAll V S).2 && !ta) = true) :=
      ⟨fd, body, hF, fun n _ => hD n V S ta hl5 hS0 hS7' hpos hV (by unfold lwLeft at b1; omega) (by unfold lwLeft at b2; omega)⟩
    refine (can_run at' hat m hm way V S ta hl5 (fun h => absurd h c14) (fun _ => hc) (fun h => absurd h (by omega))).mono (fun d h => ?_) id
    -- what largest_remainder gives
    have key : (lwTied V S = true → (lrAll V S).2 = true ∧ (lrAll V S).1.sum = S ∧ ∀ i, i < V.length → ((gt (lrAll V S).1 i * V.sum - gt V i * S).natAbs : Int) < V.sum ∧ (gt (lrAll V S).1 i).natAbs ≤ 1000) ∧ (lwTied V S = false → lrAll V S = (lwHad V S, false)) := by
      by_cases l0 : lwLeft V S = 0
      · have e1 : lrAll V S = (lrFl V S, false) := by unfold lrAll; rw [if_neg (by unfold lwLeft at l0; omega)]
        have e2 : lwHad V S = lrFl V S := by unfold lwHad; rw [l0]; rfl
        have e3 : lwTied V S = false := by unfold lwTied; rw [l0]; simp
        exact ⟨(fun h => by rw [e3] at h; cases h), (fun _ => by rw [e1, e2])⟩
      · obtain ⟨L, hL⟩ : ∃ L : Nat, lwLeft V S = L := ⟨(lwLeft V S).toNat, by omega⟩
        have hL0 : 0 < L := by omega
        have hLn : L ≤ V.length := by omega
        obtain ⟨t1, t2, _⟩ := tied_iff hpos hL0 hLn hL
        have e1 : lrAll V S = (bumps ((les V S V.length).take L) (lrFl V S), decide (L < (les V S V.length).length)) := by
          unfold lrAll
          rw [if_pos (by unfold lwLeft at hL; omega)]
          exact lrRun_eq (by unfold lwLeft at hL; omega) V.length (Nat.le_refl _)
        refine ⟨fun h => ?_, fun h => ?_⟩
        · obtain ⟨o1, o2⟩ := tied_ok hpos hL0 hLn hL
          rw [e1]
          refine ⟨by rw [← t2]; exact h, o1, fun i hi => ⟨(o2 i hi).1, ?_⟩⟩
          have hf : ∀ x ∈ lrFl V S, 0 ≤ x := fun x hx => by
            obtain ⟨p, hp, rfl⟩ := List.mem_map.mp hx
            exact Int.fdiv_nonneg (Int.mul_nonneg (hV p hp) (by omega)) (by omega)
          have := gt_bound hf (m := 100) (by omega) (by unfold lwLeft at b1; omega) i
          rcases (o2 i hi).2 with q | q <;> (dsimp only; omega)
        · have hle : (les V S V.length).length = L := by
            rw [t2] at h
            have := of_decide_eq_false h
            omega
          rw [e1, untied_eq hpos hL0 hLn hL h, List.take_of_length_le (by omega), hle]
          simp
    unfold Okd
    by_cases ct : lwTied V S = true ∧ ta = false
    · rw [if_pos ct]
      rcases h with ⟨h1, _⟩ | ⟨_, h2⟩
      · rw [(key.1 ct.1).1, ct.2] at h1; cases h1
      · exact h2
    · rw [if_neg ct]
      by_cases ct2 : lwTied V S = true
      · obtain ⟨k1, k2, k3⟩ := key.1 ct2
        have hta' : ta = true := by
          cases ta with
          | true => rfl
          | false => exact absurd ⟨ct2, rfl⟩ ct
        rcases h with ⟨_, rfl⟩ | ⟨h1, _⟩
        · exact ⟨_, rfl, lrAll_len, by rw [if_pos ⟨ct2, c15⟩]; exact ⟨k2, k3⟩⟩
        · rw [hta'] at h1; simp at h1
      · have k := key.2 (by simpa using ct2)
        rw [k] at h
        rcases h with ⟨_, rfl⟩ | ⟨h1, _⟩
        · refine ⟨_, rfl, ?_, by rw [if_neg fun q => ct2 q.1]⟩
          have := lrAll_len (S := (S : Int)) (V := V)
          rw [k] at this; exact this
        · cases h1
  · have h14 : at' < 14 := by omega
    have hle : (start at' V).sum ≤ S := by
      by_cases c6 : 6 < at'
      · have h1 := hS6 c6 h14
        have : ∀ l : List Int, (l.map fun p => if (6 < at' ∧ at' < 14) ∧ 0 < p then (1 : Int) else 0).sum ≤ l.length := fun l => by
          induction l with
          | nil => simp
          | cons a l ih => rw [List.map_cons, List.sum_cons, List.length_cons]; split <;> omega
        have := this V
        unfold start
        omega
      · have hz : start at' V = List.replicate V.length 0 := by
          unfold start
          apply List.ext_getElem
          · simp
          · intro i h1 h2; simp; omega
        rw [hz, sum_zeros]; omega
    have dr := dv_main h14 hS9 hV hpos hle
    refine ⟨(dvAll (grpOf at') V S).1, (dvAll (grpOf at') V S).2, can_dealt at' hat V S hl0 hl5 (by omega) hV hpos hvv _ _ (fun h => absurd h c15) (fun _ => ⟨hle, _, dr, by rw [decide_eq_false c14]; simp⟩), fun way ta hta => ?_⟩
    obtain ⟨hg1, hg6⟩ := grpOf_bound at'
    obtain ⟨fd, body, hF, hD⟩ := fn_divisor (prog := prog) (w := w) (mean := mean) (mg := mg) (mb := mb)
    have hc : Can (wd prog w mean mg mb) 0 54 ["votes", "seats", "method", "tiesallowed"] [il V, .int (S : Nat), .str m, .bool ta] (fun d => ((dvAll (grpOf at') V S).2 && !ta) = false ∧ d = il (dvAll (grpOf at') V S).1) (((dvAll (grpOf at') V S).2 && !ta) = true) :=
      ⟨fd, body, hF, fun n _ => hD n V S (grpOf at') m ta hl0 hl5 hS9 hV hbits hg1 hg6 (fun h => hS6 (by unfold grpOf at h; apply Classical.byContradiction; intro q; revert h; (repeat' split) <;> omega) h14) (grp_names at' h14 m hm)⟩
    refine (can_run at' hat m hm way V S ta hl5 (fun h => absurd h c14) (fun h => absurd h c15) (fun _ => hc)).mono (fun d h => ?_) id
    unfold Okd
    by_cases ct : (dvAll (grpOf at') V S).2 = true ∧ ta = false
    · rw [if_pos ct]
      rcases h with ⟨h1, _⟩ | ⟨_, h2⟩
      · rw [ct.1, ct.2] at h1; cases h1
      · exact h2
    · rw [if_neg ct]
      rcases h with ⟨_, rfl⟩ | ⟨h1, _⟩
      · exact ⟨_, rfl, dvAll_len, by rw [if_neg fun q => c15 q.2]⟩
      · simp at h1; exact absurd h1 ct

theorem law_parts {prog : Program} {w : World} {mean : ExcName → Option Value} {mg mb : Str → Option Value} (ns : List Int) (hlay : (PyData.list (ns.map .int)).layable0 = true) : Parts (wd prog w mean mg mb) ns := by
  have hat := lwAt_lt ns
  obtain ⟨hl0, hl5⟩ := lwVotes_len ns
  have hS9 := lwSeats_le ns
  obtain ⟨hV, hpos⟩ := lwVotes_ok ns
  have hS0 : lwS0 ns ≤ 7 := by
    unfold lwS0
    split
    · have := Int.fmod_lt_of_pos (gt ns 1) (show (0 : Int) < 8 by decide)
      omega
    · omega
  refine parts_core (m := names[lwAt ns]'(by simpa [names] using hat)) hat hl0 hl5 hS9 hV hpos (lwVotes_bits ns hlay) (fun h1 h2 => ?_) (fun h => ?_) (fun h => ?_) (List.getElem?_eq_getElem _)
  · unfold lwSeats lwS1
    rw [if_neg (by omega), if_pos ⟨h1, h2⟩]; omega
  · unfold lwSeats lwS1
    rw [if_neg h]
    split <;> omega
  · unfold lwSeats; rw [if_pos h]; omega
end Jg
end PartJgX

noncomputable section PartJgF
open PySem PySem.W PySem.Calls PyProof.Rows
namespace Jg

theorem callerLv (base : Heap) (g : Heap) (env : Env) : Lv ⟨callerA, base, [], g, env⟩ 10 := ⟨rfl, (show (301 : Nat) + 10 ≤ 320 by decide), (show (4 : Nat) + 3 * 10 ≤ 100 by decide)⟩
theorem top_go {prog : Program} {w : World} {mean : ExcName → Option Value} {mg mb : Str → Option Value} {g : Heap} {env : Env} {ss : List Stmt} {s : Shared} {ns : List Int} {vs : List Value} {a : Addr} {m : Str → Option Value} {Q : Flow → Shared → Prop} {E : Value → Shared → Prop}
    (KX : (K0 w.params).In g) (T : Top q0 (looseW q0 ls0) mean mg mb g) (hl : g.IsList a vs.toArray) (hI : IntsAre vs ns) (F : Fr g env.locals s.heap m) (hm : m "script" = some (.ref a))
    (hlay : (PyData.list (ns.map .int)).layable0 = true) (h63 : ¬ ((63 : Nat) : Int) < ((ns.length : Nat) : Int))
    (hEx : COk (wd prog w mean mg mb) ⟨callerA, g, [], g, env⟩ → ∀ ns : List Int, (PyData.list (ns.map .int)).layable0 = true → ns.length ≤ 63 → Parts (wd prog w mean mg mb) ns → Ex (wd prog w mean mg mb) ⟨callerA, g, [], g, env⟩ (.ref 24) (fun _ => False) none [("script", (true, il ns))] ss (fun fl _ _ => ∃ k, fl = .ret k (.bool true)) False)
    (hQ : ∀ s' m', Adv s s' → Fr g env.locals s'.heap m' → Q (.ret (.bool true)) s')
    (h1 : env.frame = some env.locals := by rfl) (h2 : env.scope.kind = .function := by rfl) (h3 : env.globals = mainGlobals := by rfl) (h4 : env.builtins = builtinsNs := by rfl) (h5 : env.cells = [] := by rfl) (h6 : env.kindOf "script" = some .local := by rfl) :
    wpAny (model prog w) (callerA.deeper env) (execs ss env) Q E s := by
  have hnew : g.get? env.locals = none := lt_none F.above
  have S : St (wd prog w mean mg mb) ⟨callerA, g, [], g, env⟩ none [("script", (true, il ns))] s.heap := by
    refine ⟨⟨KX.keeps F.keep, T.keeps F.keep, fun x k d e => ?_, (fun a q => nomatch q), h2, h3, h4⟩, Ups.rk F.keep, ⟨m, F.ns⟩, hnew, fun x a e => ?_, ?_, (fun y a e => nomatch e), fun _ z d e => ?_⟩
    · rw [List.lookup_cons] at e
      split at e
      · rename_i hx
        cases e
        obtain rfl := beq_iff_eq.mp hx
        exact ⟨.ref a, .inl ⟨h6, m, F.ns, hm⟩, a, vs, rfl, (fun _ q => nomatch q), by obtain ⟨o, ho, r⟩ := hl; exact ⟨o, F.keep _ _ ho, r⟩, Rds.of_ints hI⟩
      · cases e
    · change env.cells.lookup x = some a at e
      rw [h5] at e; cases e
    · show env.cells.Pairwise _
      rw [h5]; exact .nil
    · rw [List.lookup_cons] at e
      split at e
      · cases e
      · cases e
  have ok : COk (wd prog w mean mg mb) ⟨callerA, g, [], g, env⟩ := ⟨below_caller g, (callerLv g g env).ao, h1, h2, KX, T, fun _ q => nomatch q⟩
  refine wpAny_mono (hEx ok ns hlay (by omega) (law_parts ns hlay) s (fun _ _ => False) S (fun _ q => q.elim) PassesOwn.never fun t => t.elim) (fun f s' gd => ?_) fun _ _ x => x.elim
  obtain ⟨fl, ow', σ', ⟨k, rfl⟩, fr, S', ad, _⟩ := gd
  cases f <;> first | exact fr.elim | skip
  rename_i v
  rw [show v = .bool true from fr]
  obtain ⟨m', hm'⟩ := S'.frame
  exact hQ s' m' ad ⟨hm', fun b o e => S'.keep.exact e (fun _ q => nomatch q), F.above⟩

theorem evN_or {W : Wd} {A : Around} {env : Env} {oa : List Addr} {σ : Sg} {x y : Expr} {pos : Pos} {l1 l2 : List D} {a : Bool} (h1 : EvN W A env oa σ x l1) (t : Tru W (.list l1) a) (h2 : a = false → EvN W A env oa σ y l2) : EvN W A env oa σ (.BoolOp .Or [x, y] pos) (if a then l1 else l2) := fun ao s E S => by
  refine wpAny_Or2 (evN_then h1 ao S fun v s1 k1' S1 r1 => ?_)
  obtain ⟨b, vs, rfl, hn, hp, r⟩ := r1
  refine wpAny_mono (t A s1 _ (Kp oa true) _ ao ⟨b, vs, rfl, S.fresh hn true, hp.isList, r⟩) (fun c s2 z => ?_) fun _ _ x => x
  obtain ⟨k2', rfl⟩ := z
  cases hc : c with
  | true => exact ⟨keeps_trans k1' k2', b, vs, rfl, hn, by obtain ⟨e, he⟩ := hp; exact ⟨e, kups k2' _ _ he⟩, r.up (kups k2')⟩
  | false =>
    refine evN_then (h2 hc) ao (S1.up (kups k2')) fun w s3 k3' _ r3 => ⟨keeps_trans (keeps_trans k1' k2') k3', ?_⟩
    obtain ⟨b, vs, rfl, hn, hp, r⟩ := r3
    exact ⟨b, vs, rfl, fresh_of k1' (fresh_of k2' hn), hp, r⟩

theorem main : PySem.Challenge.rw_jg0013_01.Holds := hd rfl rfl rfl (by
  k_go0
  refine top_go (by assumption) (by assumption) (by assumption) (by assumption) (by assumption) rfl (by assumption) (by assumption) ?_ ?_
  · rintro ok ns hlay h63 ⟨due, tied, hD, hR⟩
    have lv := callerLv
    have hat := lwAt_lt ns
    have hvl := lwVotes_len ns
    have hsl := lwSeats_le ns
    have hn5 : (ns.map D.int).length < 2 ^ 60 := by rw [List.length_map]; omega
    refine ex_assign ok (.inl rfl) (by rintro _ _ ⟨⟩) (d := .int (ns.headD 0)) (ev_if (q := !(ns.map D.int).isEmpty) (tst_val (eN rfl) (tru_list (by omega))) (fun h => ?_) (fun h => ?_)) ?_
    · have hpos : 0 < ns.length := by cases ns <;> simp at h ⊢
      exact ev_eq (ev_at (n := 0) (eN rfl) eInt hpos (by omega)) (by cases ns <;> simp [gt] at h ⊢)
    · exact ev_eq eInt (by cases ns <;> simp at h ⊢)
    refine ex_assign ok (.inl rfl) (by rintro _ _ ⟨⟩) (d := .int (lwAt ns : Nat)) (ev_eq (eMod (eN rfl) eInt (by decide)) (by rw [lwAt_eq])) ?_
    refine ex_own ok (.inl rfl) (evN_or (l1 := (((ns.drop 2).take 5).map fun i => (i.natAbs : Int)).map .int) (l2 := ([1] : List Int).map .int) (a := !((((ns.drop 2).take 5).map fun i => (i.natAbs : Int)).map D.int).isEmpty) (evN_comp (f := fun k => some (.int ((fun i : Int => (i.natAbs : Int)) (gt ((ns.drop 2).take 5) k)))) (σc := [])
      (src_off (src_list (l := ((ns.drop 2).take 5).map .int) (ev_eq (ev_new (ev_slice (i := 2) (j := 7) (eN rfl) eInt eInt (by rw [List.length_map]; omega))) (by rw [List.map_take, List.map_drop])))) (by rw [List.length_map, List.length_take]; omega) (comp_map' (l := (ns.drop 2).take 5) (fun i : Int => (i.natAbs : Int))) (fun x => rfl) rfl rfl (by decide) (.loc (fun n => rfl) (fun h => rfl) (fun C => rfl)) cap_nil (fun i C X d hd => .nil) (fun i C X d e hd he => ?_)) (tru_list (by rw [List.length_map, List.length_map, List.length_take]; omega)) (fun _ => evN_list (evs_cons eInt evs_nil) (by simp))) (fun a ha => ?_)
    · obtain ⟨hi, rfl⟩ := map_d hd
      cases he
      exact ev_call gl_abs (.builtin _) (evs_cons (eN rfl) evs_nil) clv_abs
    have hV0 : (if (!((((ns.drop 2).take 5).map fun i => (i.natAbs : Int)).map D.int).isEmpty) = true then (((ns.drop 2).take 5).map fun i => (i.natAbs : Int)).map D.int else ([1] : List Int).map D.int) = (lwV0 ns).map D.int := by
      unfold lwV0
      cases (ns.drop 2).take 5 <;> simp
    rw [hV0]
    have hv0 := lwV0_len ns
    refine ex_if ok (b := decide ((lwV0 ns).sum = 0)) (tst_eq (a := ((lwV0 ns).sum == 0)) (tst_cmp (ev_sum rfl (eO rfl)) eInt cmp_eq) (by rw [Bool.eq_iff_iff]; simp)) (ex_mono (Q := fun fl ow' σ' => fl = .next ∧ ow' = some (("votes" : Str), a) ∧ Has σ' "votes" false (il (lwVotes ns)) ∧ Has σ' "at" true (.int (lwAt ns : Nat)) ∧ Has σ' "script" true (il ns)) ?_ ?_ id)
    · by_cases c : (lwV0 ns).sum = 0
      · rw [decide_eq_true c, if_pos rfl]
        refine ex_item (n := 0) ok rfl (il_flat (lwV0 ns)) rfl eInt eInt (by omega) (by rw [List.length_map]; omega) (by omega) ha ?_
        refine ex_nil ⟨rfl, rfl, ?_, rfl, rfl⟩
        unfold lwVotes
        rw [if_pos c]
        show Has (("votes", (false, .list (((lwV0 ns).map D.int).set 0 (.int 1)))) :: _) _ _ _
        rw [show ((lwV0 ns).map D.int).set 0 (.int 1) = ((lwV0 ns).set 0 1).map D.int by rw [List.map_set]]
        rfl
      · rw [decide_eq_false c, if_neg (by decide)]
        have e : lwVotes ns = lwV0 ns := by unfold lwVotes; rw [if_neg c]
        rw [e]
        exact ex_nil ⟨rfl, rfl, rfl, rfl, rfl⟩
    rintro fl ow' σ' ⟨rfl, rfl, q1, q2, q3⟩
    refine ex_forget (σ' := ([("votes", (false, il (lwVotes ns))), ("at", (true, .int (lwAt ns : Nat))), ("script", (true, il ns))] : Sg)) (sub_cons q1 (sub_cons q2 (sub_cons q3 sub_nil))) (ex_firm ?_)
    refine ex_forget (σ' := ([("votes", (true, il (lwVotes ns))), ("at", (true, .int (lwAt ns : Nat))), ("script", (true, il ns))] : Sg)) (sub_cons rfl (sub_cons rfl (sub_cons rfl sub_nil))) ?_
    have hv5 : ((lwVotes ns).map D.int).length < 2 ^ 60 := by rw [List.length_map]; omega
    refine ex_assign ok (.inl rfl) (by rintro _ _ ⟨⟩) (d := .int (lwS0 ns : Nat)) (ev_if (q := decide (1 < ns.length)) (tst_eq (tst_cmp (ev_len rfl (eN rfl) hn5) eInt cmp_gt) (by rw [List.length_map, Bool.eq_iff_iff]; simp; omega)) (fun h => ?_) (fun h => ?_)) ?_
    · have h' := of_decide_eq_true h
      refine ev_eq (eMod (ev_at (n := 1) (eN rfl) eInt h' (by omega)) eInt (by decide)) ?_
      unfold lwS0
      rw [if_pos h', Int.toNat_of_nonneg (Int.fmod_nonneg_of_pos _ (by decide))]
    · have h' := of_decide_eq_false h
      exact ev_eq eInt (by unfold lwS0; rw [if_neg h']; rfl)
    have hs0 : lwS0 ns < 2 ^ 20 := by
      unfold lwS0
      split
      · have := Int.fmod_lt_of_pos (gt ns 1) (show (0 : Int) < 8 by decide)
        omega
      · omega
    refine ex_if ok (b := decide (6 < lwAt ns ∧ lwAt ns < 14)) (tst_eq (a := (decide ((6 : Int) < (lwAt ns : Nat)) && decide (((lwAt ns : Nat) : Int) < 14))) (tst_chain eInt (eN rfl) (fun _ => eInt) cmp_lt cmp_lt) (by rw [Bool.eq_iff_iff]; simp; omega)) (ex_mono (Q := fun fl ow' σ' => fl = .next ∧ ow' = none ∧ Has σ' "seats" true (.int (lwS1 ns : Nat)) ∧ Has σ' "votes" true (il (lwVotes ns)) ∧ Has σ' "at" true (.int (lwAt ns : Nat))) ?_ ?_ id)
    · by_cases c : 6 < lwAt ns ∧ lwAt ns < 14
      · rw [decide_eq_true c, if_pos rfl]
        refine ex_assign ok (.inl rfl) (by rintro _ _ ⟨⟩) (d := .int (lwS1 ns : Nat)) (ev_eq (eAdd (ev_len rfl (eN rfl) hv5) (eMod (eN rfl) eInt (by decide))) ?_) (ex_nil ⟨rfl, rfl, rfl, rfl, rfl⟩)
        unfold lwS1
        rw [if_pos c, List.length_map, Int.fmod_eq_emod_of_nonneg _ (by decide)]
        simp
      · rw [decide_eq_false c, if_neg (by decide)]
        have e : lwS1 ns = lwS0 ns := by unfold lwS1; rw [if_neg c]
        rw [e]
        exact ex_nil ⟨rfl, rfl, rfl, rfl, rfl⟩
    rintro fl ow' σ' ⟨rfl, rfl, q1, q2, q3⟩
    refine ex_if ok (b := decide (14 < lwAt ns)) (tst_eq (tst_cmp (eN q3) eInt cmp_gt) (by rw [Bool.eq_iff_iff]; simp; omega)) (ex_mono (Q := fun fl ow' σ' => fl = .next ∧ ow' = none ∧ Has σ' "seats" true (.int (lwSeats ns : Nat)) ∧ Has σ' "votes" true (il (lwVotes ns)) ∧ Has σ' "at" true (.int (lwAt ns : Nat))) ?_ ?_ id)
    · by_cases c : 14 < lwAt ns
      · rw [decide_eq_true c, if_pos rfl]
        refine ex_forget (σ' := ([("seats", (true, .int (lwS1 ns : Nat))), ("votes", (true, il (lwVotes ns))), ("at", (true, .int (lwAt ns : Nat)))] : Sg)) (sub_cons q1 (sub_cons q2 (sub_cons q3 sub_nil))) ?_
        refine ex_assign ok (.inl rfl) (by rintro _ _ ⟨⟩) (d := .int (lwSeats ns : Nat)) (ev_eq (ev_call (k := true) gl_max (.builtin _) (evs_cons eInt (evs_cons (eN rfl) evs_nil)) clv_max2) ?_) (ex_nil ⟨rfl, rfl, rfl, rfl, rfl⟩)
        unfold lwSeats
        rw [if_pos c]
        congr 1
        split <;> omega
      · rw [decide_eq_false c, if_neg (by decide)]
        have e : lwSeats ns = lwS1 ns := by unfold lwSeats; rw [if_neg c]
        rw [e]
        exact ex_nil ⟨rfl, rfl, q1, q2, q3⟩
    rintro fl ow' σ' ⟨rfl, rfl, q1, q2, q3⟩
    refine ex_forget (σ' := ([("seats", (true, .int (lwSeats ns : Nat))), ("votes", (true, il (lwVotes ns))), ("at", (true, .int (lwAt ns : Nat)))] : Sg)) (sub_cons q1 (sub_cons q2 (sub_cons q3 sub_nil))) ?_
    refine ex_pair_call (P := (· = .tup [il due, .bool tied])) ok (.inl rfl) (.inl rfl) (by rintro _ _ ⟨⟩) ?_ (callx_can ok (lv _ _ _) (by decide) gl_dealt hD rfl (argsE ok (eN rfl) (argsE ok (eN rfl) (argsE ok (eN rfl) argsK_nil))))
    rintro d rfl
    refine ⟨_, _, rfl, .inl rfl, ?_⟩
    refine ex_forget (σ' := ([("due", (true, il due)), ("tied", (true, .bool tied)), ("seats", (true, .int (lwSeats ns : Nat))), ("votes", (true, il (lwVotes ns))), ("at", (true, .int (lwAt ns : Nat)))] : Sg)) (sub_cons rfl (sub_cons rfl (sub_cons rfl (sub_cons rfl (sub_cons rfl sub_nil))))) ?_
    refine ex_for ok (.inl rfl) (by rintro _ _ ⟨⟩) (fun _ τ => τ = ([("due", (true, il due)), ("tied", (true, .bool tied)), ("seats", (true, .int (lwSeats ns : Nat))), ("votes", (true, il (lwVotes ns))), ("at", (true, .int (lwAt ns : Nat)))] : Sg)) (src_rn (n := 2) rfl eInt (by decide)) rfl ?_ ?_
    · rintro fx' i d τ hn hd rfl
      obtain ⟨hi, rfl⟩ := rangeD0_get hd
      refine ex_for (l := if lwAt ns = 14 then [D.bool true] else [D.bool true, D.bool false]) ok (.inl rfl) (by rintro _ _ ⟨⟩) (fun _ τ => ∃ w1, τ = ([("way", (true, .int w1)), ("due", (true, il due)), ("tied", (true, .bool tied)), ("seats", (true, .int (lwSeats ns : Nat))), ("votes", (true, il (lwVotes ns))), ("at", (true, .int (lwAt ns : Nat)))] : Sg))
        (src_tup (k := true) (ev_if (q := decide (lwAt ns = 14)) (tst_eq (tst_cmp (eN rfl) eInt cmp_eq) (by rw [Bool.eq_iff_iff]; simp; omega)) (fun h => ev_eq (ev_tuple (evs_cons eBool evs_nil) (by simp)) (by rw [if_pos (of_decide_eq_true h)])) (fun h => ev_eq (ev_tuple (evs_cons eBool (evs_cons eBool evs_nil)) (by simp)) (by rw [if_neg (of_decide_eq_false h)])))) ⟨_, rfl⟩ ?_ ?_
      · rintro fx'' j d τ hn' hd ⟨w1, rfl⟩
        obtain ⟨ta, hta, rfl⟩ : ∃ ta, (lwAt ns = 14 → ta = true) ∧ d = .bool ta := by
          have hm := List.mem_of_getElem? hd
          split at hm
          · simp at hm; exact ⟨true, fun _ => rfl, hm⟩
          · rename_i h
            simp at hm
            rcases hm with rfl | rfl
            · exact ⟨true, fun _ => rfl, rfl⟩
            · exact ⟨false, fun h' => absurd h' h, rfl⟩
        refine ex_assign_call (P := Okd (lwAt ns) (lwVotes ns) (lwSeats ns) due tied ta) ok (.inl rfl) (by rintro _ _ ⟨⟩) (.inl rfl) (callx_can ok (lv _ _ _) (by decide) gl_run (hR w1 ta hta) rfl (argsE ok (eN rfl) (argsE ok (eN rfl) (argsE ok (eN rfl) (argsE ok (eN rfl) (argsE ok (eN rfl) argsK_nil)))))) ?_
        intro d hOk
        refine ex_if ok (b := tied && !ta) (tst_and (tst_val (eN rfl) tru_bool) fun _ => tst_not (tst_val (eN rfl) tru_bool)) ?_
        by_cases c : tied = true ∧ ta = false
        · rw [if_pos (by rw [c.1, c.2]; rfl)]
          have hd' : d = .str "tie" := by unfold Okd at hOk; rwa [if_pos c] at hOk
          subst hd'
          refine ex_if ok (b := false) (tst_eq (tst_cmp (eN rfl) eStr cmp_ne_str) (by decide)) (ex_nil ?_)
          refine ex_forget ?_ (ex_continue ⟨rfl, w1, rfl⟩)
          exact (sub_cons rfl (sub_cons rfl (sub_cons rfl (sub_cons rfl (sub_cons rfl (sub_cons rfl sub_nil))))))
        rw [if_neg (by intro h; simp at h; exact c h)]
        unfold Okd at hOk
        rw [if_neg c] at hOk
        obtain ⟨told, rfl, hlen, hcase⟩ := hOk
        have ht5 : (told.map D.int).length < 2 ^ 60 := by rw [List.length_map]; omega
        refine ex_nil ?_
        refine ex_if ok (b := false) (tst_eq (a := (!true || ((((told.map D.int).length : Nat) : Int) != (((lwVotes ns).map D.int).length : Nat) || !decide (([] : List Int) = [])))) (tst_or3 (tst_not (tst_val (ev_isi_list (k := true) gl_isinstance (eN rfl) gl_list) tru_bool)) (fun _ => tst_cmp (ev_len rfl (eN rfl) ht5) (ev_len rfl (eN rfl) hv5) cmp_ne)
          (fun _ _ => tst_cmp (ev_new (k := true) (evN_comp (r := ([] : List Int).map .int) (f := fun _ => none) (σc := []) (src_off (src_list (eN rfl))) (by rw [List.length_map]; omega) (by simp) (fun x => rfl) rfl rfl (by decide) (.loc (fun n => rfl) (fun h => rfl) (fun C => rfl)) cap_nil (fun i C X d hd => ?_) (fun i C X d e hd he => by cases he))) (ev_new (k := true) (evN_list evs_nil (by simp))) (cmp_ne_ints (l := []) (m := [])))) (by rw [List.length_map, List.length_map, hlen]; simp)) (ex_nil ?_)
        · obtain ⟨hi', rfl⟩ := map_d hd
          exact .one (tst_val (ev_isi_bool (k := true) gl_isinstance (eN rfl) gl_bool) tru_bool)
        refine ex_if ok (b := decide (tied = true ∧ 14 < lwAt ns)) (tst_eq (a := (tied && decide ((14 : Int) < (lwAt ns : Nat)))) (tst_and (tst_val (eN rfl) tru_bool) fun _ => tst_cmp (eN rfl) eInt cmp_gt) (by rw [Bool.eq_iff_iff]; simp; omega)) ?_
        by_cases c2 : tied = true ∧ 14 < lwAt ns
        · rw [decide_eq_true c2, if_pos rfl]
          rw [if_pos c2] at hcase
          obtain ⟨hsum, hcl⟩ := hcase
          refine ex_if ok (b := false) (tst_eq (tst_cmp (ev_sum rfl (eN rfl)) (eN rfl) cmp_ne) (by rw [hsum]; simp)) (ex_nil ?_)
          refine ex_forget (σ' := ([("told", (true, il told)), ("way", (true, .int w1)), ("due", (true, il due)), ("tied", (true, .bool tied)), ("seats", (true, .int (lwSeats ns : Nat))), ("votes", (true, il (lwVotes ns))), ("at", (true, .int (lwAt ns : Nat)))] : Sg)) (sub_cons rfl (sub_cons rfl (sub_cons rfl (sub_cons rfl (sub_cons rfl (sub_cons rfl (sub_cons rfl sub_nil))))))) ?_
          refine ex_for ok (.inl rfl) (by rintro _ _ ⟨⟩) (fun _ τ => ∃ w1, τ = ([("told", (true, il told)), ("way", (true, .int w1)), ("due", (true, il due)), ("tied", (true, .bool tied)), ("seats", (true, .int (lwSeats ns : Nat))), ("votes", (true, il (lwVotes ns))), ("at", (true, .int (lwAt ns : Nat)))] : Sg)) (src_rlen rfl rfl (eN rfl) hv5) ⟨w1, rfl⟩ ?_ ?_
          · rintro fx3 i d τ hn3 hd ⟨w1, rfl⟩
            obtain ⟨hi', rfl⟩ := rangeD0_get hd
            rw [List.length_map] at hi'
            obtain ⟨hc1, hc2⟩ := hcl i hi'
            refine ex_if ok (b := false) (tst_eq (tst_cmp (ev_call (k := true) gl_abs (.builtin _) (evs_cons (eSub (eMul (ev_at (eN rfl) (eN rfl) (by omega) (by omega)) (ev_sum rfl (eN rfl)) (.of_left (small_bits (by omega)))) (eMul (ev_at (eN rfl) (eN rfl) hi' (by omega)) (eN rfl) (.of_right (small_bits (by omega))))) evs_nil) clv_abs) (ev_sum rfl (eN rfl)) cmp_ge) (decide_eq_false (by omega))) (ex_nil ?_)
            refine ex_forget ?_ (ex_nil ⟨rfl, w1, rfl⟩)
            exact (sub_cons rfl (sub_cons rfl (sub_cons rfl (sub_cons rfl (sub_cons rfl (sub_cons rfl (sub_cons rfl sub_nil)))))))
          · rintro τ ⟨w1, rfl⟩
            refine ex_nil ?_
            refine ex_forget ?_ (ex_nil ⟨rfl, w1, rfl⟩)
            exact (sub_cons rfl (sub_cons rfl (sub_cons rfl (sub_cons rfl (sub_cons rfl (sub_cons rfl sub_nil))))))
        · rw [decide_eq_false c2, if_neg (by decide)]
          rw [if_neg c2] at hcase
          subst hcase
          refine ex_if ok (b := false) (tst_eq (tst_cmp (eN rfl) (eN rfl) cmp_ne_ints) (by simp)) (ex_nil (ex_nil ?_))
          refine ex_forget ?_ (ex_nil ⟨rfl, w1, rfl⟩)
          exact (sub_cons rfl (sub_cons rfl (sub_cons rfl (sub_cons rfl (sub_cons rfl (sub_cons rfl sub_nil))))))
      · rintro τ ⟨w1, rfl⟩
        exact ex_forget (sub_cons rfl (sub_cons rfl (sub_cons rfl (sub_cons rfl (sub_cons rfl sub_nil))))) (ex_nil ⟨rfl, rfl⟩)
    · rintro τ rfl
      exact ex_return ok eBool ⟨_, rfl⟩
  · rintro s' m' ⟨h', tk, rfl⟩ F'
    exact goodW_bool (by assumption) (by assumption) (raisesW_false (by wrow_none_raised)) (by wrow_post))
end Jg
end PartJgF

theorem PySem.Challenge.cw_jg0013_01_holds : PySem.Challenge.rw_jg0013_01.Holds := by
  exact Jg.main
