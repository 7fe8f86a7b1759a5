import PyProof.Rows.All
import Wide.All
import OpenK.AllK
import Wide.FinOn
import PySem.Challenge.RW_rw0029_01
set_option Elab.async false
set_option maxRecDepth 100000
set_option linter.all false

section
open PySem PySem.W PyProof.Rows
set_option maxHeartbeats 8000000
namespace Mine.H
abbrev pL : Program := PySem.Challenge.rw_rw0029_01.row.toRowW.1
abbrev nm (x : String) : Str := Str.ofString x
def defN (i : Nat) : Str × Arguments × List Stmt × Scope := match PySem.Challenge.pw_rw0029_01.main.body[i]? with
  | some (.FunctionDef n ps b _ _ _ sc _ _ _) => (n, ps, b, sc)
  | _ => (nm "", ⟨[], [], none, [], [], none, []⟩, [], default)
noncomputable def tup (vs : List Value) : Obj := ⟨.type "tuple", none, .seq vs.toArray 0, #[]⟩
noncomputable def stv : List String → Tok → List Value
  | [], _ => []
  | x :: r, t => .str (nm x) t :: stv r (t + 1)
noncomputable def ent (P : Params) (x : String) (t : Tok) (v : Value) : DictEntry := ⟨PyData.keyHash P (nm x), .str (nm x) t, v⟩
noncomputable def ndf : Obj := ⟨.none, none, .fields #[], #[]⟩
noncomputable def rf (a : Nat) : Value := .ref a
noncomputable def it (i : Int) : Value := .int i 0
noncomputable def fcon (i : Nat) : Obj := ⟨.none, none, .func ⟨(defN i).1, (defN i).1, (defN i).2.1, .stmts (defN i).2.2.1, (defN i).2.2.2, 0, [], .none, .none, .none, .none, none, .none, .none, 0⟩, #[]⟩
noncomputable def fcod (i a t : Nat) (r n k : Int) (l : List String) : Obj := ⟨.type "code", none, .fields (.str (defN i).1 t :: .str (defN i).1 (t + 1) :: .str (nm "/claim/cut.py") (t + 2) :: it r :: it n :: it 0 :: it k :: it 3 :: rf a :: .bool true :: it 181 :: rf (a + 1) :: .none ::
  (match l with | [] => [.none, .none, rf (a + 2)] | _ => [rf (a + 2), rf (a + 3), rf (a + 4)]) ++ [it ((t + 3 + l.length : Nat) : Int), it r, .str (nm "/claim/cut.py") (t + 4 + l.length)]).toArray, #[]⟩
noncomputable def ffun (i c : Nat) (dV kV md : Value) : Obj := ⟨.type "function", none, .func ⟨(defN i).1, (defN i).1, (defN i).2.1, .stmts (defN i).2.2.1, (defN i).2.2.2, 3, [], dV, kV, .none, md, none, rf c, .none, 0⟩, #[]⟩
noncomputable def fobs (i a t : Nat) (r n k : Int) (l : List String) (dV kV md : Value) : List Obj :=
  tup [] :: ndf :: (match l with | [] => [] | l => [tup (stv l (t + 3)), tup []]) ++ [fcon i, fcod i a t r n k l, ffun i (match l with | [] => a + 3 | _ => a + 5) dV kV md]
noncomputable def kdic (P : Params) (t : Nat) : Obj := ⟨.type "dict", none, .dict #[ent P "key" t .none] 1, #[]⟩
noncomputable def top (P : Params) : Obj := ⟨.type "dict", none, .dict #[ent P "__name__" 165 (.str (nm "law_rw0029_01") 259), ent P "__doc__" 166 .none, ent P "__package__" 167 .none, ent P "__loader__" 168 (.builtin "__main__.__loader__#opaque"), ent P "__spec__" 169 .none, ent P "__annotations__" 170 (rf 6), ent P "__builtins__" 171 (rf 4), ent P "__file__" 173 (.str (nm "/claim/cut.py") 172), ent P "__cached__" 174 .none, ent P "ENDMARKER" 190 (.int 0 189), ent P "NT_OFFSET" 192 (.int 256 191), ent P "ISTERMINAL" 199 (rf 21), ent P "ISNONTERMINAL" 206 (rf 28), ent P "ISEOF" 213 (rf 35), ent P "insort_left" 228 (rf 44), ent P "bisect_left" 242 (rf 53), ent P "ELLIPSIS_MARKER" 246 (.str (nm "...") 245), ent P "_ellipsis_match" 258 (rf 60), ent P "_law_joined" 266 (rf 65), ent P "_law_spelled" 277 (rf 72), ent P "_law_side" 287 (rf 79), ent P "_law_along" 301 (rf 86), ent P "law" 307 (rf 91)] 23, #[]⟩
noncomputable def tok : Value := .str (nm "cpy313.token") 187
noncomputable def bsc : Value := .str (nm "cpy313.bisect") 214
noncomputable def lwm : Value := .str (nm "law_rw0029_01") 259
noncomputable def obs (P : Params) : List Obj := [tup [],
  ⟨.none, none, .fields #[it 4, it 0, rf 20, it 6, it 0, rf 27, it 8, it 0, rf 34, it 11, it 0, rf 43, it 17, it 0, rf 52, it 39, it 0, rf 59, it 68, it 0, rf 64, it 79, it 0, rf 71, it 88, it 0, rf 78, it 93, it 0, rf 85, it 102, it 0, rf 90], #[]⟩,
  ⟨.type "code", none, .fields #[.str (nm "<module>") 182, .str (nm "<module>") 183, .str (nm "/claim/cut.py") 184, it 1, it 0, it 0, it 0, it 0, rf 11, .bool false, it 181, rf 12, .none, .none, .none, .none, it 185, it 1, .str (nm "/claim/cut.py") 186], #[]⟩,
  ⟨.type "frame", none, .plain, #[some (rf 13), some (rf 3), some (rf 3), none, some (.str (nm "__main__") 164), none, some (rf 0)]⟩] ++
  fobs 3 15 193 4 1 0 ["x"] .none .none tok ++ fobs 4 22 200 6 1 0 ["x"] .none .none tok ++ fobs 5 29 207 8 1 0 ["x"] .none .none tok ++
  tup [.int 0 216, .none] :: kdic P 217 :: fobs 7 38 218 11 4 1 ["a", "x", "lo", "hi", "key"] (rf 36) (rf 37) bsc ++
  tup [.int 0 229, .none] :: kdic P 230 :: fobs 8 47 231 17 4 1 ["a", "x", "lo", "hi", "key", "mid"] (rf 45) (rf 46) bsc ++
  fobs 11 54 247 39 2 0 ["want", "got", "ws", "startpos", "endpos", "w"] .none .none (.str (nm "cpy313.doctest") 243) ++
  fobs 13 61 261 68 2 0 [] .none .none lwm ++ fobs 14 66 267 79 2 0 ["pairs", "symbol", "waiting", "text", "last"] .none .none lwm ++
  fobs 15 73 278 88 3 0 ["pairs", "symbol", "which", "side"] .none .none lwm ++
  fobs 16 80 288 93 4 0 ["pairs", "one", "other", "bound", "ahead", "behind", "k", "above"] .none .none lwm ++ fobs 17 87 302 102 1 0 [] .none .none lwm
noncomputable def hp (P : Params) : Heap := ⟨(boot_o_0 P :: boot_o_1 P :: boot_o_2 P :: top P :: boot_o_4 P :: boot_o_5 P :: boot_o_6 P :: boot_o_7 P :: boot_o_8 P :: boot_o_9 P :: boot_o_10 P :: obs P).toArray, {}⟩
def vw : Program := view pL [1, 2, 3, 4, 5, 10, 11, 13, 14, 15, 16, 17]
theorem top_run : ∀ w : World, (fun os => topRun treeTable pL w 11 (some (.ref 6)) 435 ⟨boot_heap w.params, #[], boot_drawn, boot_toks, os⟩ (topStub pL)) = fun os => some ⟨hp w.params, #[], {}, 308, os⟩ := fun w => by kernel_rfl
noncomputable def ob (P : Params) (i : Nat) : Obj := (obs P).getD i ndf
noncomputable def hf (P : Params) : Frag := (nat_lit 2, boot_o_2 P) :: (nat_lit 3, top P) :: (nat_lit 6, boot_o_6 P) :: (nat_lit 15, ob P 4) :: (nat_lit 17, ob P 6) :: (nat_lit 18, ob P 7) :: (nat_lit 20, ob P 9) :: (nat_lit 21, ob P 10) :: (nat_lit 22, ob P 11) :: (nat_lit 24, ob P 13) :: (nat_lit 25, ob P 14) :: (nat_lit 27, ob P 16) :: (nat_lit 28, ob P 17) :: (nat_lit 29, ob P 18) :: (nat_lit 31, ob P 20) :: (nat_lit 32, ob P 21) :: (nat_lit 34, ob P 23) :: (nat_lit 35, ob P 24) :: (nat_lit 36, ob P 25) :: (nat_lit 37, ob P 26) :: (nat_lit 38, ob P 27) :: (nat_lit 40, ob P 29) :: (nat_lit 41, ob P 30) :: (nat_lit 43, ob P 32) :: (nat_lit 44, ob P 33) :: (nat_lit 45, ob P 34) :: (nat_lit 46, ob P 35) :: (nat_lit 47, ob P 36) :: (nat_lit 49, ob P 38) :: (nat_lit 50, ob P 39) :: (nat_lit 52, ob P 41) :: (nat_lit 53, ob P 42) :: (nat_lit 54, ob P 43) :: (nat_lit 56, ob P 45) :: (nat_lit 57, ob P 46) :: (nat_lit 59, ob P 48) :: (nat_lit 60, ob P 49) :: (nat_lit 61, ob P 50) :: (nat_lit 64, ob P 53) :: (nat_lit 65, ob P 54) :: (nat_lit 66, ob P 55) :: (nat_lit 68, ob P 57) :: (nat_lit 69, ob P 58) :: (nat_lit 71, ob P 60) :: (nat_lit 72, ob P 61) :: (nat_lit 73, ob P 62) :: (nat_lit 75, ob P 64) :: (nat_lit 76, ob P 65) :: (nat_lit 78, ob P 67) :: (nat_lit 79, ob P 68) :: (nat_lit 80, ob P 69) :: (nat_lit 82, ob P 71) :: (nat_lit 83, ob P 72) :: (nat_lit 85, ob P 74) :: (nat_lit 86, ob P 75) :: (nat_lit 87, ob P 76) :: (nat_lit 90, ob P 79) :: (nat_lit 91, ob P 80) :: []
abbrev ks : List Addr := [2, 3, 6, 15, 17, 18, 20, 21, 22, 24, 25, 27, 28, 29, 31, 32, 34, 35, 36, 37, 38, 40, 41, 43, 44, 45, 46, 47, 49, 50, 52, 53, 54, 56, 57, 59, 60, 61, 64, 65, 66, 68, 69, 71, 72, 73, 75, 76, 78, 79, 80, 82, 83, 85, 86, 87, 90, 91]
noncomputable abbrev hk : Hook := kmHook hf ks (fun _ => rfl) [88]
abbrev lo : List Str := [nm "insort_left", nm "bisect_left"]
noncomputable abbrev xt (s : Shared) : Bool := xlAt vw [] s && recOk PySem.Challenge.rw_rw0029_01.row.records s
theorem top_looks : ∀ w : World, (fun os => ((staticsOk (importedModules pL.main.body) (boot_heap w.params) (hp w.params) && namesBound pL (hp w.params) && gensDone ⟨hp w.params, #[], {}, 308, os⟩ && laidKept (boot_heap w.params) (hp w.params)),
        openSeen vw lo (importedModules pL.main.body) xt true ⟨hp w.params, #[], {}, 308, os⟩, hk.obs ⟨hp w.params, #[], {}, 308, os⟩)) = fun _ => (true, openGood vw lo, hk.val w) := fun w => by kernel_rfl
theorem top_size : ∀ w : World, ((boot_heap w.params).isNs mainGlobals && (#[] : Array GenState).size == 0, (boot_heap w.params).objs.size, (boot_heap w.params).nsMap mainGlobals "__annotations__") = (true, 11, some (.ref 6)) := fun w => by kernel_rfl
theorem top_open : opening pL = plainProg pL.main.scope.names := by kernel_rfl
theorem top_left : LeftO pL vw lo xt hk.obs hk.val 600 :=
  LeftO.of_pieces (boot_open top_open (by decide) fun _ => rfl) top_size (fun w os => congrFun (top_run w) os) (by decide) top_looks
theorem said : PySem.Challenge.rw_rw0029_01.wellSaid = true := by decide +kernel
theorem oks : (chainsOk vw && opensWell pL && (frees PySem.Challenge.rw_rw0029_01.row.toRowW && PySem.Challenge.rw_rw0029_01.row.within.isEmpty)) = true := by decide +kernel
def dl : DefRec := match (PySem.Challenge.pw_rw0029_01.main.body[17]? : Option Stmt) with
  | some (.FunctionDef n ps b _ _ _ sc _ _ p) => ⟨n, ps, b, sc, p⟩
  | _ => ⟨nm "", ⟨[], [], none, [], [], none, []⟩, [], default, default⟩
theorem hd (walk : WalkO vw lo (XL vw []) (kmHook hf ks (fun _ => rfl) [88]).says PySem.Challenge.rw_rw0029_01.row.toRowW dl [] fun f vs => call f vs) : PySem.Challenge.rw_rw0029_01.Holds :=
  holds_law said fun said => holds_open (q := vw) (loose := lo) (Xt := xt) (XP := XL vw []) (Yf := hk.obs) (Ya := hk.val) (YP := hk.says) (d := dl) (kwd := []) (N := 600) top_left hk.of hk.keeps (fun s e => xl_of s (Bool.and_eq_true_iff.mp e).1) XL.keeps (by kernel_rfl) (by kernel_rfl) (by kernel_rfl) (fun s e => recFacts_of (Bool.and_eq_true_iff.mp e).2) (by kernel_rfl) said oks ⟨rfl, rfl, rfl, rfl, rfl, by decide +kernel⟩ ⟨[.list []], by decide +kernel, by decide +kernel⟩ walk
end Mine.H
end

section
open PySem PySem.W PyProof.Rows Builtin.Str
namespace Mine
inductive LV where
  | val (d : Dat)
  | own (ds : List Dat)
  | dct (es : List (Int × Str))
  | fn (f : Dat → Option Dat)
  | glo
noncomputable abbrev LSt := List (Str × LV)
noncomputable def LSt.get : LSt → Str → Option LV
  | [], _ => none
  | p :: r, x => if p.1 = x then some p.2 else LSt.get r x
noncomputable def LSt.put : LSt → Str → LV → LSt
  | [], x, l => [(x, l)]
  | p :: r, x, l => if p.1 = x then (x, l) :: r else p :: LSt.put r x l
noncomputable def LSt.del (st : LSt) (x : Str) : LSt := st.filter fun p => p.1 != x
inductive RV where
  | st (d : Dat)
  | cur (x : Str) (ds : List Dat)
  | fn (f : Dat → Option Dat)
noncomputable def RV.dat : RV → Option Dat
  | .st d => some d
  | .cur _ ds => some (.list ds)
  | .fn _ => none
noncomputable def RV.stv : RV → Option Dat
  | .st d => some d
  | _ => none
noncomputable def flatD : Dat → Bool
  | .none => true
  | .bool _ => true
  | .int _ => true
  | .str _ => true
  | _ => false
noncomputable def noneD : Dat → Bool
  | .none => true
  | _ => false
noncomputable def eqB (x : Bool) : Dat → Bool
  | .bool y => x == y
  | _ => false
noncomputable def eqI (x : Int) : Dat → Bool
  | .int y => decide (x = y)
  | _ => false
noncomputable def eqS (x : Str) : Dat → Bool
  | .str y => decide (x = y)
  | _ => false
noncomputable def eqL (f : List Dat → Bool) : Dat → Bool
  | .list ys => f ys
  | _ => false
noncomputable def all2 (f : Dat → Dat → Bool) : List Dat → List Dat → Bool
  | [] => fun b => b.isEmpty
  | a :: r => fun b => match b with
    | [] => false
    | b :: q => f a b && all2 f r q
noncomputable def deqF (f : Dat → Dat → Bool) (a b : Dat) : Bool := match a with
  | .none => noneD b
  | .bool x => eqB x b
  | .int x => eqI x b
  | .str x => eqS x b
  | .list xs => eqL (all2 f xs) b
  | _ => false
noncomputable def deq : Nat → Dat → Dat → Bool
  | 0 => fun _ _ => false
  | n + 1 => deqF (deq n)
noncomputable def oneOf {α β : Type} (f : α → Option β) : List α → Option β
  | [a] => f a
  | _ => none
noncomputable def ii (f : Int → Int → Option Dat) : Dat → Dat → Option Dat
  | .int a, .int b => f a b
  | _, _ => none
noncomputable def addN : Dat → Dat → Option Dat
  | .int a, .int b => some (.int (a + b))
  | .str x, .str y => if x.length + y.length ≤ 4096 then some (.str (x ++ y)) else none
  | _, _ => none
noncomputable def addL (xs : List Dat) : Dat → Option Dat
  | .list ys => if xs.length + ys.length ≤ 4096 then some (.list (xs ++ ys)) else none
  | _ => none
noncomputable def addD (a b : Dat) : Option Dat := match a with
  | .list xs => addL xs b
  | _ => addN a b
noncomputable def subD : Dat → Dat → Option Dat := ii fun a b => some (.int (a - b))
noncomputable def binop : Operator → Dat → Dat → Option Dat
  | .Add => addD
  | .Sub => subD
  | .Mod => ii fun a b => if 0 < b then some (.int (a % b)) else none
  | .FloorDiv => ii fun a b => if 0 < b ∧ b ≤ 1000000 then some (.int (a / b)) else none
  | .Pow => ii fun a b => if 0 ≤ b ∧ b ≤ 8 ∧ 0 < a ∧ a ≤ 10 then some (.int (a ^ b.toNat)) else none
  | _ => fun _ _ => none
noncomputable def augop : Operator → Dat → Dat → Option Dat
  | .Add => addN
  | .Sub => subD
  | _ => fun _ _ => none
noncomputable def okF (f : Dat → Bool) : Dat → Bool
  | .none => true
  | .int _ => true
  | .str x => PyData.strOk x
  | .list ds => ds.all f
  | _ => false
noncomputable def okD : Nat → Dat → Bool
  | 0 => fun _ => false
  | n + 1 => okF (okD n)
noncomputable def okL (ds : List Dat) : Bool := ds.all (okD 6)
noncomputable def strIn (x y : Str) : Bool := !(occurrences y x 0 y.length 1).isEmpty
noncomputable def cmpI (f : Int → Int → Bool) : Dat → Dat → Option Bool
  | .int a, .int b => some (f a b)
  | _, _ => none
noncomputable def cmpLt : Dat → Dat → Option Bool
  | .int a, .int b => some (decide (a < b))
  | .str a, .str b => some (decide (a.cps.toList < b.cps.toList))
  | _, _ => none
noncomputable def cmpEq : Dat → Dat → Option Bool
  | .int a, .int b => some (decide (a = b))
  | .str a, .str b => some (decide (a = b))
  | .list a, .list b => if okL a && okL b then some (deq 8 (.list a) (.list b)) else none
  | _, _ => none
noncomputable def cmpInL (d : Dat) : Dat → Option Bool
  | .list b => if okD 6 d && okL b then some (b.any (deq 8 d)) else none
  | _ => none
noncomputable def cmpInS (x : Str) : Dat → Option Bool
  | .str y => some (strIn x y)
  | e => cmpInL (.str x) e
noncomputable def cmpIn (d e : Dat) : Option Bool := match d with
  | .str a => cmpInS a e
  | _ => cmpInL d e
noncomputable def cmpIsB (a : Dat) (b : Bool) : Option Bool := match a with
  | .bool a => some (a == b)
  | _ => none
noncomputable def cmpIs (a : Dat) : Dat → Option Bool
  | .bool b => cmpIsB a b
  | .none => some (noneD a)
  | _ => none
noncomputable def notO : Option Bool → Option Bool
  | some b => some !b
  | none => none
noncomputable def cmpIsN (a : Dat) : Dat → Option Bool
  | .bool b => notO (cmpIsB a b)
  | _ => none
noncomputable def cmpop : CmpOp → Dat → Dat → Option Bool
  | .Lt => cmpLt
  | .LtE => cmpI fun a b => decide (a ≤ b)
  | .Gt => cmpI fun a b => decide (b < a)
  | .GtE => cmpI fun a b => decide (b ≤ a)
  | .Eq => cmpEq
  | .NotEq => fun a b => notO (cmpEq a b)
  | .In => cmpIn
  | .NotIn => fun a b => notO (cmpIn a b)
  | .Is => cmpIs
  | .IsNot => cmpIsN
noncomputable def idxAt (ds : List Dat) (k : Int) : Option Nat :=
  if ds.length ≤ 4096 then
    if 0 ≤ k then (if k < ds.length then some k.toNat else none)
    else if 0 ≤ k + ds.length then some (k + ds.length).toNat else none
  else none
noncomputable def slcD {α : Type} (ds : List α) (lo hi : Option Int) : List α :=
  (ds.drop (lo.elim 0 (clipAt ds.length))).take (hi.elim ds.length (clipAt ds.length) - lo.elim 0 (clipAt ds.length))
noncomputable def slcS (x : Str) (lo hi : Option Int) : Str := ⟨(slcD x.cps.toList lo hi).toArray⟩
noncomputable def signs (x : Str) : List Dat := x.cps.toList.map fun c => .str ⟨#[c]⟩
noncomputable def find4 (x y : Str) (i j : Int) : Int := match occurrences x y (fromIndex x.length i) (min (fromIndex x.length j) x.length) 1 with | k :: _ => (k : Int) | [] => -1
noncomputable def intO : Dat → Option Int
  | .int i => some i
  | _ => none
noncomputable def strO : Dat → Option Str
  | .str x => some x
  | _ => none
noncomputable def strsOf : List Dat → Option (List Str)
  | [] => some []
  | d :: r => (strO d).bind fun x => (strsOf r).map (x :: ·)
noncomputable def intsOf : List Dat → Option (List Int)
  | [] => some []
  | d :: r => (intO d).bind fun x => (intsOf r).map (x :: ·)
noncomputable def methS1 (m x : Str) : Dat → Option Dat
  | .str y =>
    if m = Str.ofString "startswith" then some (.bool (Txt.startswith x y))
    else if m = Str.ofString "endswith" then some (.bool (Txt.endswith x y))
    else none
  | .list ds => (strsOf ds).bind fun ys => if m = Str.ofString "join" ∧ x.length ≤ 64 ∧ ds.length ≤ 64 ∧ ys.all (fun y => y.length ≤ 64) then some (.str (Txt.join x ys)) else none
  | _ => none
noncomputable def methS3 (m x : Str) : Dat → Dat → Dat → Option Dat
  | .str y, .int i, .int j => if m = Str.ofString "find" ∧ 0 ≤ i ∧ 0 ≤ j ∧ i ≤ 4096 ∧ j ≤ 4096 then some (.int (find4 x y i j)) else none
  | _, _, _ => none
noncomputable def methS (m x : Str) : List Dat → Option Dat
  | [a] => methS1 m x a
  | [a, b, c] => methS3 m x a b c
  | _ => none
noncomputable def methL1 (m : Str) (ds : List Dat) : Dat → Option Dat
  | .int k => (intsOf ds).bind fun ns => if m = Str.ofString "index" ∧ ns.length ≤ 4096 ∧ k ∈ ns then some (.int (ns.idxOf k : Nat)) else none
  | _ => none
noncomputable def methL (m : Str) (ds : List Dat) : List Dat → Option Dat := oneOf (methL1 m ds)
noncomputable def meth (m : Str) (o : Dat) (as : List Dat) : Option Dat := match o with
  | .str x => methS m x as
  | .list ds => methL m ds as
  | _ => none
noncomputable def builtin1 (f : Str) : Dat → Option Dat
  | .list ds =>
    if f = Str.ofString "len" then (if ds.length ≤ 4096 then some (.int ds.length) else none)
    else if f = Str.ofString "sum" then (intsOf ds).map fun ns => .int ns.sum
    else none
  | .str x =>
    if f = Str.ofString "len" then (if x.length ≤ 4096 then some (.int x.length) else none)
    else if f = Str.ofString "ord" then (match x.cps.toList with | [c] => some (.int c) | _ => none)
    else none
  | .int k => if f = Str.ofString "chr" then (if 0 ≤ k ∧ k ≤ 256 then some (.str ⟨#[k.toNat]⟩) else none) else none
  | _ => none
noncomputable def builtin (f : Str) : List Dat → Option Dat := oneOf (builtin1 f)
structure Orc where
  glob : Str → Option Dat
  fn : Str → List Dat → Option Dat
  fk : Str → List Dat → (Dat → Option Dat) → Option Dat
  sorted : List Dat → (Dat → Option Dat) → Option (List Dat)
  muts : Str → Bool
  capt : Str → Bool
  loc : Str → Bool
  lam : Bool
inductive Flw where
  | nx
  | ret (r : RV)
structure Itp where
  ev : LSt → Expr → Option RV
  exs : LSt → List Stmt → Option (Flw × LSt)
  wh : LSt → Expr → List Stmt → Option (Flw × LSt)
noncomputable def freeOf (capt : Str → Bool) (st : LSt) : List (Str × NameKind) → Option LSt
  | [] => some []
  | p :: r => match p.2 with
    | .free => match st.get p.1 with
      | some .glo => none
      | some l => if capt p.1 then (freeOf capt st r).map ((p.1, l) :: ·) else none
      | none => none
    | .globalImplicit => (freeOf capt st r).map ((p.1, .glo) :: ·)
    | _ => freeOf capt st r
noncomputable def blockOk (capt : Str → Bool) (sc : Scope) (xs : List Str) : Bool := sc.kind == .function && sc.names.all (fun p => p.2 != .cell && sc.names.lookup p.1 == some p.2 && p.1 != Str.ofString "__debug__" && p.1 != Str.ofString "__classdict__") &&
  xs.all fun x => sc.names.lookup x == some .local && !capt x
noncomputable def pick {α : Type} (e : Expr) (d : α) (name : Str → Pos → α := fun _ _ => d) (attr : Expr → Str → Pos → α := fun _ _ _ => d) (sl : Option Expr → Option Expr → Option Expr → Pos → α := fun _ _ _ _ => d) (tup : List Expr → α := fun _ => d)
    (call : Expr → List Expr → List Keyword → Pos → α := fun _ _ _ _ => d) (sub : Expr → Expr → α := fun _ _ => d) (lam : Arguments → Expr → Scope → α := fun _ _ _ => d) (dict : List (Option Expr) → List Expr → α := fun _ _ => d) (cmp : Expr → List CmpOp → List Expr → α := fun _ _ _ => d) (lc : Expr → List Comprehension → Scope → α := fun _ _ _ => d) (bin : Expr → α := fun _ => d) : α := match e with
  | .Name x p => name x p
  | .Attribute o m p => attr o m p
  | .Slice a b c p => sl a b c p
  | .Tuple es _ _ => tup es
  | .Call f as kw p => call f as kw p
  | .Subscript v i _ => sub v i
  | .Lambda a b s _ => lam a b s
  | .Dict ks vs _ => dict ks vs
  | .Compare l ops rs _ => cmp l ops rs
  | .ListComp x g s _ => lc x g s
  | .BinOp _ _ r _ => bin r
  | _ => d
noncomputable def mapO {α β : Type} (f : α → Option β) : List α → Option (List β)
  | [] => some []
  | a :: r => (f a).bind fun b => (mapO f r).bind fun bs => some (b :: bs)
section
variable (O : Orc) (I : Itp)
noncomputable def evD (st : LSt) (e : Expr) : Option Dat := (I.ev st e).bind RV.dat
noncomputable def evV (st : LSt) (e : Expr) : Option Dat := (I.ev st e).bind RV.stv
noncomputable def evI (st : LSt) (e : Expr) : Option Int := (evD I st e).bind intO
noncomputable def evOI (st : LSt) : Option Expr → Option (Option Int)
  | none => some none
  | some e => (evI I st e).map some
noncomputable def cmpR (op : CmpOp) (a : RV) (b : Dat) : Option Bool := match a with
  | .fn _ => (match op, b with | .Is, .none => some false | _, _ => none)
  | .st a => cmpop op a b
  | .cur _ ds => cmpop op (.list ds) b
noncomputable def cmpE (st : LSt) (l : Expr) (op : CmpOp) (r : Expr) : Option Bool := if behindInMarks op r then none else (I.ev st l).bind fun a => (evD I st r).bind fun b => cmpR op a b
noncomputable def andOr (op : BoolOp) (a : Bool) (b : Option Bool) : Option Bool := match op with
  | .And => if a then b else some false
  | .Or => if a then some true else b
noncomputable def tstN : RV → Option Bool
  | .st (.str y) => if y.length ≤ 4096 then some (y.length != 0) else none
  | .st (.bool b) => some b
  | _ => none
noncomputable def tstB : RV → Option Bool
  | .st (.bool b) => some b
  | _ => none
noncomputable def tst0 (st : LSt) (e : Expr) : Option Bool := pick e none (cmp := fun l ops rs => oneOf (fun op => oneOf (cmpE I st l op) rs) ops) (name := fun x p => (I.ev st (.Name x p)).bind tstN) (call := fun f as kw p => (I.ev st (.Call f as kw p)).bind tstB)
noncomputable def tstL (st : LSt) (op : BoolOp) : List Expr → Option Bool
  | [x, y] => (tst0 I st x).bind fun a => andOr op a (tst0 I st y)
  | [x, y, z] => (tst0 I st x).bind fun a => andOr op a ((tst0 I st y).bind fun a => andOr op a (tst0 I st z))
  | _ => none
noncomputable def tst (st : LSt) (e : Expr) : Option Bool := match e with
  | .BoolOp op l _ => tstL I st op l
  | .UnaryOp op x _ => if op = .Not then (tst0 I st x).map fun b => !b else none
  | e => tst0 I st e
noncomputable def plainE (e : Expr) : Bool := e.ctorIdx != 22
noncomputable def plainBase (e : Expr) : Bool := e.ctorIdx == 23 || e.ctorIdx == 19
noncomputable def argsD (st : LSt) (es : List Expr) : Option (List Dat) := if es.all plainE then mapO (evD I st) es else none
noncomputable def argsV (st : LSt) (es : List Expr) : Option (List Dat) := if es.all plainE then mapO (evV I st) es else none
noncomputable def methOk (o : Expr) (apos pos : Pos) (as : List Expr) : Bool := plainBase o && apos.endLine == pos.line && decide (as.length < 20)
noncomputable def isGlo (st : LSt) (f : Str) : Bool := match st.get f with
  | some .glo => true
  | _ => false
noncomputable def nmOf (e : Expr) : Option Str := pick e none (name := fun x _ => some x)
noncomputable def isSetE (e : Expr) : Bool := e.ctorIdx == 7
noncomputable def listO : Dat → Option (List Dat)
  | .list ds => if ds.length ≤ 4096 then some ds else none
  | .str x => if x.length ≤ 4096 then some (signs x) else none
  | _ => none
noncomputable def rangeI (st : LSt) (f : Str) : List Expr → Option (List Dat)
  | [e] => if f = Str.ofString "range" ∧ isGlo st f = true ∧ plainE e = true then (evI I st e).bind fun n => if 0 ≤ n ∧ n ≤ 4096 then some ((List.range n.toNat).map fun i => .int (i : Nat)) else none
      else none
  | [e, e'] => if f = Str.ofString "range" ∧ isGlo st f = true ∧ plainE e = true ∧ plainE e' = true then (evI I st e).bind fun a => (evI I st e').bind fun b => if 0 ≤ a ∧ a ≤ b ∧ b ≤ 4096 then some ((List.range (b - a).toNat).map fun i => .int (a + (i : Nat))) else none
      else none
  | _ => none
noncomputable def callOf (e : Expr) : Option (Str × List Expr) := pick e none (call := fun f as kw _ => if kw.isEmpty then (nmOf f).map fun x => (x, as) else none)
noncomputable def tupOf (e : Expr) : Option (List Expr) := pick e none (tup := some)
noncomputable def itemsOf (g : LSt → Expr → Option Dat) (st : LSt) (e : Expr) : Option (List Dat) := (callOf e).elim
  ((tupOf e).elim (if isSetE e then none else (g st e).bind listO) fun es => if es.length ≤ 64 then argsV I st es else none)
  fun c => rangeI I st c.1 c.2
noncomputable def turnF (f : LSt → Option (List Dat)) (x : Str) (cap : LSt) (ifs : List Expr) (e : Dat) : Option (List Dat) := match ifs with
  | [] => f ((x, LV.val e) :: cap)
  | [t] => (tst I ((x, LV.val e) :: cap) t).bind fun b => if b then f ((x, LV.val e) :: cap) else some []
  | _ => none
noncomputable def compLoop (f : LSt → Option (List Dat)) (x : Str) (cap : LSt) (ifs : List Expr) (ds : List Dat) : Option (List Dat) := (mapO (turnF I f x cap ifs) ds).map List.flatten
noncomputable def comp1 (st : LSt) (elt : Expr) (x : Str) (it : Expr) (ifs : List Expr) (sc : Scope) : Option (List Dat) :=
  if blockOk O.capt sc [x] && decide (ifs.length ≤ 1) then (freeOf O.capt st sc.names).bind fun cap => (itemsOf I (evD I) st it).bind fun ds =>
      (compLoop I (fun st' => (evV I st' elt).map ([·])) x cap ifs ds).bind fun rs => if rs.length ≤ 4096 then some rs else none
    else none
noncomputable def comp2 (st : LSt) (elt : Expr) (x : Str) (it : Expr) (y : Str) (it' : Expr) (sc : Scope) : Option (List Dat) :=
  if blockOk O.capt sc [x, y] && x != y then (freeOf O.capt st sc.names).bind fun cap => (itemsOf I (evD I) st it).bind fun ds =>
      (compLoop I (fun st' => (itemsOf I (evV I) st' it').bind fun es =>
        compLoop I (fun st'' => (evV I st'' elt).map ([·])) y st' [] es) x cap [] ds).bind fun rs => if rs.length ≤ 4096 then some rs else none
    else none
noncomputable def genOf (g : Comprehension) : Option Str := if g.is_async = 0 then nmOf g.target else none
noncomputable def compF (st : LSt) (elt : Expr) (gens : List Comprehension) (sc : Scope) : Option (List Dat) := match gens with
  | [g] => (genOf g).bind fun x => comp1 O I st elt x g.iter g.ifs sc
  | [g, g'] => (genOf g).bind fun x => (genOf g').bind fun y => if g.ifs.isEmpty && g'.ifs.isEmpty then comp2 O I st elt x g.iter y g'.iter sc else none
  | _ => none
noncomputable def slOf (e : Expr) : Option (Option Expr × Option Expr × Option Expr × Pos) := pick e none (sl := fun lo hi step q => some (lo, hi, step, q))
noncomputable def atOf (e : Expr) : Option (Expr × Str × Pos) := pick e none (attr := fun o m ap => some (o, m, ap))
noncomputable def splitM (m : Str) : Dat → Dat → Option (List Dat)
  | .str x, .str y => if m = Str.ofString "split" ∧ 0 < y.length ∧ x.length ≤ 4096 then some ((Txt.split x y).map .str) else none
  | _, _ => none
noncomputable def slcL (st : LSt) (v : Expr) (lo hi : Option Expr) : Option (List Dat) := (evD I st v).bind fun
    | .list ds => (evOI I st lo).bind fun a => (evOI I st hi).bind fun b => if ds.length ≤ 4096 then some (slcD ds a b) else none
    | _ => none
noncomputable def splitF (st : LSt) (o : Expr) (m : Str) (ap p : Pos) : List Expr → Option (List Dat) := oneOf fun e =>
  if methOk o ap p [e] && plainE e then (evD I st o).bind fun od => (evD I st e).bind fun d => splitM m od d else none
noncomputable def evF (st : LSt) : Expr → Option (List Dat)
  | .List es _ => if es.length ≤ 64 then argsV I st es else none
  | .ListComp elt gens sc _ => compF O I st elt gens sc
  | .Subscript v i _ => (slOf i).bind fun q => if q.2.2.1.isNone then slcL I st v q.1 q.2.1 else none
  | .Call f as kw p => (atOf f).bind fun q => if kw.isEmpty then splitF I st q.1 q.2.1 q.2.2 p as else none
  | _ => none
noncomputable def itemE (st : LSt) (v i : Expr) : Option RV := (evD I st v).bind fun
  | .list ds => (evI I st i).bind fun k => (idxAt ds k).bind fun j => (ds[j]?).map .st
  | _ => none
noncomputable def cstO : Const → Option RV
  | .int i => some (.st (.int i))
  | .str x => some (.st (.str x))
  | .bool b => some (.st (.bool b))
  | .none => some (.st .none)
  | _ => none
noncomputable def lvO (x : Str) : LV → Option RV
  | .val d => some (.st d)
  | .own ds => some (.cur x ds)
  | .fn f => some (.fn f)
  | .glo => (O.glob x).map .st
  | .dct _ => none
noncomputable def boolO : Dat → Option Bool
  | .bool b => some b
  | _ => none
noncomputable def slcE (st : LSt) (v : Expr) (lo hi : Option Expr) : Option RV := (evD I st v).bind fun
  | .list ds => (evOI I st lo).bind fun a => (evOI I st hi).bind fun b => if ds.length ≤ 4096 then some (.st (.list (slcD ds a b))) else none
  | .str x => (evOI I st lo).bind fun a => (evOI I st hi).bind fun b => if x.length ≤ 4096 then some (.st (.str (slcS x a b))) else none
  | _ => none
noncomputable def itemN (st : LSt) (v i : Expr) : LV → Option RV
  | .dct es => (evI I st i).bind fun k => (es.lookup k).map fun x => .st (.str x)
  | _ => itemE I st v i
noncomputable def one1 (g : Dat → Option Dat) : List Dat → Option RV := oneOf fun d => (g d).bind fun r => if flatD r then some (.st r) else none
noncomputable def callG (f : Str) (ds : List Dat) : Option RV := (builtin f ds).elim ((O.fn f ds).map .st) fun d => some (.st d)
noncomputable def callN (st : LSt) (f : Str) (as : List Expr) : LV → Option RV
  | .fn g => (argsD I st as).bind (one1 g)
  | .glo => (argsD I st as).bind (callG O f)
  | _ => none
noncomputable def kwOf : List Keyword → Option (Str × Expr)
  | [⟨some kn, v, _⟩] => some (kn, v)
  | _ => none
noncomputable def fnOfL : LV → Option (Dat → Option Dat)
  | .fn f => some f
  | _ => none
noncomputable def callK (st : LSt) (f : Str) (as : List Expr) (k : Str × Expr) : Option RV := if isGlo st f = true ∧ k.1 = Str.ofString "key" then (nmOf k.2).bind fun g => (st.get g).bind fun l => (fnOfL l).bind fun kf => (argsD I st as).bind fun ds => (O.fk f ds kf).map .st else none
noncomputable def evS (st : LSt) : Expr → Option RV
  | .Constant c _ _ => cstO c
  | .Name x _ => (st.get x).bind (lvO O x)
  | .BinOp l op r _ => (evD I st l).bind fun a => (evD I st r).bind fun b => (binop op a b).map .st
  | .UnaryOp op e _ => match op with
    | .USub => (evI I st e).map fun i => .st (.int (-i))
    | _ => none
  | .BoolOp op l _ => match l with
    | [x, y] => ((evD I st x).bind boolO).bind fun a => (andOr op a ((evD I st y).bind boolO)).map fun b => .st (.bool b)
    | _ => none
  | .Compare l ops rs _ => (oneOf (fun op => oneOf (cmpE I st l op) rs) ops).map fun b => .st (.bool b)
  | .Subscript v i _ => (slOf i).elim ((nmOf v).elim (itemE I st v i) fun x => (st.get x).bind (itemN I st v i)) fun q => if q.2.2.1.isNone then slcE I st v q.1 q.2.1 else none
  | .List es _ => if es.length ≤ 64 then (argsV I st es).map fun ds => .st (.list ds) else none
  | .ListComp elt gens sc _ => (compF O I st elt gens sc).map fun ds => .st (.list ds)
  | .Tuple es _ _ => if es.length ≤ 64 then (argsV I st es).map fun ds => .st (.tuple ds) else none
  | .Call f as kw p => (nmOf f).elim ((atOf f).bind fun q => if kw.isEmpty && methOk q.1 q.2.2 p as then (evD I st q.1).bind fun od => (argsD I st as).bind fun ds => (meth q.2.1 od ds).map .st else none)
    fun f => if kw.isEmpty then (st.get f).bind (callN O I st f as) else (kwOf kw).bind (callK O I st f as)
  | _ => none
end
noncomputable def evAt (O : Orc) : Nat → Itp
  | 0 => ⟨fun _ _ => none, fun _ _ => none, fun _ _ _ => none⟩
  | n + 1 => ⟨evS O (evAt O n), fun _ _ => none, fun _ _ _ => none⟩
noncomputable def bare (O : Orc) : Orc := { O with fn := fun _ _ => none, fk := fun _ _ _ => none, sorted := fun _ _ => none }
noncomputable def noFn (st : LSt) : Bool := st.all fun p => match p.2 with
  | .fn _ => false
  | _ => true
noncomputable def argOf (ps : Arguments) : Option Str := oneOf (fun a => if ps.posonlyargs.isEmpty && ps.vararg.isNone && ps.kwonlyargs.isEmpty && ps.kw_defaults.isEmpty && ps.kwarg.isNone && ps.defaults.isEmpty then some a.arg else none) ps.args
noncomputable def lamV (O : Orc) (cap : LSt) (x : Str) (body : Expr) (d : Dat) : Option Dat := if flatD d then evV (evAt (bare O) 20) ((x, .val d) :: cap) body else none
noncomputable def lamG (O : Orc) (st : LSt) (ps : Arguments) (body : Expr) (sc : Scope) : Option (Dat → Option Dat) := (argOf ps).bind fun x => if O.lam && blockOk O.capt sc [x] && !sc.isCoroutine && !sc.isGenerator then (freeOf O.capt st sc.names).bind fun cap => if noFn cap then some (lamV O cap x body) else none
    else none
noncomputable def lamF (O : Orc) (st : LSt) (e : Expr) : Option (Dat → Option Dat) := pick e none (lam := lamG O st)
section
variable (O : Orc) (I : Itp)
noncomputable def isNew (e : Expr) : Bool := e.ctorIdx == 24 || e.ctorIdx == 8 || e.ctorIdx == 21 || e.ctorIdx == 16
noncomputable def isLC (e : Expr) : Option Bool := if e.ctorIdx = 8 then some true else if e.ctorIdx = 9 ∨ e.ctorIdx = 10 then some false else none
noncomputable def ownO : LV → Option (List Dat)
  | .own ds => some ds
  | _ => none
noncomputable def dctO : LV → Option (List (Int × Str))
  | .dct es => some es
  | _ => none
noncomputable def valO : LV → Option Dat
  | .val d => some d
  | _ => none
noncomputable def bindE (st : LSt) (x : Str) (e : Expr) : Option (LV × LSt) :=
  if O.loc x = false then none else if O.muts x then
    if isNew e then (evF O I st e).map fun ds => (.own ds, st)
    else (nmOf e).bind fun y => ((st.get y).bind ownO).map fun ds => (.own ds, st.del y)
  else (isLC e).elim ((evV I st e).map fun d => (.val d, st)) fun b => if b then (evF O I st e).map fun ds => (.val (.list ds), st) else none
noncomputable def bindT (st : LSt) (x : Str) (e : Expr) : Option LV :=
  if (nmOf e).isSome && O.muts x then none else (bindE O I st x e).map (·.1)
noncomputable def swapOk (es : List Expr) : Bool := es.all (foldedForSure 8) || !es.all (constantsAlone 8)
noncomputable def insAt (ds : List Dat) (k : Int) (d : Dat) : List Dat :=
  let j := clipAt ds.length k
  ds.take j ++ d :: ds.drop j
noncomputable def methOf (e : Expr) : Option (Str × Pos × Str × Pos × List Expr × Pos) := pick e none (call := fun f as kw q => if kw.isEmpty then (atOf f).bind fun a => pick a.1 none (name := fun x xp => some (x, xp, a.2.1, a.2.2, as, q)) else none)
noncomputable def dict2 : List (Option Expr) → List Expr → Option (Expr × Expr × Expr × Expr)
  | [some k₁, some k₂], [v₁, v₂] => some (k₁, v₁, k₂, v₂)
  | _, _ => none
noncomputable def dictOf (e : Expr) : Option (Expr × Expr × Expr × Expr) := pick e none (dict := dict2)
noncomputable def isLam (e : Expr) : Bool := pick e false (lam := fun _ _ _ => true)
noncomputable def keyOf (e : Expr) : Option (Str × List Expr × Expr) := pick e none (call := fun f as kw _ => (nmOf f).bind fun f => (kwOf kw).bind fun k => if isLam k.2 then (if k.1 = Str.ofString "key" then some (f, as, k.2) else none) else none)
noncomputable def asgPop (st : LSt) (y x : Str) (xp : Pos) (m : Str) (ap q : Pos) : Option (Flw × LSt) :=
  if m = Str.ofString "pop" ∧ methOk (.Name x xp) ap q [] = true ∧ O.loc y = true then ((st.get x).bind ownO).bind fun ds => ds.getLast?.bind fun d => if ds.length ≤ 4096 then some (.nx, (st.put x (.own ds.dropLast)).put y (.val d)) else none
  else none
noncomputable def asgDict (st : LSt) (y : Str) (k₁ v₁ k₂ v₂ : Expr) : Option (Flw × LSt) :=
  (evI I st k₁).bind fun a => ((evV I st v₁).bind strO).bind fun x => (evI I st k₂).bind fun b => ((evV I st v₂).bind strO).bind fun z =>
    if a = b ∨ O.loc y = false then none else some (.nx, st.put y (.dct [(a, x), (b, z)]))
noncomputable def asgLam (st : LSt) (y f : Str) (as : List Expr) (l : Expr) : Option (Flw × LSt) :=
  if O.loc y = true ∧ isGlo st f = true ∧ as.isEmpty = false then (argsD I st as).bind fun ds => (lamF O st l).bind fun g => ((O.fk f ds g).bind intO).map fun k => (.nx, st.put y (.val (.int k)))
  else none
noncomputable def asgN (st : LSt) (y : Str) (e : Expr) : Option (Flw × LSt) := (bindE O I st y e).map fun r => (.nx, r.2.put y r.1)
noncomputable def asg1 (st : LSt) (y : Str) (e : Expr) : Option (Flw × LSt) := (methOf e).elim ((dictOf e).elim ((keyOf e).elim (asgN O I st y e) fun c => asgLam O I st y c.1 c.2.1 c.2.2) fun c => asgDict O I st y c.1 c.2.1 c.2.2.1 c.2.2.2)
  fun c => if c.2.2.2.2.1.isEmpty then asgPop O st y c.1 c.2.1 c.2.2.1 c.2.2.2.1 c.2.2.2.2.2 else asgN O I st y e
noncomputable def asgItem (st : LSt) (x : Str) (i e : Expr) : Option (Flw × LSt) := (evV I st e).bind fun d => (st.get x).bind fun
    | .own ds => (evI I st i).bind fun k => if k < 0 then (idxAt ds k).bind fun j => some (.nx, st.put x (.own (ds.set j d))) else none
    | .dct es => (evI I st i).bind fun k => (strO d).bind fun y => if (es.lookup k).isNone && es.length ≤ 64 then some (.nx, st.put x (.dct (es ++ [(k, y)]))) else none
    | _ => none
noncomputable def asg2 (st : LSt) (x y : Str) (e₁ e₂ : Expr) : Option (Flw × LSt) :=
    if x = y ∨ ¬ ([e₁, e₂].all plainE ∧ swapOk [e₁, e₂]) then none else (bindT O I st x e₁).bind fun r => (bindT O I st y e₂).bind fun q => some (.nx, (st.put x r).put y q)
noncomputable def asg3 (st : LSt) (x y z : Str) (e₁ e₂ e₃ : Expr) : Option (Flw × LSt) :=
    if x = y ∨ x = z ∨ y = z ∨ ¬ ([e₁, e₂, e₃].all plainE ∧ swapOk [e₁, e₂, e₃]) then none else (bindT O I st x e₁).bind fun r => (bindT O I st y e₂).bind fun q => (bindT O I st z e₃).bind fun u => some (.nx, ((st.put x r).put y q).put z u)
noncomputable def asgT (st : LSt) : List Expr → List Expr → Option (Flw × LSt)
  | [a, b], [e₁, e₂] => (nmOf a).bind fun x => (nmOf b).bind fun y => asg2 O I st x y e₁ e₂
  | [a, b, c], [e₁, e₂, e₃] => (nmOf a).bind fun x => (nmOf b).bind fun y => (nmOf c).bind fun z => asg3 O I st x y z e₁ e₂ e₃
  | _, _ => none
noncomputable def subOf (e : Expr) : Option (Str × Expr) := pick e none (sub := fun v i => (nmOf v).map fun x => (x, i))
noncomputable def exAsg (st : LSt) (e : Expr) : List Expr → Option (Flw × LSt) := oneOf fun t => (nmOf t).elim ((tupOf t).elim ((subOf t).bind fun c => asgItem I st c.1 c.2 e) fun ts => (tupOf e).bind (asgT O I st ts)) fun y => asg1 O I st y e
noncomputable def augL (st : LSt) (x : Str) (op : Operator) (e : Expr) (ds : List Dat) : Option (Flw × LSt) := match op with
  | .Add => (evD I st e).bind (fun
    | .list es => if ds.length + es.length ≤ 4096 then some (.nx, st.put x (.own (ds ++ es))) else none
    | _ => none)
  | _ => none
noncomputable def exAug (st : LSt) (x : Str) (op : Operator) (e : Expr) : Option (Flw × LSt) := if O.loc x = false then none else (st.get x).bind fun
    | .val a => (evD I st e).bind fun b => (augop op a b).map fun d => (.nx, st.put x (.val d))
    | .own ds => augL I st x op e ds
    | _ => none
noncomputable def stO : RV → Option Dat
  | .st d => some d
  | _ => none
noncomputable def chgL (st : LSt) (x m : Str) (ds : List Dat) : List Expr → Option (Flw × LSt)
  | [e] => ((I.ev st e).bind stO).bind fun d => if m = Str.ofString "append" ∧ ds.length ≤ 4096 then some (.nx, st.put x (.own (ds ++ [d]))) else none
  | [i, e] => (evI I st i).bind fun k => (evV I st e).bind fun d =>
    if m = Str.ofString "insert" ∧ ds.length ≤ 4096 ∧ 0 ≤ k ∧ k ≤ ds.length then some (.nx, st.put x (.own (insAt ds k d))) else none
  | _ => none
noncomputable def insK (st : LSt) (x : Str) (e e₁ e₂ l : Expr) : Option (Flw × LSt) :=
  ((st.get x).bind ownO).bind fun ds => (evV I st e).bind fun d => (evI I st e₁).bind fun lo => (evI I st e₂).bind fun hi => (lamF O st l).bind fun g =>
    (g d).bind fun kd => if flatD kd = false then none else ((O.fk (Str.ofString "bisect_left") [.list ds, kd, .int lo, .int hi] g).bind intO).bind fun k =>
      if ds.length ≤ 4095 ∧ 0 ≤ k ∧ k ≤ ds.length then some (.nx, st.put x (.own (insAt ds k d))) else none
noncomputable def exIns (st : LSt) (f : Str) (l : Expr) : List Expr → Option (Flw × LSt)
  | [a, e, e₁, e₂] => (nmOf a).bind fun x => if f = Str.ofString "insort_left" ∧ [e, e₁, e₂].all plainE = true ∧ isGlo st f = true then insK O I st x e e₁ e₂ l else none
  | _ => none
noncomputable def exExp (st : LSt) (e : Expr) : Option (Flw × LSt) := (methOf e).elim ((keyOf e).bind fun c => exIns O I st c.1 c.2.2 c.2.1)
  fun c => if methOk (.Name c.1 c.2.1) c.2.2.2.1 c.2.2.2.2.2 c.2.2.2.2.1 && c.2.2.2.2.1.all plainE then ((st.get c.1).bind ownO).bind fun ds => chgL I st c.1 c.2.2.1 ds c.2.2.2.2.1 else none
noncomputable def exDel (st : LSt) : List Expr → Option (Flw × LSt) := oneOf fun t => (subOf t).bind fun c => ((st.get c.1).bind ownO).bind fun ds => (evI I st c.2).bind fun k => (idxAt ds k).bind fun j => some (.nx, st.put c.1 (.own (ds.eraseIdx j)))
noncomputable def srtG (l : Expr) : List CmpOp → List Expr → Option (Expr × Str × Expr × Expr)
  | [op], [r] => if op = .NotEq then (keyOf r).bind fun c => oneOf (fun e => some (l, c.1, e, c.2.2)) c.2.1 else none
  | _, _ => none
noncomputable def srtOf (e : Expr) : Option (Expr × Str × Expr × Expr) := pick e none (cmp := srtG)
noncomputable def tstSrt (st : LSt) (l : Expr) (f : Str) (e lam : Expr) : Option Bool :=
  if f = Str.ofString "sorted" ∧ isGlo st f = true ∧ plainE e = true then (evD I st l).bind fun a => (evD I st e).bind fun
      | .list ds => (lamF O st lam).bind fun g => (O.sorted ds g).bind fun es => cmpop .NotEq a (.list es)
      | _ => none
    else none
noncomputable def tstX (st : LSt) (t : Expr) : Option Bool := (srtOf t).elim (tst I st t) fun c => tstSrt O I st c.1 c.2.1 c.2.2.1 c.2.2.2
noncomputable def exOne (st : LSt) : Stmt → Option (Flw × LSt)
  | .Assign ts e _ => exAsg O I st e ts
  | .AugAssign t op e _ => (nmOf t).bind fun x => exAug O I st x op e
  | .Expr e _ => exExp O I st e
  | .Delete ts _ => exDel I st ts
  | .If t b o _ => (tstX O I st t).bind fun c => if c then I.exs st b else I.exs st o
  | .While t b o _ => if o.isEmpty then I.wh st t b else none
  | .Return e _ => e.bind fun e => (I.ev st e).map fun r => (.ret r, st)
  | .Assert t _ _ => (tst I st t).bind fun c => if c then some (.nx, st) else none
  | _ => none
noncomputable def forLoop (x : Str) (b : List Stmt) : LSt → List Dat → Option (Flw × LSt)
  | st, [] => some (.nx, st)
  | st, d :: r => (I.exs (st.put x (.val d)) b).bind fun
    | (.nx, st') => forLoop x b st' r
    | (.ret v, st') => some (.ret v, st')
noncomputable def frz (st : LSt) (e : Expr) : LSt := (nmOf e).elim st fun x => ((st.get x).bind ownO).elim st fun ds => st.put x (.val (.list ds))
noncomputable def exFor (st : LSt) (x : Str) (it : Expr) (b : List Stmt) : Option (Flw × LSt) := if O.loc x = false then none else (itemsOf I (evV I) (frz st it) it).bind fun ds => forLoop I x b (frz st it) ds
noncomputable def forOf : Stmt → Option (Str × Expr × List Stmt)
  | .For t it b o _ => if o.isEmpty then (nmOf t).map fun x => (x, it, b) else none
  | _ => none
noncomputable def exS (st : LSt) (s : Stmt) : Option (Flw × LSt) := (forOf s).elim (exOne O I st s) fun c => exFor O I st c.1 c.2.1 c.2.2
noncomputable def exsS (st : LSt) : List Stmt → Option (Flw × LSt)
  | [] => some (.nx, st)
  | s :: r => (exS O I st s).bind fun
    | (.nx, st') => I.exs st' r
    | (.ret v, st') => some (.ret v, st')
noncomputable def whS (st : LSt) (t : Expr) (b : List Stmt) : Option (Flw × LSt) :=
  (tst I st t).bind fun c => if c then (I.exs st b).bind fun
    | (.nx, st') => I.wh st' t b
    | (.ret v, st') => some (.ret v, st')
  else some (.nx, st)
end
noncomputable def Itp.step (O : Orc) (I : Itp) : Itp := ⟨evS O I, exsS O I, whS I⟩
noncomputable def Itp.at (O : Orc) : Nat → Itp
  | 0 => ⟨fun _ _ => none, fun _ _ => none, fun _ _ _ => none⟩
  | n + 1 => (Itp.at O n).step O
end Mine
end

section
open PySem PySem.W PyProof.Rows Builtin.Str
set_option linter.unusedVariables false
namespace Mine
section
variable {α β : Type} {P : Prop}
theorem noE {r : α} (q : (none : Option α) = some r) : P := nomatch q
theorem sE {a b : α} {M : α → Prop} (q : some a = some b) (k : M a) : M b := by cases q; exact k
theorem bE {x : Option α} {f : α → Option β} {r : β} (q : x.bind f = some r) (k : ∀ a, x = some a → f a = some r → P) : P := by
  cases x with
  | none => exact noE q
  | some a => exact k a rfl q
theorem mE {x : Option α} {f : α → β} {r : β} {M : β → Prop} (q : x.map f = some r) (k : ∀ a, x = some a → M (f a)) : M r := by
  cases x with
  | none => exact noE q
  | some a => exact sE q (k a rfl)
theorem iE {c : Prop} [Decidable c] {x : Option α} {r : α} (q : (if c then x else none) = some r) (k : c → x = some r → P) : P := by
  by_cases h : c
  · rw [if_pos h] at q; exact k h q
  · rw [if_neg h] at q; exact noE q
theorem nE {c : Prop} [Decidable c] {x : Option α} {r : α} (q : (if c then none else x) = some r) (k : ¬ c → x = some r → P) : P := by
  by_cases h : c
  · rw [if_pos h] at q; exact noE q
  · rw [if_neg h] at q; exact k h q
theorem iS {c : Prop} [Decidable c] {a b : α} {M : α → Prop} (q : (if c then some a else none) = some b) (k : c → M a) : M b := iE q fun h q => sE q (k h)
theorem oE {c : Prop} [Decidable c] {x y : Option α} {r : α} (q : (if c then x else y) = some r) (k : c → x = some r → P) (k' : ¬ c → y = some r → P) : P := by
  by_cases h : c
  · rw [if_pos h] at q; exact k h q
  · rw [if_neg h] at q; exact k' h q
theorem oM {x : Option α} {f : α → Option β} {g : Option β} {r : β} (q : x.elim g f = some r) (k : ∀ a, x = some a → f a = some r → P) (k' : x = none → g = some r → P) : P := by
  cases x with
  | none => exact k' rfl q
  | some a => exact k a rfl q
end
theorem one_E {α β : Type} {l : List α} {f : α → Option β} {r : β} {M : List α → Prop} (q : oneOf f l = some r) (k : ∀ a, f a = some r → M [a]) : M l := by
  cases l with
  | nil => exact noE q
  | cons a l => cases l with
    | nil => exact k a q
    | cons _ _ => exact noE q
theorem int_eq {x : Option Dat} {i : Int} (q : x.bind intO = some i) : x = some (.int i) := bE q fun a ha q => by rw [ha]; cases a <;> first | exact noE q | (cases q; rfl)
theorem bool_eq {x : Option Dat} {i : Bool} (q : x.bind boolO = some i) : x = some (.bool i) := bE q fun a ha q => by rw [ha]; cases a <;> first | exact noE q | (cases q; rfl)
theorem str_eq {x : Option Dat} {i : Str} (q : x.bind strO = some i) : x = some (.str i) := bE q fun a ha q => by rw [ha]; cases a <;> first | exact noE q | (cases q; rfl)
theorem own_eq {x : Option LV} {i : List Dat} (q : x.bind ownO = some i) : x = some (.own i) := bE q fun a ha q => by rw [ha]; cases a <;> first | exact noE q | (cases q; rfl)
theorem st_eq {x : Option RV} {i : Dat} (q : x.bind stO = some i) : x = some (.st i) := bE q fun a ha q => by rw [ha]; cases a <;> first | exact noE q | (cases q; rfl)
theorem glo_eq {st : LSt} {f : Str} (q : isGlo st f = true) : st.get f = some .glo := by
  unfold isGlo at q
  cases h : st.get f with
  | none => rw [h] at q; cases q
  | some l => rw [h] at q; cases l <;> first | rfl | cases q
section
variable {M : Dat → Dat → Dat → Prop} {a b r : Dat}
theorem ii_E {f : Int → Int → Option Dat} (q : ii f a b = some r) (k : ∀ x y, f x y = some r → M (.int x) (.int y) r) : M a b r := by
  cases a with
  | int x => cases b with
    | int y => exact k x y q
    | _ => exact noE q
  | _ => exact noE q
theorem addN_E (q : addN a b = some r) (k1 : ∀ x y, M (.int x) (.int y) (.int (x + y))) (k2 : ∀ x y, x.length + y.length ≤ 4096 → M (.str x) (.str y) (.str (x ++ y))) : M a b r := by
  cases a with
  | int x => cases b with
    | int y => exact sE q (k1 x y)
    | _ => exact noE q
  | str x => cases b with
    | str y => exact iS q (k2 x y)
    | _ => exact noE q
  | _ => exact noE q
theorem addD_E (q : addD a b = some r) (k1 : ∀ x y, M (.int x) (.int y) (.int (x + y))) (k2 : ∀ x y, x.length + y.length ≤ 4096 → M (.str x) (.str y) (.str (x ++ y)))
    (k3 : ∀ x y, x.length + y.length ≤ 4096 → M (.list x) (.list y) (.list (x ++ y))) : M a b r := by
  cases a with
  | list x => cases b with
    | list y => exact iS q (k3 x y)
    | _ => exact noE q
  | _ => exact addN_E q k1 k2
end
section
variable {M : Dat → Dat → Bool → Prop} {a b : Dat} {r : Bool}
theorem cmpI_E {f : Int → Int → Bool} (q : cmpI f a b = some r) (k : ∀ x y, M (.int x) (.int y) (f x y)) : M a b r := by
  cases a with
  | int x => cases b with
    | int y => exact sE q (k x y)
    | _ => exact noE q
  | _ => exact noE q
theorem cmpLt_E (q : cmpLt a b = some r) (k1 : ∀ x y, M (.int x) (.int y) (decide (x < y))) (k2 : ∀ x y, M (.str x) (.str y) (decide (x.cps.toList < y.cps.toList))) : M a b r := by
  cases a with
  | int x => cases b with
    | int y => exact sE q (k1 x y)
    | _ => exact noE q
  | str x => cases b with
    | str y => exact sE q (k2 x y)
    | _ => exact noE q
  | _ => exact noE q
theorem cmpEq_E (q : cmpEq a b = some r) (k1 : ∀ x y, M (.int x) (.int y) (decide (x = y))) (k2 : ∀ x y, M (.str x) (.str y) (decide (x = y))) (k3 : ∀ x y, okL x = true → okL y = true → M (.list x) (.list y) (deq 8 (.list x) (.list y))) : M a b r := by
  cases a with
  | int x => cases b with
    | int y => exact sE q (k1 x y)
    | _ => exact noE q
  | str x => cases b with
    | str y => exact sE q (k2 x y)
    | _ => exact noE q
  | list x => cases b with
    | list y => exact iS q fun h => k3 x y (Bool.and_eq_true_iff.mp h).1 (Bool.and_eq_true_iff.mp h).2
    | _ => exact noE q
  | _ => exact noE q
theorem cmpInL_E (q : cmpInL a b = some r) (k : ∀ x, okD 6 a = true → okL x = true → M a (.list x) (x.any (deq 8 a))) : M a b r := by
  cases b with
  | list x => exact iS q fun h => k x (Bool.and_eq_true_iff.mp h).1 (Bool.and_eq_true_iff.mp h).2
  | _ => exact noE q
theorem cmpIn_E (q : cmpIn a b = some r) (k1 : ∀ x y, M (.str x) (.str y) (strIn x y)) (k2 : ∀ a x, okD 6 a = true → okL x = true → M a (.list x) (x.any (deq 8 a))) : M a b r := by
  cases a with
  | str x => cases b with
    | str y => exact sE q (k1 x y)
    | _ => exact cmpInL_E q (k2 _)
  | _ => exact cmpInL_E q (k2 _)
theorem cmpIsB_E {b : Bool} {M : Dat → Bool → Prop} (q : cmpIsB a b = some r) (k : ∀ x, M (.bool x) (x == b)) : M a r := by
  cases a with
  | bool x => exact sE q (k x)
  | _ => exact noE q
theorem notO_eq {x : Option Bool} (q : notO x = some r) : x = some !r := by
  cases x with
  | none => exact noE q
  | some b => cases q; exact congrArg some (Bool.not_not b).symm
end
section
variable {m x : Str} {r : Dat}
theorem methS_E {ds : List Dat} {M : List Dat → Prop} (q : methS m x ds = some r) (k1 : ∀ d, methS1 m x d = some r → M [d]) (k3 : ∀ a b c, methS3 m x a b c = some r → M [a, b, c]) : M ds := by
  cases ds with
  | nil => exact noE q
  | cons a ds => cases ds with
    | nil => exact k1 a q
    | cons b ds => cases ds with
      | nil => exact noE q
      | cons c ds => cases ds with
        | nil => exact k3 a b c q
        | cons _ _ => exact noE q
theorem methS3_E {a b c : Dat} {M : Dat → Dat → Dat → Prop} (q : methS3 m x a b c = some r) (k : ∀ y i j, m = Str.ofString "find" → r = .int (find4 x y i j) → M (.str y) (.int i) (.int j)) : M a b c := by
  cases a with
  | str y => cases b with
    | int i => cases c with
      | int j => exact iE q fun h q => k y i j h.1 (Option.some.inj q).symm
      | _ => exact noE q
    | _ => exact noE q
  | _ => exact noE q
end
theorem pick_cases {M : Expr → Prop} (e : Expr) (n : ∀ x p, M (.Name x p)) (a : ∀ o m p, M (.Attribute o m p)) (s : ∀ a b c p, M (.Slice a b c p)) (t : ∀ es k p, M (.Tuple es k p)) (c : ∀ f as kw p, M (.Call f as kw p)) (u : ∀ v i p, M (.Subscript v i p)) (l : ∀ a b s p, M (.Lambda a b s p)) (i : ∀ ks vs p, M (.Dict ks vs p)) (m : ∀ l ops rs p, M (.Compare l ops rs p))
    (o : (∀ {α : Type} (d : α) n a s t c u l i m, pick e d n a s t c u l i m = d) → M e) : M e := by
  cases e <;> first | exact n _ _ | exact a _ _ _ | exact s _ _ _ _ | exact t _ _ _ | exact c _ _ _ _ | exact u _ _ _ | exact l _ _ _ _ | exact i _ _ _ | exact m _ _ _ _ | exact o fun _ _ _ _ _ _ _ _ _ _ => rfl
section
variable {e : Expr} {M : Expr → Prop} {α : Type} {c : α}
theorem pName {f : Str → Pos → Option α} (q : pick e none (name := f) = some c) (k : ∀ x p, f x p = some c → M (.Name x p)) : M e := by
  revert q
  refine pick_cases (M := fun e => pick e none (name := f) = some c → M e) e (fun x p q => k x p q) ?_ ?_ ?_ ?_ ?_ ?_ ?_ ?_ (fun h q => noE ((h _ _ _ _ _ _ _ _ _ _).symm.trans q)) <;> (intros; rename_i q; exact noE q)
theorem pAttr {f : Expr → Str → Pos → Option α} (q : pick e none (attr := f) = some c) (k : ∀ x y p, f x y p = some c → M (.Attribute x y p)) : M e := by
  revert q
  refine pick_cases (M := fun e => pick e none (attr := f) = some c → M e) e ?_ (fun x y p q => k x y p q) ?_ ?_ ?_ ?_ ?_ ?_ ?_ (fun h q => noE ((h _ _ _ _ _ _ _ _ _ _).symm.trans q)) <;> (intros; rename_i q; exact noE q)
theorem pSl {f : Option Expr → Option Expr → Option Expr → Pos → Option α} (q : pick e none (sl := f) = some c) (k : ∀ x y z p, f x y z p = some c → M (.Slice x y z p)) : M e := by
  revert q
  refine pick_cases (M := fun e => pick e none (sl := f) = some c → M e) e ?_ ?_ (fun x y z p q => k x y z p q) ?_ ?_ ?_ ?_ ?_ ?_ (fun h q => noE ((h _ _ _ _ _ _ _ _ _ _).symm.trans q)) <;> (intros; rename_i q; exact noE q)
theorem pTup {f : List Expr → Option α} (q : pick e none (tup := f) = some c) (k : ∀ x n p, f x = some c → M (.Tuple x n p)) : M e := by
  revert q
  refine pick_cases (M := fun e => pick e none (tup := f) = some c → M e) e ?_ ?_ ?_ (fun x n p q => k x n p q) ?_ ?_ ?_ ?_ ?_ (fun h q => noE ((h _ _ _ _ _ _ _ _ _ _).symm.trans q)) <;> (intros; rename_i q; exact noE q)
theorem pCall {f : Expr → List Expr → List Keyword → Pos → Option α} (q : pick e none (call := f) = some c) (k : ∀ x y z p, f x y z p = some c → M (.Call x y z p)) : M e := by
  revert q
  refine pick_cases (M := fun e => pick e none (call := f) = some c → M e) e ?_ ?_ ?_ ?_ (fun x y z p q => k x y z p q) ?_ ?_ ?_ ?_ (fun h q => noE ((h _ _ _ _ _ _ _ _ _ _).symm.trans q)) <;> (intros; rename_i q; exact noE q)
theorem pSub {f : Expr → Expr → Option α} (q : pick e none (sub := f) = some c) (k : ∀ x y p, f x y = some c → M (.Subscript x y p)) : M e := by
  revert q
  refine pick_cases (M := fun e => pick e none (sub := f) = some c → M e) e ?_ ?_ ?_ ?_ ?_ (fun x y p q => k x y p q) ?_ ?_ ?_ (fun h q => noE ((h _ _ _ _ _ _ _ _ _ _).symm.trans q)) <;> (intros; rename_i q; exact noE q)
theorem pLam {f : Arguments → Expr → Scope → Option α} (q : pick e none (lam := f) = some c) (k : ∀ x y z p, f x y z = some c → M (.Lambda x y z p)) : M e := by
  revert q
  refine pick_cases (M := fun e => pick e none (lam := f) = some c → M e) e ?_ ?_ ?_ ?_ ?_ ?_ (fun x y z p q => k x y z p q) ?_ ?_ (fun h q => noE ((h _ _ _ _ _ _ _ _ _ _).symm.trans q)) <;> (intros; rename_i q; exact noE q)
theorem pDict {f : List (Option Expr) → List Expr → Option α} (q : pick e none (dict := f) = some c) (k : ∀ x y p, f x y = some c → M (.Dict x y p)) : M e := by
  revert q
  refine pick_cases (M := fun e => pick e none (dict := f) = some c → M e) e ?_ ?_ ?_ ?_ ?_ ?_ ?_ (fun x y p q => k x y p q) ?_ (fun h q => noE ((h _ _ _ _ _ _ _ _ _ _).symm.trans q)) <;> (intros; rename_i q; exact noE q)
theorem pCmp {f : Expr → List CmpOp → List Expr → Option α} (q : pick e none (cmp := f) = some c) (k : ∀ x y z p, f x y z = some c → M (.Compare x y z p)) : M e := by
  revert q
  refine pick_cases (M := fun e => pick e none (cmp := f) = some c → M e) e ?_ ?_ ?_ ?_ ?_ ?_ ?_ ?_ (fun x y z p q => k x y z p q) (fun h q => noE ((h _ _ _ _ _ _ _ _ _ _).symm.trans q)) <;> (intros; rename_i q; exact noE q)
end
section
variable {e : Expr} {M : Expr → Prop}
theorem nmOf_E {x : Str} (q : nmOf e = some x) (k : ∀ p, M (.Name x p)) : M e := pName q fun y p q => sE (M := fun x => (∀ p, M (.Name x p)) → M (.Name y p)) q (fun k => k p) k
theorem atOf_E {c : Expr × Str × Pos} (q : atOf e = some c) (k : M (.Attribute c.1 c.2.1 c.2.2)) : M e := pAttr q fun o m p q => sE (M := fun c => M (.Attribute c.1 c.2.1 c.2.2) → M (.Attribute o m p)) q id k
theorem slOf_E {c : Option Expr × Option Expr × Option Expr × Pos} (q : slOf e = some c) (k : M (.Slice c.1 c.2.1 c.2.2.1 c.2.2.2)) : M e := pSl q fun a b d p q => sE (M := fun c => M (.Slice c.1 c.2.1 c.2.2.1 c.2.2.2) → M (.Slice a b d p)) q id k
theorem slOf_no (q : slOf e = none) : ∀ lo hi st p, e ≠ .Slice lo hi st p := fun _ _ _ _ h => by rw [h] at q; exact noE q.symm
theorem tupOf_E {c : List Expr} (q : tupOf e = some c) (k : ∀ n p, M (.Tuple c n p)) : M e := pTup q fun es n p q => sE (M := fun c => (∀ n p, M (.Tuple c n p)) → M (.Tuple es n p)) q (fun k => k n p) k
theorem nil_E {α : Type} {l : List α} {M : List α → Prop} (q : l.isEmpty = true) (k : M []) : M l := by
  cases l with
  | nil => exact k
  | cons _ _ => cases q
theorem kwOf_E {l : List Keyword} {c : Str × Expr} {M : List Keyword → Prop} (q : kwOf l = some c) (k : ∀ p, M [⟨some c.1, c.2, p⟩]) : M l := by
  cases l with
  | nil => exact noE q
  | cons a l => cases l with
    | cons _ _ => cases a with | mk n v p => cases n <;> exact noE q
    | nil => cases a with | mk n v p => cases n with
      | none => exact noE q
      | some n => cases q; exact k p
theorem callOf_E {c : Str × List Expr} (q : callOf e = some c) (k : ∀ p p', M (.Call (.Name c.1 p) c.2 [] p')) : M e := pCall q fun f as kw p' q => iE q fun h q => nil_E (M := fun kw => M (.Call f as kw p')) h
  (mE (M := fun c => (∀ p p', M (.Call (.Name c.1 p) c.2 [] p')) → M (.Call f as [] p')) q (fun x hx k => nmOf_E (M := fun f => M (.Call f as [] p')) hx fun p => k p p') k)
theorem subOf_E {c : Str × Expr} (q : subOf e = some c) (k : ∀ p p', M (.Subscript (.Name c.1 p) c.2 p')) : M e := pSub q fun v i p' q =>
  mE (M := fun c => (∀ p p', M (.Subscript (.Name c.1 p) c.2 p')) → M (.Subscript v i p')) q (fun x hx k => nmOf_E (M := fun v => M (.Subscript v i p')) hx fun p => k p p') k
theorem methOf_E {c : Str × Pos × Str × Pos × List Expr × Pos} (q : methOf e = some c) (k : M (.Call (.Attribute (.Name c.1 c.2.1) c.2.2.1 c.2.2.2.1) c.2.2.2.2.1 [] c.2.2.2.2.2)) : M e := pCall q fun f as kw p' q => iE q fun h q => nil_E (M := fun kw => M (.Call f as kw p')) h
  (bE q fun a ha q => atOf_E (M := fun f => M (.Call f as [] p')) ha (pName (M := fun v => M (.Call (.Attribute v a.2.1 a.2.2) as [] p')) q fun x xp q =>
    sE (M := fun c => M (.Call (.Attribute (.Name c.1 c.2.1) c.2.2.1 c.2.2.2.1) c.2.2.2.2.1 [] c.2.2.2.2.2) → M (.Call (.Attribute (.Name x xp) a.2.1 a.2.2) as [] p')) q id k))
theorem isLam_E (q : isLam e = true) (k : ∀ a b s p, M (.Lambda a b s p)) : M e := by
  revert q
  refine pick_cases (M := fun e => isLam e = true → M e) e ?_ ?_ ?_ ?_ ?_ ?_ (fun a b s p _ => k a b s p) ?_ ?_ (fun h q => Bool.noConfusion ((h _ _ _ _ _ _ _ _ _ _).symm.trans q)) <;> (intros; rename_i q; exact Bool.noConfusion (show false = true from q))
theorem keyOf_E {c : Str × List Expr × Expr} (q : keyOf e = some c) (k : ∀ p p' p'', isLam c.2.2 = true → M (.Call (.Name c.1 p) c.2.1 [⟨some (Str.ofString "key"), c.2.2, p'⟩] p'')) : M e := pCall q fun f as kw p'' q =>
  bE q fun x hx q => bE q fun y hy q => iE q fun hl q => iE q fun hk q => nmOf_E (M := fun f => M (.Call f as kw p'')) hx fun p => kwOf_E (M := fun kw => M (.Call (.Name x p) as kw p'')) hy fun p' => by
    rw [hk]
    exact sE (M := fun (c : Str × List Expr × Expr) => (∀ p p' p'', isLam c.2.2 = true → M (.Call (.Name c.1 p) c.2.1 [⟨some (Str.ofString "key"), c.2.2, p'⟩] p'')) → M (.Call (.Name x p) as [⟨some (Str.ofString "key"), y.2, p'⟩] p'')) q (fun k => k p p' p'' hl) k
theorem dict2_E {ks : List (Option Expr)} {vs : List Expr} {c : Expr × Expr × Expr × Expr} {M : List (Option Expr) → List Expr → Prop} (q : dict2 ks vs = some c) (k : M [some c.1, some c.2.2.1] [c.2.1, c.2.2.2]) : M ks vs := by
  cases ks with
  | nil => exact noE q
  | cons a ks => cases a with
    | none => exact noE q
    | some a => cases ks with
      | nil => exact noE q
      | cons b ks => cases b with
        | none => exact noE q
        | some b => cases ks with
          | cons _ _ => exact noE q
          | nil => cases vs with
            | nil => exact noE q
            | cons v vs => cases vs with
              | nil => exact noE q
              | cons w vs => cases vs with
                | cons _ _ => exact noE q
                | nil => cases q; exact k
theorem dictOf_E {c : Expr × Expr × Expr × Expr} (q : dictOf e = some c) (k : ∀ p, M (.Dict [some c.1, some c.2.2.1] [c.2.1, c.2.2.2] p)) : M e := pDict q fun ks vs p q => dict2_E (M := fun ks vs => M (.Dict ks vs p)) q (k p)
theorem argOf_E {ps : Arguments} {x : Str} {M : Arguments → Prop} (q : argOf ps = some x) (k : ∀ a p, M ⟨[], [⟨x, a, p⟩], none, [], [], none, []⟩) : M ps := by
  obtain ⟨p1, p2, p3, p4, p5, p6, p7⟩ := ps
  refine one_E (M := fun p2 => M ⟨p1, p2, p3, p4, p5, p6, p7⟩) q fun a q => iE q fun h q => ?_
  simp only [Bool.and_eq_true, List.isEmpty_iff, Option.isNone_iff_eq_none] at h
  obtain ⟨⟨⟨⟨⟨rfl, rfl⟩, rfl⟩, rfl⟩, rfl⟩, rfl⟩ := h
  cases q
  cases a
  exact k _ _
theorem genOf_E {g : Comprehension} {x : Str} {M : Comprehension → Prop} (q : genOf g = some x) (k : ∀ p, M ⟨.Name x p, g.iter, g.ifs, 0⟩) : M g := by
  obtain ⟨t, it, ifs, n⟩ := g
  exact iE q fun h q => by
    simp only at h
    subst h
    exact nmOf_E (M := fun t => M ⟨t, it, ifs, 0⟩) q k
end
theorem forOf_E {s : Stmt} {c : Str × Expr × List Stmt} {M : Stmt → Prop} (q : forOf s = some c) (k : ∀ p p', M (.For (.Name c.1 p) c.2.1 c.2.2 [] p')) : M s := by
  cases s with
  | For t it b o p' =>
    refine iE q fun ho q => ?_
    rw [List.isEmpty_iff] at ho
    subst ho
    exact mE (M := fun c => (∀ p p', M (.For (.Name c.1 p) c.2.1 c.2.2 [] p')) → M (.For t it b [] p')) q (fun x hx k => nmOf_E (M := fun t => M (.For t it b [] p')) hx fun p => k p p') k
  | _ => exact noE q
theorem srtG_E {l : Expr} {ops : List CmpOp} {rs : List Expr} {c : Expr × Str × Expr × Expr} {M : List CmpOp → List Expr → Prop} (q : srtG l ops rs = some c) (k : ∀ r, (keyOf r).bind (fun c => oneOf (fun e => some (l, c.1, e, c.2.2)) c.2.1) = some c → M [.NotEq] [r]) : M ops rs := by
  cases ops with
  | nil => exact noE q
  | cons op ops => cases ops with
    | cons _ _ => cases rs <;> exact noE q
    | nil => cases rs with
      | nil => exact noE q
      | cons r rs => cases rs with
        | cons _ _ => exact noE q
        | nil => exact iE q fun h q => by rw [h]; exact k r q
theorem srtOf_E {e : Expr} {c : Expr × Str × Expr × Expr} {M : Expr → Prop} (q : srtOf e = some c)
    (k : ∀ p p' p'' q, isLam c.2.2.2 = true → M (.Compare c.1 [.NotEq] [.Call (.Name c.2.1 p) [c.2.2.1] [⟨some (Str.ofString "key"), c.2.2.2, p'⟩] p''] q)) : M e := pCmp q fun l ops rs p3 q => srtG_E (M := fun ops rs => M (.Compare l ops rs p3)) q fun r q => bE q fun a ha q => by
    refine keyOf_E (M := fun r => M (.Compare l [.NotEq] [r] p3)) ha fun p p' p'' hl => ?_
    refine one_E (M := fun as => M (.Compare l [.NotEq] [.Call (.Name a.1 p) as [⟨some (Str.ofString "key"), a.2.2, p'⟩] p''] p3)) q fun e q => ?_
    exact sE (M := fun (c : Expr × Str × Expr × Expr) => (∀ p p' p'' q, isLam c.2.2.2 = true → M (.Compare c.1 [.NotEq] [.Call (.Name c.2.1 p) [c.2.2.1] [⟨some (Str.ofString "key"), c.2.2.2, p'⟩] p''] q)) → M (.Compare l [.NotEq] [.Call (.Name a.1 p) [e] [⟨some (Str.ofString "key"), a.2.2, p'⟩] p''] p3)) q (fun k => k p p' p'' p3 hl) k
end Mine
end

section
open PySem PySem.W PyProof.Rows
namespace Mine
noncomputable def bodyN (i : Nat) : List Stmt := match PySem.Challenge.pw_rw0029_01.main.body[i]? with
  | some (.FunctionDef _ _ b _ _ _ _ _ _ _) => b
  | _ => []
noncomputable def outOf (r : Option (Flw × LSt)) : Option Dat := r.bind fun
  | (.ret (.cur _ ds), _) => if ds.all flatD then some (.list ds) else none
  | (.ret (.st e), _) => if flatD e then some e else none
  | (.ret (.fn _), _) => none
  | (.nx, _) => some .none
noncomputable def names (xs : List String) : List Str := xs.map Str.ofString
noncomputable def locs (xs : List Str) (x : Str) : Bool := xs.any fun y => decide (x = y)
noncomputable def gl (x : Str) : Option Dat := if x = Str.ofString "NT_OFFSET" then some (.int 256) else if x = Str.ofString "ENDMARKER" then some (.int 0) else if x = Str.ofString "ELLIPSIS_MARKER" then some (.str (Str.ofString "...")) else none
structure Fnn where
  ix : Nat
  pars : List Str
  glos : List Str
  O : Orc
noncomputable def Fnn.run (F : Fnn) (n : Nat) (ls : List LV) : Option Dat := outOf ((Itp.at F.O n).exs (F.pars.zip ls ++ F.glos.map (·, LV.glo)) (bodyN F.ix))
noncomputable def Fnn.sp (F : Fnn) (n : Nat) (ds : List Dat) : Option Dat := if ds.length = F.pars.length then F.run n (ds.map .val) else none
noncomputable def fnsOf (l : List (Str × (List Dat → Option Dat))) (f : Str) (ds : List Dat) : Option Dat := match l.lookup f with
  | some g => g ds
  | none => none
noncomputable def orc (fn : List (Str × (List Dat → Option Dat))) (muts loc : List String) : Orc :=
  ⟨gl, fnsOf fn, fun _ _ _ => none, fun _ _ => none, locs (names muts), fun _ => false, locs (names loc), false⟩
noncomputable def fTerm : Fnn := ⟨3, names ["x"], names ["NT_OFFSET"], orc [] [] []⟩
noncomputable def fNont : Fnn := ⟨4, names ["x"], names ["NT_OFFSET"], orc [] [] []⟩
noncomputable def fEof : Fnn := ⟨5, names ["x"], names ["ENDMARKER"], orc [] [] []⟩
noncomputable def spTerm : List Dat → Option Dat := fTerm.sp 8
noncomputable def spNont : List Dat → Option Dat := fNont.sp 8
noncomputable def spEof : List Dat → Option Dat := fEof.sp 8
noncomputable def fBis : Fnn := ⟨8, names ["a", "x", "lo", "hi", "key"], names ["len"], orc [] [] ["lo", "hi", "mid"]⟩
noncomputable def spBis : List Dat → Option Dat
  | [a, x] => fBis.run 100 [.val a, .val x, .val (.int 0), .val .none, .val .none]
  | _ => none
noncomputable def spBisK : List Dat → (Dat → Option Dat) → Option Dat
  | [a, x, lo, hi], g => fBis.run 100 [.val a, .val x, .val lo, .val hi, .fn g]
  | _, _ => none
noncomputable def fEll : Fnn := ⟨11, names ["want", "got"], names ["ELLIPSIS_MARKER", "len"], orc [] ["ws"] ["ws", "startpos", "endpos", "w"]⟩
noncomputable def spEll : List Dat → Option Dat := fEll.sp 100
noncomputable def fJoin : Fnn := ⟨13, names ["text", "pairs"], names ["range", "len"], orc [] ["row", "done"] ["row", "k", "done", "symbol"]⟩
noncomputable def spJoin : List Dat → Option Dat := fJoin.sp 100
noncomputable def fSpel : Fnn := ⟨14, names ["pairs", "symbol"], names ["ISEOF", "ISTERMINAL", "chr"], orc [(Str.ofString "ISEOF", spEof), (Str.ofString "ISTERMINAL", spTerm)] ["waiting"] ["waiting", "text", "last"]⟩
noncomputable def spSpel : List Dat → Option Dat := fSpel.sp 100
noncomputable def fSide : Fnn := ⟨15, names ["pairs", "symbol", "which"], names ["ISNONTERMINAL"], orc [(Str.ofString "ISNONTERMINAL", spNont)] ["side"] ["side"]⟩
noncomputable def spSide : List Dat → Option Dat := fSide.sp 100
noncomputable def fAlong : Fnn := ⟨16, names ["pairs", "one", "other", "bound"], names ["_law_side", "range", "len"], orc [(Str.ofString "_law_side", spSide)] [] ["ahead", "behind", "k", "above"]⟩
noncomputable def spAlong : List Dat → Option Dat := fAlong.sp 100
noncomputable def fkLaw (f : Str) (ds : List Dat) (g : Dat → Option Dat) : Option Dat := if f = Str.ofString "bisect_left" then spBisK ds g else none
noncomputable def keyLt : Dat → Dat → Bool
  | .tuple [.str a, .int i], .tuple [.str b, .int j] => if a = b then decide (i < j) else decide (a.cps.toList < b.cps.toList)
  | _, _ => false
noncomputable def isKd : Dat → Bool
  | .tuple [.str _, .int _] => true
  | _ => false
noncomputable def evalT {α : Type} (lt : Nat → Nat → Bool) : KasT α → α
  | .ret a => a
  | .ask i j k => evalT lt (k (lt i j))
noncomputable def ltAt (ks : List Dat) (i j : Nat) : Bool := keyLt (ks.getD i .none) (ks.getD j .none)
noncomputable def sortIx (ks : List Dat) : List Nat := if ks.length < 2 then List.range ks.length else (evalT (ltAt ks) (kas_sort ks.length)).toList
noncomputable def keysOf (g : Dat → Option Dat) (ds : List Dat) : Option (List Dat) := mapO (fun d => (g d).bind fun k => if isKd k && flatD d then some k else none) ds
noncomputable def spSort (ds : List Dat) (g : Dat → Option Dat) : Option (List Dat) := (keysOf g ds).bind fun ks => if ks.length ≤ 4 then some ((sortIx ks).map fun i => ds.getD i .none) else none
noncomputable def oLaw : Orc := ⟨gl, fnsOf [(Str.ofString "_law_spelled", spSpel), (Str.ofString "ISEOF", spEof), (Str.ofString "ISTERMINAL", spTerm), (Str.ofString "ISNONTERMINAL", spNont), (Str.ofString "_law_along", spAlong), (Str.ofString "_ellipsis_match", spEll), (Str.ofString "_law_joined", spJoin), (Str.ofString "bisect_left", spBis)],
  fkLaw, spSort, locs (names ["pairs", "symbols", "shelf", "whole", "rows", "fits", "made_rows"]), locs (names ["texts", "rest", "row", "low", "total"]),
  locs (names ["x", "marks", "total", "low", "pairs", "symbols", "shelf", "pair", "symbol", "words", "whole", "k", "front", "rows", "fits", "back", "made_rows", "rest", "begin", "end", "good", "text", "row", "met", "sign", "texts"]), true⟩
noncomputable def fLaw : Fnn := ⟨17, names ["script"], names ["sum", "chr", "len", "_law_spelled", "insort_left", "sorted", "ISEOF", "ISTERMINAL", "ISNONTERMINAL", "range", "_law_along", "_ellipsis_match", "_law_joined", "bisect_left"], oLaw⟩
noncomputable def spLaw (script : List Int) : Option Dat := fLaw.run 100 [.val (.list (script.map .int))]
end Mine
end

section
open PySem PySem.W PyProof.Rows Builtin.Str
namespace Mine
noncomputable def Kp (h h' : Heap) : Prop := ∀ b o, h.get? b = some o → h'.get? b = some o
theorem Kp.rfl {h : Heap} : Kp h h := fun _ _ e => e
theorem Kp.trans {h h' h'' : Heap} (a : Kp h h') (b : Kp h' h'') : Kp h h'' := fun x o e => b x o (a x o e)
theorem Kp.push (h : Heap) (o : Obj) : Kp h (h.push o) := fun _ _ e => Heap.get?_push_of_some _ e
theorem Kp.lt {h h' : Heap} (k : Kp h h') {a : Addr} {o : Obj} (e : h.get? a = some o) : h'.get? a = some o := k a o e
mutual
inductive DV (P : Addr → Obj → Prop) : Value → Dat → Prop
  | none : DV P Value.none Dat.none
  | bool (b : Bool) : DV P (Value.bool b) (Dat.bool b)
  | int (i : Int) (t : Tok) : DV P (Value.int i t) (Dat.int i)
  | str (x : Str) (t : Tok) : DV P (Value.str x t) (Dat.str x)
  | tuple {a : Addr} {vs : List Value} {n : Nat} {ds : List Dat} : P a ({ cls := .type "tuple", data := .seq vs.toArray n } : Obj) → DVs P vs ds → DV P (Value.ref a) (Dat.tuple ds)
  | list {a : Addr} {vs : List Value} {n : Nat} {ds : List Dat} : P a (listOf vs.toArray n) → DVs P vs ds → DV P (Value.ref a) (Dat.list ds)
inductive DVs (P : Addr → Obj → Prop) : List Value → List Dat → Prop
  | nil : DVs P [] []
  | cons {v : Value} {vs : List Value} {d : Dat} {ds : List Dat} : DV P v d → DVs P vs ds → DVs P (v :: vs) (d :: ds)
end
section
variable {P : Addr → Obj → Prop} {v w : Value} {M : Value → Prop} {N : Value → Value → Prop}
theorem DV.intE {i : Int} (x : DV P v (.int i)) (k : ∀ t, M (.int i t)) : M v := by cases x; exact k _
theorem DV.strE {i : Str} (x : DV P v (.str i)) (k : ∀ t, M (.str i t)) : M v := by cases x; exact k _
theorem DV.boolE {i : Bool} (x : DV P v (.bool i)) (k : M (.bool i)) : M v := by cases x; exact k
theorem DV.noneE (x : DV P v .none) (k : M .none) : M v := by cases x; exact k
theorem DV.listE {ds : List Dat} (x : DV P v (.list ds)) (k : ∀ a vs n, P a (listOf vs.toArray n) → DVs P vs ds → M (.ref a)) : M v := by cases x with | list g r => exact k _ _ _ g r
theorem DV.tupleE {ds : List Dat} (x : DV P v (.tuple ds)) (k : ∀ a vs n, P a ({ cls := .type "tuple", data := .seq vs.toArray n } : Obj) → DVs P vs ds → M (.ref a)) : M v := by cases x with | tuple g r => exact k _ _ _ g r
theorem int2 {i j : Int} (x : DV P v (.int i)) (y : DV P w (.int j)) (k : ∀ t u, N (.int i t) (.int j u)) : N v w := x.intE (M := fun v => N v w) fun t => y.intE (M := fun w => N (.int i t) w) fun u => k t u
theorem str2 {i j : Str} (x : DV P v (.str i)) (y : DV P w (.str j)) (k : ∀ t u, N (.str i t) (.str j u)) : N v w := x.strE (M := fun v => N v w) fun t => y.strE (M := fun w => N (.str i t) w) fun u => k t u
end
section
variable {P P' : Addr → Obj → Prop}
theorem DV.mono (hs : ∀ a o, P a o → P' a o) {v : Value} {d : Dat} (x : DV P v d) : DV P' v d :=
  DV.rec (motive_1 := fun v d _ => DV P' v d) (motive_2 := fun vs ds _ => DVs P' vs ds) .none .bool .int .str (fun h _ r => .tuple (hs _ _ h) r) (fun h _ r => .list (hs _ _ h) r) .nil (fun _ _ h r => .cons h r) x
theorem DVs.ind {M : List Value → List Dat → Prop} (n : M [] []) (c : ∀ {v vs d ds}, DV P v d → DVs P vs ds → M vs ds → M (v :: vs) (d :: ds)) {vs : List Value} {ds : List Dat} (x : DVs P vs ds) : M vs ds :=
  DVs.rec (motive_1 := fun _ _ _ => True) (motive_2 := fun vs ds _ => M vs ds) trivial (fun _ => trivial) (fun _ _ => trivial) (fun _ _ => trivial) (fun _ _ _ => trivial) (fun _ _ _ => trivial) n (fun h r _ m => c h r m) x
variable {vs ws : List Value} {ds es : List Dat}
theorem DVs.mono (hs : ∀ a o, P a o → P' a o) (x : DVs P vs ds) : DVs P' vs ds := x.ind (M := fun vs ds => DVs P' vs ds) .nil fun h _ r => .cons (h.mono hs) r
theorem DVs.length (x : DVs P vs ds) : vs.length = ds.length := x.ind (M := fun vs ds => vs.length = ds.length) rfl fun _ _ e => congrArg (· + 1) e
theorem DVs.append (x : DVs P vs ds) (y : DVs P ws es) : DVs P (vs ++ ws) (ds ++ es) := x.ind (M := fun vs ds => DVs P (vs ++ ws) (ds ++ es)) y fun h _ r => .cons h r
theorem DVs.get {k : Nat} {d : Dat} (x : DVs P vs ds) : ds[k]? = some d → ∃ v, vs[k]? = some v ∧ DV P v d :=
  x.ind (M := fun vs ds => ∀ k : Nat, ds[k]? = some d → ∃ v, vs[k]? = some v ∧ DV P v d) (fun _ e => nomatch e) (fun {v _ _ _} h _ r k => match k with
    | 0 => fun e => ⟨v, rfl, Option.some.inj e ▸ h⟩
    | k + 1 => fun e => r k e) k
theorem DVs.getV {k : Nat} {v : Value} (x : DVs P vs ds) : vs[k]? = some v → ∃ d, ds[k]? = some d ∧ DV P v d :=
  x.ind (M := fun vs ds => ∀ k : Nat, vs[k]? = some v → ∃ d, ds[k]? = some d ∧ DV P v d) (fun _ e => nomatch e) (fun {_ _ d _} h _ r k => match k with
    | 0 => fun e => ⟨d, rfl, Option.some.inj e ▸ h⟩
    | k + 1 => fun e => r k e) k
theorem DVs.drop (k : Nat) (x : DVs P vs ds) : DVs P (vs.drop k) (ds.drop k) :=
  x.ind (M := fun vs ds => ∀ k : Nat, DVs P (vs.drop k) (ds.drop k)) (fun k => by rw [List.drop_nil, List.drop_nil]; exact .nil) (fun h y r k => match k with
    | 0 => .cons h y
    | k + 1 => r k) k
theorem DVs.take (k : Nat) (x : DVs P vs ds) : DVs P (vs.take k) (ds.take k) :=
  x.ind (M := fun vs ds => ∀ k : Nat, DVs P (vs.take k) (ds.take k)) (fun k => by rw [List.take_nil, List.take_nil]; exact .nil) (fun h y r k => match k with
    | 0 => .nil
    | k + 1 => .cons h (r k)) k
theorem DVs.set (k : Nat) {v : Value} {d : Dat} (x : DVs P vs ds) (hd : DV P v d) : DVs P (vs.set k v) (ds.set k d) :=
  x.ind (M := fun vs ds => ∀ k : Nat, DVs P (vs.set k v) (ds.set k d)) (fun _ => .nil) (fun h y r k => match k with
    | 0 => .cons hd y
    | k + 1 => .cons h (r k)) k
theorem DVs.eraseIdx (k : Nat) (x : DVs P vs ds) : DVs P (vs.eraseIdx k) (ds.eraseIdx k) :=
  x.ind (M := fun vs ds => ∀ k : Nat, DVs P (vs.eraseIdx k) (ds.eraseIdx k)) (fun _ => .nil) (fun h y r k => match k with
    | 0 => y
    | k + 1 => .cons h (r k)) k
theorem DVs.dropLast (h : DVs P vs ds) : DVs P vs.dropLast ds.dropLast := by
  rw [List.dropLast_eq_take, List.dropLast_eq_take, h.length]; exact h.take _
end
noncomputable def AL (h : Heap) : Addr → Obj → Prop := fun a o => h.get? a = some o
noncomputable def FZ (h : Heap) (Ch : List Addr) : Addr → Obj → Prop := fun a o => h.get? a = some o ∧ a ∉ Ch
theorem FZ.al {h : Heap} {Ch : List Addr} : ∀ a o, FZ h Ch a o → AL h a o := fun _ _ x => x.1
theorem AL.mono {h h' : Heap} (k : Kp h h') : ∀ a o, AL h a o → AL h' a o := fun a o x => k a o x
theorem FZ.mono {h h' : Heap} {Ch : List Addr} (k : Kp h h') : ∀ a o, FZ h Ch a o → FZ h' Ch a o := fun a o x => ⟨k a o x.1, x.2⟩
structure Gr where
  prog : Program
  w : World
  mg : Str → Option Value
  mb : Str → Option Value
noncomputable abbrev Gr.M (G : Gr) : Model := model G.prog G.w
structure CtxOk (G : Gr) (A : Around) (d u : Nat) (h : Heap) : Prop where
  g : h.Ns mainGlobals G.mg
  b : h.Ns builtinsNs G.mb
  nl : h.NoLimit
  depth : A.depth + d < recursionLimit
  units : A.units + u < cLine
  hand : A.handled = none
theorem CtxOk.keeps {G : Gr} {A : Around} {d u : Nat} {h h' : Heap} (x : CtxOk G A d u h) (k : Kp h h') : CtxOk G A d u h' :=
  ⟨x.g.keeps k, x.b.keeps k, x.nl.keeps k, x.depth, x.units, x.hand⟩
theorem CtxOk.in1 {G : Gr} {A : Around} {d u : Nat} {h : Heap} (x : CtxOk G A d (u + 1) h) : CtxOk G A.in1 d u h :=
  ⟨x.g, x.b, x.nl, x.depth, by have := x.units; show A.units + 1 + u < cLine; omega, x.hand⟩
noncomputable def Ex (G : Gr) (A : Around) {α : Type} (t : Sem α) (h : Heap) (R : Heap → α → Prop) : Prop :=
  ∀ (s : Shared) (Q : α → Shared → Prop) (E : Value → Shared → Prop), s.heap = h →
    (∀ v h' tk', Kp h h' → R h' v → Q v { s with heap := h', toks := tk' }) → wpAny G.M A t Q E s
theorem Ex.weak {G : Gr} {A : Around} {α : Type} {t : Sem α} {h : Heap} {R R' : Heap → α → Prop} (x : Ex G A t h R) (hr : ∀ h' v, Kp h h' → R h' v → R' h' v) : Ex G A t h R' :=
  fun s Q E e q => x s Q E e fun v h' _ k r => q v h' _ k (hr h' v k r)
theorem Ex.bind {G : Gr} {A : Around} {α β : Type} {t : Sem α} {f : α → Sem β} {h : Heap} {R : Heap → α → Prop} {R' : Heap → β → Prop} (x : Ex G A t h R) (y : ∀ h' v, Kp h h' → R h' v → Ex G A (f v) h' R') : Ex G A (t >>= f) h R' :=
  fun s Q E e q => wpAny_bind (x s _ E e fun v h' tk' k r => y h' v k r _ Q E rfl fun v2 h2 tk2 k2 r2 => q v2 h2 tk2 (k.trans k2) r2)
theorem Ex.pure {G : Gr} {A : Around} {α : Type} {v : α} {h : Heap} {R : Heap → α → Prop} (r : R h v) : Ex G A (Pure.pure v) h R :=
  fun s Q E e q => wpAny_pure (by subst e; exact q v s.heap s.toks Kp.rfl r)
noncomputable def Callable (G : Gr) (d u : Nat) (f : Value) (kw : List (Str × Value)) (spec : List Dat → Option Dat) (h : Heap) : Prop :=
  ∀ A h₁, Kp h h₁ → CtxOk G A d u h₁ → ∀ ds r vs, spec ds = some r → DVs (AL h₁) vs ds →
    Ex G A (call f vs kw) h₁ fun h' v => DV (fun a o => h'.get? a = some o ∧ h₁.get? a = none) v r
theorem Callable.keeps {G : Gr} {d u : Nat} {f : Value} {kw : List (Str × Value)} {spec : List Dat → Option Dat} {h h' : Heap} (x : Callable G d u f kw spec h) (k : Kp h h') : Callable G d u f kw spec h' :=
  fun A h₁ k₁ c => x A h₁ (k.trans k₁) c
noncomputable def FnOk (f : Value) (h : Heap) : Prop := ∃ a o fd, f = .ref a ∧ h.get? a = some o ∧ o.data = .func fd
theorem FnOk.keeps {f : Value} {h h' : Heap} (x : FnOk f h) (k : Kp h h') : FnOk f h' := by
  obtain ⟨a, o, fd, e, ho, hd⟩ := x; exact ⟨a, o, fd, e, k _ _ ho, hd⟩
noncomputable def Bnd (env : Env) (h : Heap) (x : Str) (v : Value) : Prop :=
  (env.kindOf x = some .local ∧ ∃ m, h.Ns env.locals m ∧ m x = some v) ∨
  (env.kindOf x = some .cell ∧ ∃ c, env.cells.lookup x = some c ∧ h.IsCell c (some v)) ∨
  ((env.kindOf x = some .free ∧ (x == ("__classdict__" : Str)) = false) ∧ ∃ c, env.cells.lookup x = some c ∧ h.IsCell c (some v))
theorem Bnd.keeps {env : Env} {h h' : Heap} {x : Str} {v : Value} (b : Bnd env h x v) (k : Kp h h') : Bnd env h' x v := by
  rcases b with ⟨e, m, n, q⟩ | ⟨e, c, l, q⟩ | ⟨e, c, l, q⟩
  · exact .inl ⟨e, m, n.keeps k, q⟩
  · exact .inr (.inl ⟨e, c, l, q.keeps k⟩)
  · exact .inr (.inr ⟨e, c, l, q.keeps k⟩)
noncomputable def DctIs (h : Heap) (a : Addr) (es : List (Int × Str)) : Prop :=
  ∃ f : Int → Option Value, h.IntMap a f ∧ h.DictLe a es.length ∧ ∀ k, match es.lookup k with
    | some x => ∃ t, f k = some (.str x t)
    | none => f k = none
theorem DctIs.at {h h' : Heap} {a : Addr} {es : List (Int × Str)} (x : DctIs h a es) (e : h'.get? a = h.get? a) : DctIs h' a es := by
  obtain ⟨f, ⟨o, es', ep, ho, r⟩, le, q⟩ := x
  exact ⟨f, ⟨o, es', ep, e.trans ho, r⟩, fun o es ep h1 h2 => le o es ep (e.symm.trans h1) h2, q⟩
theorem DctIs.keeps {h h' : Heap} {a : Addr} {es : List (Int × Str)} (x : DctIs h a es) (k : Kp h h') : DctIs h' a es := by
  obtain ⟨o, ho⟩ : ∃ o, h.get? a = some o := by obtain ⟨f, ⟨o, es', ep, ho, r⟩, _⟩ := x; exact ⟨o, ho⟩
  exact x.at ((k _ _ ho).trans ho.symm)
theorem Callable.up {G : Gr} {d u d' u' : Nat} {f : Value} {kw : List (Str × Value)} {spec : List Dat → Option Dat} {h : Heap} (x : Callable G d u f kw spec h) (hd : d ≤ d') (hu : u ≤ u') : Callable G d' u' f kw spec h :=
  fun A h₁ k c => x A h₁ k ⟨c.g, c.b, c.nl, by have := c.depth; omega, by have := c.units; omega, c.hand⟩
noncomputable def KCall (G : Gr) (d u : Nat) (f : Value) (g : Dat → Option Dat) (h : Heap) : Prop :=
  ∀ A h₁, Kp h h₁ → CtxOk G A d u h₁ → ∀ e r v, g e = some r → DV (AL h₁) v e → Ex G A (call f [v] []) h₁ fun h' v => DV (AL h') v r
theorem KCall.keeps {G : Gr} {d u : Nat} {f : Value} {g : Dat → Option Dat} {h h' : Heap} (x : KCall G d u f g h) (k : Kp h h') : KCall G d u f g h' :=
  fun A h₁ k₁ c => x A h₁ (k.trans k₁) c
theorem KCall.up {G : Gr} {d u d' u' : Nat} {f : Value} {g : Dat → Option Dat} {h : Heap} (x : KCall G d u f g h) (hd : d ≤ d') (hu : u ≤ u') : KCall G d' u' f g h :=
  fun A h₁ k c => x A h₁ k ⟨c.g, c.b, c.nl, by have := c.depth; omega, by have := c.units; omega, c.hand⟩
noncomputable abbrev IsKey (G : Gr) (q : Value) (g : Dat → Option Dat) (h : Heap) : Prop := FnOk q h ∧ KCall G 2 100 q g h
theorem IsKey.keeps {G : Gr} {q : Value} {g : Dat → Option Dat} {h h' : Heap} (x : IsKey G q g h) (k : Kp h h') : IsKey G q g h' := ⟨x.1.keeps k, x.2.keeps k⟩
noncomputable def KeyTaker (G : Gr) (d u : Nat) (f : Value) (spec : List Dat → (Dat → Option Dat) → Option Dat) (h : Heap) : Prop :=
  ∀ h₁, Kp h h₁ → ∀ q g, IsKey G q g h₁ → Callable G d u f [(Str.ofString "key", q)] (fun ds => spec ds g) h₁
theorem KeyTaker.keeps {G : Gr} {d u : Nat} {f : Value} {spec : List Dat → (Dat → Option Dat) → Option Dat} {h h' : Heap} (x : KeyTaker G d u f spec h) (k : Kp h h') : KeyTaker G d u f spec h' :=
  fun h₁ k₁ => x h₁ (k.trans k₁)
noncomputable def LRel (G : Gr) (h : Heap) (Ch : List Addr) (v : Value) : LV → Prop
  | .val e => DV (FZ h Ch) v e
  | .own ds => ∃ a vs n, v = .ref a ∧ a ∈ Ch ∧ h.get? a = some (listOf vs.toArray n) ∧ DVs (FZ h Ch) vs ds
  | .dct es => ∃ a, v = .ref a ∧ a ∈ Ch ∧ DctIs h a es
  | .fn f => IsKey G v f h
  | .glo => False
theorem LRel.keeps {G : Gr} {h h' : Heap} {Ch : List Addr} {v : Value} (k : Kp h h') : ∀ {l : LV}, LRel G h Ch v l → LRel G h' Ch v l
  | .val _, x => DV.mono (FZ.mono k) x
  | .own _, ⟨a, vs, n, e, c, g, r⟩ => ⟨a, vs, n, e, c, k _ _ g, r.mono (FZ.mono k)⟩
  | .dct _, ⟨a, e, c, r⟩ => ⟨a, e, c, DctIs.keeps r k⟩
  | .fn _, x => IsKey.keeps x k
  | .glo, x => x
noncomputable def NRel (G : Gr) (env : Env) (h : Heap) (Ch : List Addr) (x : Str) : LV → Prop
  | .glo => env.kindOf x = some .globalImplicit
  | l => ∃ v, Bnd env h x v ∧ LRel G h Ch v l
theorem NRel.keeps {G : Gr} {env : Env} {h h' : Heap} {Ch : List Addr} {x : Str} (k : Kp h h') : ∀ {l : LV}, NRel G env h Ch x l → NRel G env h' Ch x l
  | .val _, ⟨v, b, r⟩ => ⟨v, b.keeps k, LRel.keeps k r⟩
  | .own _, ⟨v, b, r⟩ => ⟨v, b.keeps k, LRel.keeps k r⟩
  | .dct _, ⟨v, b, r⟩ => ⟨v, b.keeps k, LRel.keeps k r⟩
  | .fn _, ⟨v, b, r⟩ => ⟨v, b.keeps k, LRel.keeps k r⟩
  | .glo, x => x
noncomputable def biNames : List Str := ["len", "ord", "chr", "sum", "range", "sorted"].map Str.ofString
structure EC (G : Gr) (O : Orc) (d u : Nat) (A : Around) (env : Env) (Ch : List Addr) (st : LSt) (h : Heap) : Prop where
  hk : env.scope.kind = .function
  hg : env.globals = mainGlobals
  hb : env.builtins = builtinsNs
  ctx : CtxOk G A d u h
  nm : ∀ x l, st.get x = some l → (x == ("__debug__" : Str)) = false ∧ NRel G env h Ch x l
  gl : ∀ x e, O.glob x = some e → ∃ v, G.mg x = some v ∧ DV (fun _ _ => False) v e
  fns : ∀ f ds e, O.fn f ds = some e → ∃ v, G.mg f = some v ∧ FnOk v h ∧ Callable G d u v [] (O.fn f) h
  fks : ∀ f ds g e, O.fk f ds g = some e → ∃ v, G.mg f = some v ∧ FnOk v h ∧ KeyTaker G d u v (O.fk f) h
  so : ∀ v, v = Value.builtin "sorted" → ∀ h₁, Kp h h₁ → ∀ q g, IsKey G q g h₁ → Callable G d u v [(Str.ofString "key", q)] (fun | [.list ds] => (O.sorted ds g).map .list | _ => none) h₁
  bi : ∀ x ∈ biNames, G.mg x = none
  bb : ∀ x ∈ biNames, G.mb x = bootBuiltins x
  chh : ∀ a ∈ Ch, ∃ o, h.get? a = some o
  cap : ∀ x l, st.get x = some l → l ≠ .glo → O.capt x = true → ∃ c, env.cells.lookup x = some c ∧ (env.kindOf x = some .cell ∨ env.kindOf x = some .free)
  kd : ∀ x f, st.get x = some (.fn f) → 2 ≤ d ∧ 100 ≤ u
theorem EC.keeps {G : Gr} {O : Orc} {d u : Nat} {A : Around} {env : Env} {Ch : List Addr} {st : LSt} {h h' : Heap} (x : EC G O d u A env Ch st h) (k : Kp h h') : EC G O d u A env Ch st h' where
  hk := x.hk
  hg := x.hg
  hb := x.hb
  ctx := x.ctx.keeps k
  nm := fun y l e => ⟨(x.nm y l e).1, (x.nm y l e).2.keeps k⟩
  gl := x.gl
  fns := fun f ds e q => by obtain ⟨v, a, b, c⟩ := x.fns f ds e q; exact ⟨v, a, b.keeps k, c.keeps k⟩
  fks := fun f ds g e q => by obtain ⟨v, a, b, c⟩ := x.fks f ds g e q; exact ⟨v, a, b.keeps k, c.keeps k⟩
  so := fun v e h₁ k₁ => x.so v e h₁ (k.trans k₁)
  bi := x.bi
  bb := x.bb
  chh := fun a m => by obtain ⟨o, e⟩ := x.chh a m; exact ⟨o, k _ _ e⟩
  cap := x.cap
  kd := x.kd
noncomputable def RR (G : Gr) (h : Heap) (Ch : List Addr) (v : Value) : RV → Prop
  | .st e => DV (FZ h Ch) v e
  | .cur _ ds => LRel G h Ch v (.own ds)
  | .fn f => IsKey G v f h
theorem RR.dat {G : Gr} {h : Heap} {Ch : List Addr} {v : Value} {e : Dat} : ∀ {r : RV}, RR G h Ch v r → r.dat = some e → DV (AL h) v e
  | .st _, x, q => by cases q; exact x.mono FZ.al
  | .cur _ _, ⟨a, vs, n, e, c, g, r⟩, q => by cases q; subst e; exact .list g (r.mono FZ.al)
  | .fn _, _, q => by cases q
theorem RR.stv {G : Gr} {h : Heap} {Ch : List Addr} {v : Value} {e : Dat} : ∀ {r : RV}, RR G h Ch v r → r.stv = some e → DV (FZ h Ch) v e
  | .st _, x, q => by cases q; exact x
  | .cur _ _, _, q => by cases q
  | .fn _, _, q => by cases q
end Mine
end

section
open PySem PySem.W PyProof.Rows Builtin.Str
namespace Mine
section
variable {G : Gr} {A : Around} {h : Heap} {Ch : List Addr}
noncomputable def DL (h : Heap) (Ch : List Addr) (v : Value) : Dat → Prop
  | .list ds => ∃ a vs n, v = .ref a ∧ h.get? a = some (listOf vs.toArray n) ∧ DVs (FZ h Ch) vs ds
  | d => DV (FZ h Ch) v d
theorem DL.of {v : Value} {d : Dat} (x : DV (FZ h Ch) v d) : DL h Ch v d := by
  cases x with
  | list g r => exact ⟨_, _, _, rfl, g.1, r⟩
  | none => exact .none
  | bool b => exact .bool b
  | int i t => exact .int i t
  | str x t => exact .str x t
  | tuple g r => exact .tuple g r
theorem DL.al {v : Value} {d : Dat} (x : DL h Ch v d) : DV (AL h) v d := by
  cases d with
  | list ds => obtain ⟨a, vs, n, rfl, g, r⟩ := x; exact .list g (r.mono FZ.al)
  | _ => exact DV.mono FZ.al x
theorem DL.keeps {h' : Heap} (k : Kp h h') {v : Value} {d : Dat} (x : DL h Ch v d) : DL h' Ch v d := by
  cases d with
  | list ds => obtain ⟨a, vs, n, rfl, g, r⟩ := x; exact ⟨a, vs, n, rfl, k _ _ g, r.mono (FZ.mono k)⟩
  | _ => exact DV.mono (FZ.mono k) x
theorem RR.dl {v : Value} {e : Dat} : ∀ {r : RV}, RR G h Ch v r → r.dat = some e → DL h Ch v e
  | .st _, x, q => by cases q; exact DL.of x
  | .cur _ _, ⟨a, vs, n, e, c, g, r⟩, q => by cases q; exact ⟨a, vs, n, e, g, r⟩
  | .fn _, _, q => by cases q
theorem RR.keeps {h' : Heap} (k : Kp h h') {v : Value} {r : RV} (x : RR G h Ch v r) : RR G h' Ch v r := by
  cases r with
  | st d => exact DV.mono (FZ.mono k) x
  | cur n ds => exact LRel.keeps (G := G) (l := .own ds) k x
  | fn f => exact IsKey.keeps x k
noncomputable def ChIn (h : Heap) (Ch : List Addr) : Prop := ∀ a ∈ Ch, ∃ o, h.get? a = some o
theorem ChIn.keeps {h' : Heap} (c : ChIn h Ch) (k : Kp h h') : ChIn h' Ch := fun a m => by obtain ⟨o, e⟩ := c a m; exact ⟨o, k _ _ e⟩
theorem ChIn.fresh (c : ChIn h Ch) : h.objs.size ∉ Ch := fun m => by
  obtain ⟨o, e⟩ := c _ m
  exact absurd (Heap.lt_size e) (Nat.lt_irrefl _)
theorem Ex.int {t : Sem Value} {i : Int} (x : ∀ (s : Shared) (Q : Value → Shared → Prop) (E : Value → Shared → Prop), s.heap = h → Q (.int i s.toks) { s with toks := s.toks + 1 } → wpAny G.M A t Q E s) :
    Ex G A t h fun h' v => DV (FZ h' Ch) v (.int i) := fun s Q E e q => x s Q E e (by subst e; exact q _ s.heap _ Kp.rfl (.int _ _))
theorem Ex.bool {t : Sem Value} {b : Bool} (x : ∀ (s : Shared) (Q : Value → Shared → Prop) (E : Value → Shared → Prop), s.heap = h → Q (.bool b) s → wpAny G.M A t Q E s) :
    Ex G A t h fun h' v => DV (FZ h' Ch) v (.bool b) := fun s Q E e q => x s Q E e (by subst e; exact q _ s.heap _ Kp.rfl (.bool _))
theorem newL (c : ChIn h Ch) {vs : List Value} {ds : List Dat} {n : Nat} (r : DVs (FZ h Ch) vs ds) : DV (FZ (h.push (listOf vs.toArray n)) Ch) (.ref h.objs.size) (.list ds) :=
  .list ⟨Heap.get?_push_size _ rfl, c.fresh⟩ (r.mono (FZ.mono (Kp.push h _)))
noncomputable def BO (G : Gr) (A : Around) (h : Heap) (Ch : List Addr) (op : Operator) (va vb : Value) (r : Dat) : Prop := Ex G A (binaryOp op va vb) h fun h' v => DV (FZ h' Ch) v r
theorem add_str_ok {va vb : Value} {x y : Str} (hsz : x.length + y.length ≤ 4096) (ha : DL h Ch va (.str x)) (hb : DL h Ch vb (.str y)) : BO G A h Ch .Add va vb (.str (x ++ y)) := by
  refine str2 (N := fun va vb => BO G A h Ch .Add va vb (.str (x ++ y))) ha hb fun t u => ?_
  intro s Q E e q
  subst e
  refine P.add_str ?_
  split
  · rename_i h0
    have e0 : x ++ y = y := by
      have : x.cps = #[] := Array.size_eq_zero_iff.mp (by simpa [Str.length] using h0)
      exact Str.ext' (by simp [Str.cps_append, this])
    rw [e0] at q
    exact q _ s.heap s.toks Kp.rfl (.str _ _)
  · split
    · rename_i h0
      have e0 : x ++ y = x := by
        have : y.cps = #[] := Array.size_eq_zero_iff.mp (by simpa [Str.length] using h0)
        exact Str.ext' (by simp [Str.cps_append, this])
      rw [e0] at q
      exact q _ s.heap s.toks Kp.rfl (.str _ _)
    · exact ⟨by rw [Str.length_append, sizeLine_eq]; exact Nat.le_trans hsz (by decide), q _ s.heap _ Kp.rfl (.str _ _)⟩
theorem add_list_ok (c : ChIn h Ch) {va vb : Value} {x y : List Dat} (hsz : x.length + y.length ≤ 4096) (ha : DL h Ch va (.list x)) (hb : DL h Ch vb (.list y)) : BO G A h Ch .Add va vb (.list (x ++ y)) := by
  obtain ⟨la, va, na, rfl, ga, ra⟩ := ha
  obtain ⟨lb, vb, nb, rfl, gb, rb⟩ := hb
  intro s Q E e q
  subst e
  refine P.add_list ga gb ?_ (by rw [List.size_toArray, List.size_toArray, ra.length, rb.length, sizeLine_eq]; exact Nat.le_trans hsz (by decide))
  have := newL c (n := 0) (ra.append rb)
  rw [List.append_toArray]
  exact q _ _ s.toks (Kp.push _ _) this
theorem ii_ok {f : Int → Int → Option Dat} {op : Operator} {va vb : Value} {a b r : Dat} (ha : DL h Ch va a) (hb : DL h Ch vb b) (e : ii f a b = some r) (k : ∀ x y t u, f x y = some r → BO G A h Ch op (.int x t) (.int y u) r) : BO G A h Ch op va vb r :=
  ii_E (M := fun a b r => DL h Ch va a → DL h Ch vb b → (∀ x y t u, f x y = some r → BO G A h Ch op (.int x t) (.int y u) r) → BO G A h Ch op va vb r) e
    (fun x y e ha hb k => int2 (N := fun va vb => BO G A h Ch op va vb r) ha hb fun t u => k x y t u e) ha hb k
theorem sub_ok {va vb : Value} {a b r : Dat} (ha : DL h Ch va a) (hb : DL h Ch vb b) (e : subD a b = some r) : BO G A h Ch .Sub va vb r :=
  ii_ok ha hb e fun x y t u e => sE e (Ex.int fun s Q E _ q => sub_int q)
theorem addN_ok {va vb : Value} {a b r : Dat} (ha : DL h Ch va a) (hb : DL h Ch vb b) (e : addN a b = some r) : BO G A h Ch .Add va vb r :=
  addN_E (M := fun a b r => DL h Ch va a → DL h Ch vb b → BO G A h Ch .Add va vb r) e (fun x y ha hb => int2 (N := fun va vb => BO G A h Ch .Add va vb (.int (x + y))) ha hb fun t u => Ex.int fun s Q E _ q => add_int q) (fun _ _ hs ha hb => add_str_ok hs ha hb) ha hb
theorem binop_ok (c : ChIn h Ch) {op : Operator} {va vb : Value} {a b r : Dat} (ha : DL h Ch va a) (hb : DL h Ch vb b) (e : binop op a b = some r) : BO G A h Ch op va vb r := by
  cases op with
  | Add => exact addD_E (M := fun a b r => DL h Ch va a → DL h Ch vb b → BO G A h Ch .Add va vb r) e (fun x y ha hb => int2 (N := fun va vb => BO G A h Ch .Add va vb (.int (x + y))) ha hb fun t u => Ex.int fun s Q E _ q => add_int q) (fun _ _ hs ha hb => add_str_ok hs ha hb) (fun _ _ hs ha hb => add_list_ok c hs ha hb) ha hb
  | Sub => exact sub_ok ha hb e
  | Mod => exact ii_ok ha hb e fun x y t u e => iS (M := BO G A h Ch .Mod (.int x t) (.int y u)) e fun hpos => Ex.int fun s Q E _ q => mod_int' (Int.ne_of_gt hpos) (by rw [Int.fmod_eq_emod_of_nonneg x (Int.le_of_lt hpos)]; exact q)
  | FloorDiv => exact ii_ok ha hb e fun x y t u e => iS (M := BO G A h Ch .FloorDiv (.int x t) (.int y u)) e fun hpos => Ex.int fun s Q E _ q => floordiv_int (Int.ne_of_gt hpos.1) (by rw [Int.fdiv_eq_ediv_of_nonneg x (Int.le_of_lt hpos.1)]; exact q) (.inl (PyProof.noPylong_small (by omega)))
  | Pow => exact ii_ok ha hb e fun x y t u e => iS (M := BO G A h Ch .Pow (.int x t) (.int y u)) e fun hpos => Ex.int fun s Q E _ q => pow_int_small hpos.1 (by omega) (by have := hpos.2.2; omega) q
  | _ => exact noE e
theorem okD_list {n : Nat} {ds : List Dat} : okD (n + 1) (.list ds) = true ↔ ∀ d ∈ ds, okD n d = true := List.all_eq_true
theorem ok_ind {M : Nat → Dat → Prop} (h0 : ∀ n, M (n + 1) .none) (h1 : ∀ n i, M (n + 1) (.int i)) (h2 : ∀ n x, PyData.strOk x = true → M (n + 1) (.str x)) (h3 : ∀ n ds, (∀ d ∈ ds, okD n d = true) → (∀ d ∈ ds, M n d) → M (n + 1) (.list ds)) : ∀ {n : Nat} {d : Dat}, okD n d = true → M n d := by
  intro n
  induction n with
  | zero => intro d e; cases e
  | succ n ih =>
    intro d e
    cases d with
    | none => exact h0 n
    | int i => exact h1 n i
    | str x => exact h2 n x e
    | list ds => exact h3 n ds (okD_list.mp e) fun d m => ih (okD_list.mp e d m)
    | _ => cases e
theorem DVs.reads {ds : List Dat} (k : ∀ d ∈ ds, ∀ v, DV (AL h) v d → ∃ as, Reads h v (kqdP d) as) {vs : List Value} (x : DVs (AL h) vs ds) : ∃ as, ReadsAll h vs (kqdPs ds) as :=
  x.ind (M := fun vs ds => (∀ d ∈ ds, ∀ v, DV (AL h) v d → ∃ as, Reads h v (kqdP d) as) → ∃ as, ReadsAll h vs (kqdPs ds) as) (fun _ => ⟨_, ReadsAll.nil⟩) (fun hd _ r k => by
    obtain ⟨as, q⟩ := k _ (.head _) _ hd
    obtain ⟨bs, p⟩ := r fun d m => k d (.tail _ m)
    rw [kqdPs]
    exact ⟨_, ReadsAll.cons q p⟩) k
theorem DV.reads (n : Nat) {v : Value} {d : Dat} (x : DV (AL h) v d) (e : okD n d = true) : ∃ as, Reads h v (kqdP d) as :=
  ok_ind (M := fun _ d => ∀ v, DV (AL h) v d → ∃ as, Reads h v (kqdP d) as) (fun _ v x => x.noneE (M := fun v => ∃ as, Reads h v _ as) ⟨_, Reads.none⟩) (fun _ i v x => x.intE (M := fun v => ∃ as, Reads h v _ as) fun t => ⟨_, Reads.int i t⟩)
    (fun _ s _ v x => x.strE (M := fun v => ∃ as, Reads h v _ as) fun t => ⟨_, Reads.str s t⟩) (fun _ ds _ ih v x => x.listE (M := fun v => ∃ as, Reads h v _ as) fun a vs n g r => by
      obtain ⟨as, q⟩ := DVs.reads ih r
      rw [kqdP]
      exact ⟨_, reads_list_at g rfl rfl (by simpa using q)⟩) e v x
theorem okD_kqd : ∀ (n : Nat) (d : Dat), okD n d = true → kqdOk n d = true := fun _ _ => ok_ind (M := fun n d => kqdOk n d = true) (fun _ => rfl) (fun _ _ => rfl) (fun _ _ e => e) fun _ _ _ ih => List.all_eq_true.mpr ih
theorem all2_iff {f : Dat → Dat → Bool} : ∀ {a b : List Dat}, (∀ x ∈ a, ∀ y, f x y = true ↔ x = y) → (all2 f a b = true ↔ a = b) := by
  intro a
  induction a with
  | nil => intro b _; cases b <;> simp [all2]
  | cons x a ih =>
    intro b hf
    cases b with
    | nil => simp [all2]
    | cons y b => rw [all2, Bool.and_eq_true, hf x (.head _) y, ih fun z hz => hf z (.tail _ hz), List.cons.injEq]
theorem ffN {p : Prop} (h : ¬ p) : (false = true) ↔ p := ⟨fun q => Bool.noConfusion q, fun q => absurd q h⟩
theorem deq_iff (m n : Nat) (d : Dat) (hk : okD n d = true) : n ≤ m → ∀ e, deq m d e = true ↔ d = e := by
  refine ok_ind (M := fun n d => ∀ m, n ≤ m → ∀ e, deq m d e = true ↔ d = e) (fun n m hm e => ?_) (fun n i m hm e => ?_) (fun n x _ m hm e => ?_) (fun n ds _ ih m hm e => ?_) hk m <;> cases m <;> try contradiction
  · cases e <;> first | exact ffN (fun q => nomatch q) | exact ⟨fun _ => rfl, fun _ => rfl⟩
  · cases e <;> first | exact ffN (fun q => nomatch q) | exact decide_eq_true_iff.trans ⟨congrArg _, Dat.int.inj⟩
  · cases e <;> first | exact ffN (fun q => nomatch q) | exact decide_eq_true_iff.trans ⟨congrArg _, Dat.str.inj⟩
  · cases e <;> first | exact ffN (fun q => nomatch q) | exact (all2_iff fun x hx y => ih x hx _ (Nat.le_of_succ_le_succ hm) y).trans ⟨congrArg _, Dat.list.inj⟩
theorem eqv_deq {d e : Dat} {n k : Nat} (hd : okD n d = true) (he : okD k e = true) (hn : n ≤ 8) : PyData.eqv (kqdP d) (kqdP e) = deq 8 d e := by
  have q := kqd_eqv n d e k (okD_kqd _ _ hd) (okD_kqd _ _ he)
  have p := deq_iff 8 n d hd hn e
  rw [Bool.eq_iff_iff, q, p]
theorem okL_list {ds : List Dat} (k : okL ds = true) : okD 7 (.list ds) = true := k
theorem shaped_ok {ds : List Dat} (k : okL ds = true) : SeqAt.shaped (kqdP (.list ds)) = true := by
  have l := kqd_lay 7 (.list ds) (okD_kqd _ _ (okL_list k))
  unfold SeqAt.shaped
  rw [l.1, Bool.true_and]
  exact decide_eq_true (Nat.le_trans l.2 (by decide))
theorem any_deq {d : Dat} (hd : okD 6 d = true) : ∀ {b : List Dat}, okL b = true → ((kqdPs b).any fun y => PyData.eqv y (kqdP d)) = b.any (deq 8 d)
  | [], _ => rfl
  | e :: b, k => by
    have k' : okD 6 e = true ∧ okL b = true := Bool.and_eq_true_iff.mp k
    rw [kqdPs, List.any_cons, List.any_cons, any_deq hd k'.2, eqv_deq k'.1 hd (by omega)]
    congr 1
    rw [Bool.eq_iff_iff, deq_iff 8 6 e k'.1 (by omega), deq_iff 8 6 d hd (by omega)]
    exact eq_comm
theorem Ex.boolE {t : Sem Value} {b b' : Bool} (e : b' = b) (x : ∀ (s : Shared) (Q : Value → Shared → Prop) (E : Value → Shared → Prop), s.heap = h → Q (.bool b') s → wpAny G.M A t Q E s) :
    Ex G A t h fun h' v => DV (FZ h' Ch) v (.bool b) := by subst e; exact Ex.bool x
noncomputable def CO (G : Gr) (A : Around) (h : Heap) (Ch : List Addr) (op : CmpOp) (va vb : Value) (r : Bool) : Prop := Ex G A (compareOp op va vb) h fun h' v => DV (FZ h' Ch) v (.bool r)
section
variable {d u : Nat} {op : CmpOp} {va vb : Value} {a b : Dat} {r : Bool}
theorem cI_ok {f : Int → Int → Bool} (ha : DL h Ch va a) (hb : DL h Ch vb b) (e : cmpI f a b = some r) (k : ∀ x y t u, CO G A h Ch op (.int x t) (.int y u) (f x y)) : CO G A h Ch op va vb r :=
  cmpI_E (M := fun a b r => DL h Ch va a → DL h Ch vb b → CO G A h Ch op va vb r) e (fun x y ha hb => int2 (N := fun va vb => CO G A h Ch op va vb (f x y)) ha hb fun t u => k x y t u) ha hb
theorem cEq_ok (ctx : CtxOk G A d u h) (hu : 66 ≤ u) (ha : DL h Ch va a) (hb : DL h Ch vb b) (e : cmpEq a b = some r) : CO G A h Ch .Eq va vb r ∧ CO G A h Ch .NotEq va vb !r := by
  have hun := ctx.units
  refine cmpEq_E (M := fun a b r => DL h Ch va a → DL h Ch vb b → CO G A h Ch .Eq va vb r ∧ CO G A h Ch .NotEq va vb !r) e (fun x y ha hb => ?_) (fun x y ha hb => ?_) (fun x y k1 k2 ha hb => ?_) ha hb
  · exact int2 (N := fun va vb => CO G A h Ch .Eq va vb (decide (x = y)) ∧ CO G A h Ch .NotEq va vb !(decide (x = y))) ha hb fun t u => ⟨Ex.boolE (by rfl) fun s Q E _ q => eq_int q, Ex.boolE (by rfl) fun s Q E _ q => ne_int q⟩
  · exact str2 (N := fun va vb => CO G A h Ch .Eq va vb (decide (x = y)) ∧ CO G A h Ch .NotEq va vb !(decide (x = y))) ha hb fun t u => ⟨Ex.boolE (by rfl) fun s Q E _ q => eq_str q, Ex.boolE (by rfl) fun s Q E _ q => ne_str q⟩
  · obtain ⟨as, ra⟩ := DV.reads 7 (DL.al ha) (okL_list k1)
    obtain ⟨bs, rb⟩ := DV.reads 7 (DL.al hb) (okL_list k2)
    have e8 := eqv_deq (okL_list k1) (okL_list k2) (by decide)
    exact ⟨Ex.boolE e8 fun s Q E e q => by
      subst e
      exact eq_dataH ra rb (shaped_ok k1) (shaped_ok k2) (by omega) q, Ex.boolE (congrArg (!·) e8) fun s Q E e q => by
      subst e
      exact ne_dataH ra rb (shaped_ok k1) (shaped_ok k2) (by omega) q⟩
theorem cIn_ok (ctx : CtxOk G A d u h) (hu : 66 ≤ u) (ha : DL h Ch va a) (hb : DL h Ch vb b) (e : cmpIn a b = some r) : CO G A h Ch .In va vb r ∧ CO G A h Ch .NotIn va vb !r := by
  have hun := ctx.units
  refine cmpIn_E (M := fun a b r => DL h Ch va a → DL h Ch vb b → CO G A h Ch .In va vb r ∧ CO G A h Ch .NotIn va vb !r) e (fun x y ha hb => ?_) (fun a b k1 k2 ha hb => ?_) ha hb
  · exact str2 (N := fun va vb => CO G A h Ch .In va vb (strIn x y) ∧ CO G A h Ch .NotIn va vb !(strIn x y)) ha hb fun t u => ⟨Ex.bool fun s Q E _ q => P.in_str q, Ex.boolE (by simp [strIn]) fun s Q E _ q => P.notIn_str q⟩
  · obtain ⟨as, ra⟩ := DV.reads 6 (DL.al ha) k1
    obtain ⟨bs, rb⟩ := DV.reads 7 (DL.al hb) (okL_list k2)
    rw [kqdP] at rb
    have l := kqd_lay 7 (.list b) (okD_kqd _ _ (okL_list k2))
    have ld := kqd_lay 6 _ (okD_kqd _ _ k1)
    rw [kqdP] at l
    have hm := Nat.min_le_right (PyData.depthAll (kqdPs b)) (kqdP a).depth
    exact ⟨Ex.boolE (any_deq k1 k2) fun s Q E e q => by
      subst e
      exact SeqAt.in_list_reads rb ra l.1 ld.1 (by omega) q, Ex.boolE (congrArg (!·) (any_deq k1 k2)) fun s Q E e q => by
      subst e
      exact SeqAt.notIn_list_reads rb ra l.1 ld.1 (by omega) q⟩
theorem cIs_ok (ha : DL h Ch va a) (hb : DL h Ch vb b) (e : cmpIs a b = some r) : CO G A h Ch .Is va vb r := by
  cases b with
  | bool y => exact cmpIsB_E (M := fun a r => DL h Ch va a → CO G A h Ch .Is va vb r) e (fun x ha => DV.boolE (M := fun va => CO G A h Ch .Is va vb (x == y)) ha (DV.boolE (M := fun vb => CO G A h Ch .Is (.bool x) vb (x == y)) hb (Ex.bool fun s Q E _ q => is_bool q))) ha
  | none =>
    refine sE e (DV.noneE (M := fun vb => CO G A h Ch .Is va vb (noneD a)) hb (Ex.boolE ?_ fun s Q E _ q => is_none q))
    cases a with
    | list ds => obtain ⟨l, vs, n, rfl, _⟩ := ha; rfl
    | none => exact DV.noneE (M := fun v => (v == Value.none) = noneD .none) ha rfl
    | bool => exact DV.boolE (M := fun v => (v == Value.none) = false) ha rfl
    | int => exact DV.intE (M := fun v => (v == Value.none) = false) ha fun _ => rfl
    | str => exact DV.strE (M := fun v => (v == Value.none) = false) ha fun _ => rfl
    | bytes => cases ha
    | tuple => exact DV.tupleE (M := fun v => (v == Value.none) = false) ha fun _ _ _ _ _ => rfl
  | _ => exact noE e
theorem cIsN_ok (ha : DL h Ch va a) (hb : DL h Ch vb b) (e : cmpIsN a b = some r) : CO G A h Ch .IsNot va vb r := by
  cases b with
  | bool y => exact cmpIsB_E (M := fun a r' => DL h Ch va a → r' = !r → CO G A h Ch .IsNot va vb r) (notO_eq e) (fun x ha hr => DV.boolE (M := fun va => CO G A h Ch .IsNot va vb r) ha (DV.boolE (M := fun vb => CO G A h Ch .IsNot (.bool x) vb r) hb (Ex.boolE (by rw [← Bool.not_not r, ← hr]; rfl) fun s Q E _ q => isnot_bool q))) ha rfl
  | _ => exact noE e
theorem cmp_ok (ctx : CtxOk G A d u h) (hu : 66 ≤ u) (ha : DL h Ch va a) (hb : DL h Ch vb b) (e : cmpop op a b = some r) : CO G A h Ch op va vb r := by
  cases op with
  | Lt => exact cmpLt_E (M := fun a b r => DL h Ch va a → DL h Ch vb b → CO G A h Ch .Lt va vb r) e (fun x y ha hb => int2 (N := fun va vb => CO G A h Ch .Lt va vb (decide (x < y))) ha hb fun t u => Ex.bool fun s Q E _ q => lt_int q) (fun x y ha hb => str2 (N := fun va vb => CO G A h Ch .Lt va vb (decide (x.cps.toList < y.cps.toList))) ha hb fun t u => Ex.boolE (by simp) fun s Q E _ q => PyProof.Rows.lt_str q) ha hb
  | LtE => exact cI_ok ha hb e fun x y t u => Ex.bool fun s Q E _ q => le_int q
  | Gt => exact cI_ok ha hb e fun x y t u => Ex.bool fun s Q E _ q => gt_int q
  | GtE => exact cI_ok ha hb e fun x y t u => Ex.bool fun s Q E _ q => ge_int q
  | Eq => exact (cEq_ok ctx hu ha hb e).1
  | NotEq => exact Bool.not_not r ▸ (cEq_ok ctx hu ha hb (notO_eq e)).2
  | In => exact (cIn_ok ctx hu ha hb e).1
  | NotIn => exact Bool.not_not r ▸ (cIn_ok ctx hu ha hb (notO_eq e)).2
  | Is => exact cIs_ok ha hb e
  | IsNot => exact cIsN_ok ha hb e
end
end
end Mine
end

section
open PySem PySem.W PyProof.Rows Builtin.Str
namespace Mine
section
variable {G : Gr} {O : Orc} {I : Itp} {d u : Nat} {A : Around} {env : Env} {Ch : List Addr} {st : LSt} {h : Heap}
theorem chIn (C : EC G O d u A env Ch st h) : ChIn h Ch := C.chh
theorem name_bnd (C : EC G O d u A env Ch st h) {x : Str} {pos : Pos} {v : Value} (b : Bnd env h x v) (hx : (x == ("__debug__" : Str)) = false) : Ex G A (eval (.Name x pos) env) h fun _ v' => v' = v := by
  intro s Q E e q
  subst e
  refine wpAny_Name ?_ hx
  have q' := q v s.heap s.toks Kp.rfl rfl
  rcases b with ⟨e, m, n, r⟩ | ⟨e, c, l, r⟩ | ⟨⟨e, ec⟩, c, l, r⟩
  · exact wpAny_loadName_local C.hk e n r q'
  · exact wpAny_loadName_cell C.hk e l r q'
  · exact wpAny_loadName_free C.hk e l r q' ec
theorem name_glo (C : EC G O d u A env Ch st h) {x : Str} {pos : Pos} {v : Value} (hg : env.kindOf x = some .globalImplicit) (hm : G.mg x = some v) (hx : (x == ("__debug__" : Str)) = false) : Ex G A (eval (.Name x pos) env) h fun _ v' => v' = v := by
  intro s Q E e q
  subst e
  exact Calls.Name_function_global C.hk hg (Calls.loadGlobal_global (by rw [C.hg]; exact C.ctx.g) hm (q v s.heap s.toks Kp.rfl rfl)) hx
theorem name_bi (C : EC G O d u A env Ch st h) {x : Str} {pos : Pos} {v : Value} (hg : env.kindOf x = some .globalImplicit) (hm : x ∈ biNames) (hv : bootBuiltins x = some v) (hx : (x == ("__debug__" : Str)) = false) : Ex G A (eval (.Name x pos) env) h fun _ v' => v' = v := by
  intro s Q E e q
  subst e
  exact Calls.Name_function_global C.hk hg (Calls.loadGlobal_builtin (by rw [C.hg]; exact C.ctx.g) (C.bi x hm) (by rw [C.hb]; exact C.ctx.b) ((C.bb x hm).trans hv) (q v s.heap s.toks Kp.rfl rfl)) hx
noncomputable def EvOk (G : Gr) (O : Orc) (I : Itp) : Prop := ∀ {d u : Nat} {A : Around} {env : Env} {Ch : List Addr} {st : LSt} {h : Heap}, EC G O d u A env Ch st h → 66 ≤ u → ∀ e r, I.ev st e = some r →
  Ex G A (eval e env) h fun h' v => RR G h' Ch v r
theorem evD_ok (K : EvOk G O I) (C : EC G O d u A env Ch st h) (hu : 66 ≤ u) {e : Expr} {r : Dat} (q : evD I st e = some r) : Ex G A (eval e env) h fun h' v => DL h' Ch v r :=
  bE q fun a ha q => (K C hu e a ha).weak fun h' v _ x => RR.dl x q
theorem evV_ok (K : EvOk G O I) (C : EC G O d u A env Ch st h) (hu : 66 ≤ u) {e : Expr} {r : Dat} (q : evV I st e = some r) : Ex G A (eval e env) h fun h' v => DV (FZ h' Ch) v r :=
  bE q fun a ha q => (K C hu e a ha).weak fun h' v _ x => RR.stv x q
theorem evI_ok (K : EvOk G O I) (C : EC G O d u A env Ch st h) (hu : 66 ≤ u) {e : Expr} {i : Int} (q : evI I st e = some i) : Ex G A (eval e env) h fun _ v => ∃ t, v = .int i t :=
  (evD_ok K C hu (int_eq q)).weak fun h' v _ x => DV.intE (M := fun v => ∃ t, v = .int i t) x fun t => ⟨t, rfl⟩
inductive All2 {α β : Type} (R : α → β → Prop) : List α → List β → Prop
  | nil : All2 R [] []
  | cons {a : α} {b : β} {as : List α} {bs : List β} : R a b → All2 R as bs → All2 R (a :: as) (b :: bs)
section
variable {α β : Type} {R R' : α → β → Prop} {as : List α} {bs : List β}
theorem All2.imp (hr : ∀ a b, R a b → R' a b) (x : All2 R as bs) : All2 R' as bs := All2.rec (motive := fun as bs _ => All2 R' as bs) .nil (fun x _ r => .cons (hr _ _ x) r) x
theorem All2.dvs {P : Addr → Obj → Prop} {vs : List Value} {ds : List Dat} (x : All2 (DV P) vs ds) : DVs P vs ds := All2.rec (motive := fun as bs _ => DVs P as bs) .nil (fun x _ r => .cons x r) x
theorem DVs.all2 {P : Addr → Obj → Prop} {vs : List Value} {ds : List Dat} (x : DVs P vs ds) : All2 (DV P) vs ds := x.ind (M := fun vs ds => All2 (DV P) vs ds) .nil fun x _ r => .cons x r
theorem All2.length (x : All2 R as bs) : as.length = bs.length := All2.rec (motive := fun (as : List α) (bs : List β) _ => as.length = bs.length) rfl (fun _ _ r => congrArg Nat.succ r) x
end
theorem starEach_cons {e : Expr} {es : List Expr} (he : plainE e = true) : starEach (e :: es) env = (false, eval e env) :: starEach es env := by
  cases e <;> first | rfl | cases he
theorem mapO_E {α β : Type} {f : α → Option β} {M : List α → List β → Prop} (n : M [] []) (c : ∀ a r b s, f a = some b → mapO f r = some s → M r s → M (a :: r) (b :: s)) : ∀ {l : List α} {s : List β}, mapO f l = some s → M l s := by
  intro l
  induction l with
  | nil => intro s q; exact sE q n
  | cons a r ih => intro s q; exact bE q fun b hb q => bE q fun t ht q => sE q (c a r b t hb ht (ih ht))
theorem mapO_len {α β : Type} {f : α → Option β} {l : List α} {s : List β} (q : mapO f l = some s) : s.length = l.length := mapO_E (M := fun (l : List α) (s : List β) => s.length = l.length) rfl (fun _ _ _ _ _ _ e => congrArg Nat.succ e) q
theorem items_ok {f : Expr → Option Dat} {R : Heap → Value → Dat → Prop} (mono : ∀ h h' v e, Kp h h' → R h v e → R h' v e)
    (one : ∀ h' e r, Kp h h' → f e = some r → Ex G A (eval e env) h' fun h'' v => R h'' v r) {pos : Pos} {es : List Expr} {ds : List Dat} (hp : es.all plainE = true) (q : mapO f es = some ds) :
    Ex G A (spliced (backTo pos (starEach es env))) h fun h'' vs => All2 (R h'') vs ds := by
  refine mapO_E (M := fun es ds => es.all plainE = true → ∀ h', Kp h h' → Ex G A (spliced (backTo pos (starEach es env))) h' fun h'' vs => All2 (R h'') vs ds) ?_ ?_ q hp h Kp.rfl
  · intro _ h' _ s Q E e q
    subst e
    exact wpAny_items_nil (q [] s.heap s.toks Kp.rfl .nil)
  · intro e es a bs ha _ ih hp h' k s Q E e' q
    have hp := Bool.and_eq_true_iff.mp hp
    refine wpAny_items_cons (one h' e a k ha s _ E e' fun v h₁ tk₁ k₁ r₁ => ?_) (starEach_cons hp.1)
    exact ih hp.2 h₁ (k.trans k₁) _ _ E rfl fun vs h₂ tk₂ k₂ r₂ => q _ h₂ tk₂ (k₁.trans k₂) (.cons (mono _ _ _ _ k₂ r₁) r₂)
theorem argsD_p {es : List Expr} {ds : List Dat} (q : argsD I st es = some ds) : es.all plainE = true := iE q fun h _ => h
theorem argsV_len {es : List Expr} {ds : List Dat} (q : argsV I st es = some ds) : ds.length = es.length := iE q fun _ q => mapO_len q
theorem argsD_ok (K : EvOk G O I) (C : EC G O d u A env Ch st h) (hu : 66 ≤ u) {es : List Expr} {ds : List Dat} {pos : Pos} (q : argsD I st es = some ds) : Ex G A (spliced (backTo pos (starEach es env))) h fun h' vs => All2 (DL h' Ch) vs ds :=
  iE q fun hp q => items_ok (R := fun h' v e => DL h' Ch v e) (fun _ _ _ _ k x => DL.keeps k x) (fun h' e r k q => evD_ok K (C.keeps k) hu q) hp q
theorem argsV_ok (K : EvOk G O I) (C : EC G O d u A env Ch st h) (hu : 66 ≤ u) {es : List Expr} {ds : List Dat} {pos : Pos} (q : argsV I st es = some ds) : Ex G A (spliced (backTo pos (starEach es env))) h fun h' vs => DVs (FZ h' Ch) vs ds :=
  iE q fun hp q => (items_ok (R := fun h' v e => DV (FZ h' Ch) v e) (fun _ _ _ _ k x => DV.mono (FZ.mono k) x) (fun h' e r k q => evV_ok K (C.keeps k) hu q) hp q).weak fun _ _ _ x => x.dvs
end
end Mine
end

section
open PySem PySem.W PyProof.Rows Builtin.Str
namespace Mine
section
variable {G : Gr} {O : Orc} {I : Itp} {d u : Nat} {A : Around} {env : Env} {Ch : List Addr} {st : LSt} {h : Heap}
noncomputable def FreshL (h h' : Heap) (Ch : List Addr) (v : Value) (ds : List Dat) : Prop := ∃ a vs n, v = .ref a ∧ h.get? a = none ∧ h'.get? a = some (listOf vs.toArray n) ∧ DVs (FZ h' Ch) vs ds
theorem FreshL.dv {h' : Heap} {v : Value} {ds : List Dat} (c : ChIn h Ch) (x : FreshL h h' Ch v ds) : DV (FZ h' Ch) v (.list ds) := by
  obtain ⟨a, vs, n, rfl, hn, g, r⟩ := x
  refine .list ⟨g, fun m => ?_⟩ r
  obtain ⟨o, e⟩ := c a m
  rw [e] at hn; cases hn
theorem none_of_kp {h h' : Heap} (k : Kp h h') {a : Addr} (e : h'.get? a = none) : h.get? a = none := by
  cases q : h.get? a with
  | none => rfl
  | some o => rw [k _ _ q] at e; cases e
theorem get?_size (h : Heap) : h.get? h.objs.size = none := by
  cases q : h.get? h.objs.size with
  | none => rfl
  | some o => exact absurd (Heap.lt_size q) (Nat.lt_irrefl _)
theorem list_ok (K : EvOk G O I) (C : EC G O d u A env Ch st h) (hu : 66 ≤ u) {es : List Expr} {ds : List Dat} {pos : Pos} (hl : es.length ≤ 64) (q : argsV I st es = some ds) : Ex G A (eval (.List es pos) env) h fun h' v => FreshL h h' Ch v ds := by
  intro s Q E e q'
  refine wpAny_List (argsV_ok K C hu q s _ E e fun vs h₁ tk₁ k₁ r₁ => ?_)
  refine ⟨by rw [r₁.length, argsV_len q, sizeLine_eq]; exact Nat.le_trans hl (by decide), ?_⟩
  refine q' _ _ tk₁ (k₁.trans (Kp.push _ _)) ⟨_, vs, 0, rfl, none_of_kp k₁ (get?_size _), Heap.get?_push_size _ rfl, r₁.mono (FZ.mono (Kp.push _ _))⟩
theorem tuple_ok (K : EvOk G O I) (C : EC G O d u A env Ch st h) (hu : 66 ≤ u) {es : List Expr} {ds : List Dat} {n : Nat} {pos : Pos} (hl : es.length ≤ 64) (q : argsV I st es = some ds) : Ex G A (eval (.Tuple es n pos) env) h fun h' v => DV (FZ h' Ch) v (.tuple ds) := by
  intro s Q E e q'
  refine wpAny_Tuple (argsV_ok K C hu q s _ E e fun vs h₁ tk₁ k₁ r₁ => ?_)
  refine ⟨by rw [r₁.length, argsV_len q, sizeLine_eq]; exact Nat.le_trans hl (by decide), ?_⟩
  have c₁ : ChIn h₁ Ch := (chIn C).keeps k₁
  exact q' _ _ tk₁ (k₁.trans (Kp.push _ _)) (.tuple ⟨Heap.get?_push_size _ rfl, c₁.fresh⟩ (r₁.mono (FZ.mono (Kp.push _ _))))
noncomputable def partV : Option Int → Tok → Value
  | none, _ => .none
  | some i, t => .int i t
theorem part_ok (K : EvOk G O I) (C : EC G O d u A env Ch st h) (hu : 66 ≤ u) {e : Option Expr} {i : Option Int} (q : evOI I st e = some i) : Ex G A (evalPart e env) h fun _ v => ∃ t : Tok, v = partV i t := by
  cases e with
  | none => cases q; exact fun s Q E e q => by subst e; exact wpAny_pure (q _ s.heap s.toks Kp.rfl ⟨0, rfl⟩)
  | some e => exact mE (M := fun i => Ex G A (evalPart (some e) env) h fun _ v => ∃ t : Tok, v = partV i t) q fun j hj => evI_ok K C hu hj
theorem isPart_of {i : Option Int} {v : Value} {t : Tok} (e : v = partV i t) : IsPart v i := by
  subst e; cases i with
  | none => exact .none
  | some i => exact .int i t
theorem slice_ok (K : EvOk G O I) (C : EC G O d u A env Ch st h) (hu : 66 ≤ u) {v : Expr} {lo hi : Option Expr} {a b : Option Int} {ds : List Dat} {p pos : Pos} (hv : evD I st v = some (.list ds)) (ha : evOI I st lo = some a) (hb : evOI I st hi = some b) (hl : ds.length ≤ 4096) :
    Ex G A (eval (.Subscript v (.Slice lo hi none p) pos) env) h fun h' w => FreshL h h' Ch w (slcD ds a b) := by
  intro s Q E e q
  refine Subscript_ (evD_ok K C hu hv s _ E e fun o h₁ tk₁ k₁ r₁ => ?_)
  refine wpAny_Slice (part_ok K (C.keeps k₁) hu ha _ _ E rfl fun l h₂ tk₂ k₂ r₂ => ?_)
  refine part_ok K (C.keeps (k₁.trans k₂)) hu hb _ _ E rfl fun w h₃ tk₃ k₃ r₃ => ?_
  refine wpAny_pure ?_
  obtain ⟨la, vs, n, rfl, g, r⟩ := DL.keeps (k₂.trans k₃) r₁
  obtain ⟨t₂, r₂⟩ := r₂
  obtain ⟨t₃, r₃⟩ := r₃
  have g' : (h₃.push ({ cls := .type "slice", data := .fields #[l, w, .none] } : Obj)).get? la = some (listOf vs.toArray n) := Heap.get?_push_of_some _ g
  have il : (h₃.push ({ cls := .type "slice", data := .fields #[l, w, .none] } : Obj)).IsList la vs.toArray := ⟨_, g', rfl, n, rfl⟩
  refine tail_any (ops := [_, _]) (Heap.IsList.typeIs (s := { s with heap := h₃.push _, toks := tk₃ }) il) list_getitem_lookup (wpAny_getItem_list_slice il (Heap.IsSliceOf.new ..) (isPart_of r₂) (isPart_of r₃) .none (by simp) ?_ ?_) rfl
  · rw [slicePick_plain]
    refine q _ _ tk₃ (((k₁.trans k₂).trans k₃).trans ((Kp.push _ _).trans (Kp.push _ _))) ⟨_, (slcD vs a b), 0, rfl, ?_, ?_, ?_⟩
    · refine none_of_kp (((k₁.trans k₂).trans k₃).trans (Kp.push _ _)) (get?_size _)
    · have := Heap.get?_push_size (h := h₃.push ({ cls := .type "slice", data := .fields #[l, w, .none] } : Obj)) (o := listOf (slcD vs a b).toArray 0) rfl
      simpa [slcD] using this
    · unfold slcD
      rw [r.length]
      exact ((r.drop _).take _).mono (FZ.mono ((Kp.push _ _).trans (Kp.push _ _)))
  · rw [List.size_toArray, r.length, sizeLine_eq]; omega
theorem strIdx (lo hi : Option Int) (n : Nat) : strSliceIndices lo hi 1 n = (List.range (hi.elim n (clipAt n) - lo.elim 0 (clipAt n))).map ((lo.elim 0 (clipAt n)) + ·) := by
  rw [← sliceRange_one]
  unfold strSliceIndices
  cases lo <;> cases hi <;> simp [clipAt_cast]
section
variable (x : Str) (a b : Option Int) (t u : Tok)
theorem fst_map : (a.map (·, t)).map (·.1) = a := by cases a <;> rfl
theorem picked_eq : slicePicked x (a.map (·, t)) (b.map (·, u)) none = strSliceIndices a b 1 x.length := by
  unfold slicePicked
  rw [fst_map, fst_map]
  rfl
theorem picked_slc : ((slicePicked x (a.map (·, t)) (b.map (·, u)) none).filterMap (x.cps[·]?)) = slcD x.cps.toList a b := by
  rw [picked_eq, strIdx, pick_run]
  rfl
theorem slc_len : (slcD x.cps.toList a b).length ≤ x.length := Nat.le_trans ((List.take_sublist _ _).trans (List.drop_sublist _ _)).length_le (by rw [Array.length_toList]; exact Nat.le_refl _)
theorem clip_le (n : Nat) (i : Int) : clipAt n i ≤ n := by have := clipAt_cast n i; omega
theorem all_some {l : List Nat} {f : Nat → Option Nat} (hh : ∀ i ∈ l, (f i).isSome = true) : (l.filterMap f).length = l.length := by
  induction l with
  | nil => rfl
  | cons i l ih =>
    obtain ⟨c, hc⟩ := Option.isSome_iff_exists.mp (hh i (.head _))
    rw [List.filterMap_cons, hc]
    exact congrArg Nat.succ (ih fun j hj => hh j (.tail _ hj))
theorem slc_full (hfull : (slicePicked x (a.map (·, t)) (b.map (·, u)) none).length = x.length) : slcS x a b = x := by
  have hlen : (slcD x.cps.toList a b).length = x.cps.toList.length := by
    rw [← picked_slc x a b t u, all_some, hfull, Array.length_toList]
    · rfl
    · intro i hi
      rw [picked_eq, strIdx] at hi
      obtain ⟨j, hj, rfl⟩ := List.mem_map.mp hi
      have hj' := List.mem_range.mp hj
      have hb : b.elim x.length (clipAt x.length) ≤ x.length := by
        cases b with
        | none => exact Nat.le_refl _
        | some b => exact clip_le _ _
      rw [Array.getElem?_eq_getElem (show _ < x.length by omega)]
      rfl
  have : slcD x.cps.toList a b = x.cps.toList := ((List.take_sublist _ _).trans (List.drop_sublist _ _)).eq_of_length hlen
  unfold slcS
  rw [this]
end
theorem sliceS_ok (K : EvOk G O I) (C : EC G O d u A env Ch st h) (hu : 66 ≤ u) {v : Expr} {lo hi : Option Expr} {a b : Option Int} {x : Str} {p pos : Pos} (hv : evD I st v = some (.str x)) (ha : evOI I st lo = some a) (hb : evOI I st hi = some b) (hx : x.length ≤ 4096) :
    Ex G A (eval (.Subscript v (.Slice lo hi none p) pos) env) h fun h' w => DV (FZ h' Ch) w (.str (slcS x a b)) := by
  intro s Q E e q
  refine Subscript_ (evD_ok K C hu hv s _ E e fun o h₁ tk₁ k₁ r₁ => ?_)
  refine wpAny_Slice (part_ok K (C.keeps k₁) hu ha _ _ E rfl fun l h₂ tk₂ k₂ ⟨t₂, r₂⟩ => ?_)
  refine part_ok K (C.keeps (k₁.trans k₂)) hu hb _ _ E rfl fun w h₃ tk₃ k₃ ⟨t₃, r₃⟩ => ?_
  refine wpAny_pure ?_
  have k := ((k₁.trans k₂).trans k₃).trans (Kp.push h₃ ({ cls := .type "slice", data := .fields #[l, w, .none] } : Obj))
  have sl : (h₃.push ({ cls := .type "slice", data := .fields #[l, w, .none] } : Obj)).IsSlice h₃.objs.size (a.map (·, t₂)) (b.map (·, t₃)) none := ⟨_, Heap.get?_push_size _ rfl, rfl, by subst r₂ r₃; cases a <;> cases b <;> rfl⟩
  revert sl k
  generalize h₃.push _ = h₄
  intro k sl
  refine DV.strE (M := fun o => wpAny G.M A (subscriptTail _ _ o _) Q E _) r₁ fun t => ?_
  refine tail_any (ops := [_, _]) (T := "str") (typeIs_str _ x t) F.slot_str_getitem.lookup (wpAny_getItem_str_slice sl rfl ?_) rfl
  unfold sliceMade
  split
  · rename_i hfull
    rw [slc_full x a b t₂ t₃ (by simpa using hfull)] at q
    exact q _ _ tk₃ k (.str _ _)
  · rw [picked_slc]
    exact ⟨Nat.le_trans (slc_len x a b) (Nat.le_trans hx (by rw [sizeLine_eq]; decide)), q _ _ _ k (.str _ _)⟩
theorem idx_spec {ds : List Dat} {k : Int} {j : Nat} (e : idxAt ds k = some j) : ds.length ≤ 4096 ∧ ((0 ≤ k ∧ k < ds.length ∧ j = k.toNat) ∨ (k < 0 ∧ 0 ≤ k + ds.length ∧ j = (k + ds.length).toNat)) := by
  unfold idxAt at e
  split at e <;> try cases e
  rename_i hl
  refine ⟨hl, ?_⟩
  split at e
  · split at e <;> cases e
    exact .inl ⟨by assumption, by assumption, rfl⟩
  · split at e <;> cases e
    exact .inr ⟨by omega, by assumption, rfl⟩
theorem not_slice {i : Expr} (hn : slOf i = none) (o j : Value) : subscripted i false o j = operate [o, j] (getItem o j) := by
  cases i <;> first | rfl | exact noE hn.symm
theorem item_ok (K : EvOk G O I) (C : EC G O d u A env Ch st h) (hu : 66 ≤ u) {v i : Expr} {ds : List Dat} {k : Int} {j : Nat} {r : Dat} {pos : Pos} (hv : evD I st v = some (.list ds)) (hi : evI I st i = some k) (hj : idxAt ds k = some j) (hr : ds[j]? = some r)
    (hn : slOf i = none) : Ex G A (eval (.Subscript v i pos) env) h fun h' w => DV (FZ h' Ch) w r := by
  intro s Q E e q
  refine Subscript_ (evD_ok K C hu hv s _ E e fun o h₁ tk₁ k₁ r₁ => ?_)
  refine evI_ok K (C.keeps k₁) hu hi _ _ E rfl fun w h₂ tk₂ k₂ r₂ => ?_
  obtain ⟨la, vs, n, rfl, g, rr⟩ := DL.keeps k₂ r₁
  obtain ⟨t, rfl⟩ := r₂
  have il : h₂.IsList la vs.toArray := ⟨_, g, rfl, n, rfl⟩
  obtain ⟨x, hx, hd⟩ := rr.get hr
  obtain ⟨hl, hc⟩ := idx_spec hj
  have hlen := rr.length
  refine tail_any (ops := [.ref la, .int k t]) (Heap.IsList.typeIs (s := { s with heap := h₂, toks := tk₂ }) il) list_getitem_lookup ?_ ?_
  · rcases hc with ⟨h0, h1, rfl⟩ | ⟨h0, h1, rfl⟩
    · exact wpAny_getItem_list il h0 (by omega) (by simpa using hx) (q _ _ tk₂ (k₁.trans k₂) hd)
    · exact wpAny_getItem_list_neg il h0 (by rw [List.size_toArray, hlen]; omega) (by omega) (by rw [List.size_toArray, hlen]; simpa using hx) (q _ _ tk₂ (k₁.trans k₂) hd)
  · exact not_slice hn _ _
end
end Mine
end

section
open PySem PySem.W PyProof.Rows Builtin.Str Builtin
namespace Mine
section
variable {G : Gr} {O : Orc} {I : Itp} {d u : Nat} {A : Around} {env : Env} {Ch : List Addr} {st : LSt} {h : Heap}
theorem backTo_noStar {pos : Pos} : ∀ {es : List Expr}, es.all plainE = true → (backTo pos (starEach es env)).any (·.1) = false
  | [], _ => rfl
  | e :: es, hp => by
    rw [List.all_cons, Bool.and_eq_true] at hp
    rw [starEach_cons hp.1]
    exact backTo_noStar hp.2
theorem backTo_allPlain {pos : Pos} : ∀ {es : List Expr}, es.all plainE = true → (backTo pos (starEach es env)).all (fun x => !x.1) = true
  | [], _ => rfl
  | e :: es, hp => by
    rw [List.all_cons, Bool.and_eq_true] at hp
    rw [starEach_cons hp.1]
    exact backTo_allPlain hp.2
theorem evalArgs_items {M : Model} {E : Value → Shared → Prop} {s : Shared} {f : Value} {Q : Args → Shared → Prop} {pos : Pos} {es : List Expr} (hp : es.all plainE = true) (x : wpAny M A (spliced (backTo pos (starEach es env))) (fun vs s' => Q ⟨vs, []⟩ s') E s) :
    wpAny M A (evalArgs f true (backTo pos (starEach es env)) []) Q E s := by
  cases es with
  | nil =>
    unfold evalArgs
    show wpAny M A (spliced (backTo pos (starEach [] env)) >>= _) Q E s
    refine wpAny_bind (wpAny_mono x (fun vs s' h' => ?_) fun _ _ x => x)
    refine wpAny_holding ?_
    exact wpAny_bind (wpAny_pure (wpAny_bind (wpAny_pure (wpAny_pure h'))))
  | cons e es =>
    rw [List.all_cons, Bool.and_eq_true] at hp
    rw [starEach_cons hp.1] at x ⊢
    exact Calls.evalArgs_plain x
theorem call_bi (K : EvOk G O I) (C : EC G O d u A env Ch st h) (hu : 66 ≤ u) {f : Str} {id : String} {p pos : Pos} {es : List Expr} {ds : List Dat} {R : Heap → Value → Prop} (hf : st.get f = some .glo) (hm : f ∈ biNames) (hv : bootBuiltins f = some (.builtin id)) (q : argsD I st es = some ds)
    (hc : ∀ h' vs, Kp h h' → All2 (DL h' Ch) vs ds → Ex G A (call (.builtin id) vs) h' R) : Ex G A (eval (.Call (.Name f p) es [] pos) env) h R := by
  have hp := argsD_p q
  obtain ⟨hd, hk⟩ := C.nm f _ hf
  intro s Q E e q'
  show wpAny G.M A (do callWith pos (← eval (.Name f p) env) [] (backTo pos (starEach es env)) []) Q E s
  refine wpAny_bind (name_bi C hk hm hv hd s _ E e fun v h₁ tk₁ k₁ r₁ => ?_)
  subst r₁
  refine Calls.callWith_builtin (backTo_noStar hp) (evalArgs_items hp ?_)
  refine argsD_ok K (C.keeps k₁) hu q _ _ E rfl fun vs h₂ tk₂ k₂ r₂ => ?_
  exact hc h₂ vs (k₁.trans k₂) r₂ _ Q E rfl fun v h₃ tk₃ k₃ r₃ => q' v h₃ tk₃ ((k₁.trans k₂).trans k₃) r₃
theorem call_arm {f : Expr} {pos : Pos} {es : List Expr} (hna : ∀ o m p, f ≠ .Attribute o m p) : eval (.Call f es [] pos) env = (do callWith pos (← eval f env) [] (backTo pos (starEach es env)) []) := by
  cases f <;> first | rfl | exact absurd rfl (hna _ _ _)
theorem call_fn (K : EvOk G O I) (C : EC G O d u A env Ch st h) (hu : 66 ≤ u) {f : Expr} {v : Value} {pos : Pos} {es : List Expr} {ds : List Dat} {R : Heap → Value → Prop} (hna : ∀ o m p, f ≠ .Attribute o m p) (hf : Ex G A (eval f env) h fun _ v' => v' = v) (hv : FnOk v h) (q : argsD I st es = some ds)
    (hc : ∀ h' vs, Kp h h' → All2 (DL h' Ch) vs ds → Ex G A (call v vs) h' R) : Ex G A (eval (.Call f es [] pos) env) h R := by
  have hp := argsD_p q
  obtain ⟨a, o, fd, rfl, ho, hd⟩ := hv
  rw [call_arm hna]
  intro s Q E e q'
  refine wpAny_bind (hf s _ E e fun v h₁ tk₁ k₁ r₁ => ?_)
  subst r₁
  refine Calls.callWith_function (o := o) (fd := fd) (evalArgs_items hp ?_)
  refine argsD_ok K (C.keeps k₁) hu q _ _ E rfl fun vs h₂ tk₂ k₂ r₂ => ⟨⟨(k₁.trans k₂) _ _ ho, hd⟩, ?_⟩
  exact hc h₂ vs (k₁.trans k₂) r₂ _ Q E rfl fun v h₃ tk₃ k₃ r₃ => q' v h₃ tk₃ ((k₁.trans k₂).trans k₃) r₃
theorem call_user (K : EvOk G O I) (C : EC G O d u A env Ch st h) (hu : 66 ≤ u) {f : Expr} {v : Value} {pos : Pos} {es : List Expr} {ds : List Dat} {r : Dat} {spec : List Dat → Option Dat} (hna : ∀ o m p, f ≠ .Attribute o m p) (hf : Ex G A (eval f env) h fun _ v' => v' = v) (hv : FnOk v h) (hs : Callable G d u v [] spec h)
    (q : argsD I st es = some ds) (hr : spec ds = some r) : Ex G A (eval (.Call f es [] pos) env) h fun h' v => DV (FZ h' Ch) v r :=
  call_fn K C hu hna hf hv q fun h' vs k rv => (hs A h' k (C.ctx.keeps k) ds r vs hr (rv.imp fun _ _ x => DL.al x).dvs).weak fun h'' v k' x => x.mono fun a o hx => ⟨hx.1, fun m => by
    obtain ⟨o', e⟩ := C.chh a m
    rw [k _ _ e] at hx; cases hx.2⟩
theorem base_plain {o : Expr} {m : Str} (hb : plainBase o = true) : attributeBase o m env (eval o env) = eval o env := by
  cases o <;> first | rfl | cases hb
theorem meth_call (K : EvOk G O I) (C : EC G O d u A env Ch st h) (hu : 66 ≤ u) {o : Expr} {m : Str} {ap p : Pos} {es : List Expr} {od : Dat} {ds : List Dat} {R : Heap → Value → Prop} {T id : String} (hm : methOk o ap p es = true) (ho : evD I st o = some od) (q : argsD I st es = some ds)
    (pa : PlainAttrs T) (slot : Slot T m id) (hty : typeOf (.builtin id) = pure (.type "method_descriptor")) (hT : ∀ (s : Shared) v, DL s.heap Ch v od → s.TypeIs v T ∧ ∀ a, v = .ref a → ∃ ob, s.heap.get? a = some ob ∧ ob.dict = none)
    (hc : ∀ h' v vs, Kp h h' → DL h' Ch v od → All2 (DL h' Ch) vs ds → Ex G A (call (.builtin id) (v :: vs)) h' R) : Ex G A (eval (.Call (.Attribute o m ap) es [] p) env) h R := by
  have hp := argsD_p q
  unfold methOk at hm
  rw [Bool.and_eq_true, Bool.and_eq_true] at hm
  obtain ⟨⟨hb, hl⟩, hn⟩ := hm
  intro s Q E e q'
  refine wpAny_Call_method_lateS (base_plain hb) ?_ hl (evD_ok K C hu ho s _ E e fun v h₁ tk₁ k₁ r₁ => ?_)
  · rw [backTo_allPlain hp]
    exact decide_eq_true (Nat.lt_of_lt_of_le (of_decide_eq_true hn) (by decide))
  · obtain ⟨ht, hd⟩ := hT { s with heap := h₁, toks := tk₁ } v r₁
    refine ⟨T, id, pa, slot, hty, ht, hd, ?_⟩
    refine Calls.callWith_builtin (backTo_noStar hp) (evalArgs_items hp ?_)
    refine argsD_ok K (C.keeps k₁) hu q _ _ E rfl fun vs h₂ tk₂ k₂ r₂ => ?_
    exact hc h₂ v vs (k₁.trans k₂) (DL.keeps k₂ r₁) r₂ _ Q E rfl fun v h₃ tk₃ k₃ r₃ => q' v h₃ tk₃ ((k₁.trans k₂).trans k₃) r₃
theorem strT {x : Str} : ∀ (s : Shared) v, DL s.heap Ch v (.str x) → s.TypeIs v "str" ∧ ∀ a, v = .ref a → ∃ ob, s.heap.get? a = some ob ∧ ob.dict = none := by
  intro s v x
  cases x
  exact ⟨typeIs_str _ _ _, fun _ e => nomatch e⟩
theorem listT {ds : List Dat} : ∀ (s : Shared) v, DL s.heap Ch v (.list ds) → s.TypeIs v "list" ∧ ∀ a, v = .ref a → ∃ ob, s.heap.get? a = some ob ∧ ob.dict = none := by
  intro s v x
  obtain ⟨a, vs, n, rfl, g, r⟩ := x
  exact ⟨Heap.IsList.typeIs ⟨_, g, rfl, n, rfl⟩, fun b e => by cases e; exact ⟨_, g, rfl⟩⟩
theorem searchIdx (len : Nat) (i : Int) (t : Tok) : (max 0 (if i < 0 then i + (len : Int) else i)).toNat = fromIndex len i := rfl
theorem gives_find4 (x y : Str) (i j : Int) (t u v w : Tok) : Gives («str.find» ⟨[.str x t, .str y u, .int i v, .int j w], []⟩) (.int (find4 x y i j)) := by
  show Gives (match occurrences x y (fromIndex x.length i) (min (fromIndex x.length j) x.length) 1 with | k :: _ => retInt k | [] => (do rule "str.find.not-found"; retInt (-1))) _
  unfold find4
  cases occurrences x y (fromIndex x.length i) (min (fromIndex x.length j) x.length) 1 with
  | nil => exact .rule (.of_eq rfl)
  | cons k _ => exact .of_eq rfl
end
end Mine
end

section
open PySem PySem.W PyProof.Rows Builtin.Str Builtin
namespace Mine
section
variable {G : Gr} {O : Orc} {I : Itp} {d u : Nat} {A : Around} {env : Env} {Ch : List Addr} {st : LSt} {h : Heap}
section
variable {P : Addr → Obj → Prop} {vs : List Value} {ds : List Dat}
theorem intsOf_are {ns : List Int} (x : DVs P vs ds) (e : intsOf ds = some ns) : IntsAre vs ns :=
  x.ind (M := fun vs ds => ∀ ns, intsOf ds = some ns → IntsAre vs ns) (fun _ e => sE e .nil) (fun {v vs d ds} h _ r ns e => bE e fun i hi e => mE (M := IntsAre (v :: vs)) e fun ms hm => by
    have hd : some d = some (.int i) := int_eq (x := some d) hi
    cases hd
    exact h.intE (M := fun v => IntsAre (v :: vs) (i :: ms)) fun t => .cons i t (r ms hm)) ns e
theorem strsOf_are {ns : List Str} (x : DVs P vs ds) (e : strsOf ds = some ns) : StrsAre vs ns ∧ ns.length = ds.length :=
  x.ind (M := fun vs ds => ∀ ns, strsOf ds = some ns → StrsAre vs ns ∧ ns.length = ds.length) (fun _ e => by cases e; exact ⟨.nil, rfl⟩) (fun {v vs d ds} h _ r ns e => bE e fun i hi e => mE (M := fun ns => StrsAre (v :: vs) ns ∧ ns.length = (d :: ds).length) e fun ms hm => by
    have hd : some d = some (.str i) := str_eq (x := some d) hi
    cases hd
    exact h.strE (M := fun v => StrsAre (v :: vs) (i :: ms) ∧ _) fun t => ⟨.cons i t (r ms hm).1, congrArg Nat.succ (r ms hm).2⟩) ns e
end
theorem intsItems {vs : List Value} {ns : List Int} (x : IntsAre vs ns) : ∃ xs : List (Int × Tok), vs = xs.map (fun p => Value.int p.1 p.2) ∧ ns = xs.map (·.1) := by
  induction x with
  | nil => exact ⟨[], rfl, rfl⟩
  | cons n t _ ih =>
    obtain ⟨xs, e1, e2⟩ := ih
    exact ⟨(n, t) :: xs, by rw [e1]; rfl, by rw [e2]; rfl⟩
theorem sum_ok {ds : List Dat} {ns : List Int} {v : Value} (hh : A.handled = none) (x : DL h Ch v (.list ds)) (e : intsOf ds = some ns) : Ex G A (call (.builtin "sum") [v]) h fun h' v => DV (FZ h' Ch) v (.int ns.sum) := by
  obtain ⟨a, vs, n, rfl, g, r⟩ := x
  obtain ⟨xs, rfl, rfl⟩ := intsItems (intsOf_are r e)
  intro s Q E e q
  subst e
  refine sum_intListG (xs := xs.toArray) hh ⟨_, g, rfl, n, by simp [intItems]⟩ fun h' tk t' hk => ?_
  have es : preSum (numAt xs.toArray) xs.toArray.size = (xs.map (·.1)).sum := by
    have := preSum_eq (xs := xs.toArray) (j := xs.toArray.size)
    rw [this, List.take_of_length_le (by simp)]
  rw [es]
  exact q _ h' tk hk (.int _ _)
section
variable {R : Value → Dat → Prop} {vs : List Value} {a b c : Dat} {M : List Value → Prop}
theorem all2_one (x : All2 R vs [a]) : ∃ v, vs = [v] ∧ R v a := by
  cases x with
  | cons h r => cases r; exact ⟨_, rfl, h⟩
theorem all2_nil (x : All2 R vs []) : vs = [] := by cases x; rfl
theorem one_V (x : All2 R vs [a]) (k : ∀ v, R v a → M [v]) : M vs := by
  obtain ⟨v, rfl, h⟩ := all2_one x
  exact k v h
theorem all2_three (x : All2 R vs [a, b, c]) : ∃ v w y, vs = [v, w, y] ∧ R v a ∧ R w b ∧ R y c := by
  cases x with
  | cons h r => cases r with
    | cons h2 r =>
      obtain ⟨y, rfl, h3⟩ := all2_one r
      exact ⟨_, _, y, rfl, h, h2, h3⟩
end
noncomputable def BiOk (f : Str) (ds : List Dat) (r : Dat) : Prop := ∃ id, f ∈ biNames ∧ bootBuiltins f = some (.builtin id) ∧
    ∀ {G : Gr} {A : Around} {d u : Nat} {h : Heap} {Ch : List Addr} {vs : List Value}, CtxOk G A d u h → All2 (DL h Ch) vs ds → Ex G A (call (.builtin id) vs) h fun h' v => DV (FZ h' Ch) v r
theorem len_l {ds : List Dat} (hl : ds.length ≤ 4096) : BiOk (Str.ofString "len") [.list ds] (.int ds.length) := by
  refine ⟨"len", by decide, by decide +kernel, fun c x => ?_⟩
  obtain ⟨v, rfl, a, vs, n, rfl, g, r⟩ := all2_one x
  intro s Q E e q
  subst e
  refine len_list (items := vs.toArray) ⟨_, g, rfl, n, rfl⟩ (by rw [List.size_toArray, r.length]; omega) ?_
  rw [List.size_toArray, r.length]
  exact q _ s.heap _ Kp.rfl (.int _ _)
theorem sum_l {ds : List Dat} {ns : List Int} (hn : intsOf ds = some ns) : BiOk (Str.ofString "sum") [.list ds] (.int ns.sum) :=
  ⟨"sum", by decide, by decide +kernel, fun {G A _ _ h Ch _} c x => one_V (M := fun vs => Ex G A (call (.builtin "sum") vs) h fun h' v => DV (FZ h' Ch) v (.int ns.sum)) x fun v hv => sum_ok c.hand hv hn⟩
theorem len_s {x : Str} (hl : x.length ≤ 4096) : BiOk (Str.ofString "len") [.str x] (.int x.length) :=
  ⟨"len", by decide, by decide +kernel, fun {G A _ _ h Ch _} c y => one_V (M := fun vs => Ex G A (call (.builtin "len") vs) h fun h' v => DV (FZ h' Ch) v (.int x.length)) y fun v hv =>
    DV.strE (M := fun v => Ex G A (call (.builtin "len") [v]) h fun h' v => DV (FZ h' Ch) v (.int x.length)) hv fun t s Q E e q => by
      subst e
      exact P.len_str (by omega) (q _ s.heap _ Kp.rfl (.int _ _))⟩
theorem ord_s {x : Str} {c : Nat} (hx : x.cps.toList = [c]) : BiOk (Str.ofString "ord") [.str x] (.int c) := by
  have ex : x = ⟨#[c]⟩ := Str.ext' (by rw [← Array.toArray_toList (xs := x.cps), hx])
  subst ex
  exact ⟨"ord", by decide, by decide +kernel, fun {G A _ _ h Ch _} _ y => one_V (M := fun vs => Ex G A (call (.builtin "ord") vs) h fun h' v => DV (FZ h' Ch) v (.int c)) y fun v hv =>
    DV.strE (M := fun v => Ex G A (call (.builtin "ord") [v]) h fun h' v => DV (FZ h' Ch) v (.int c)) hv fun t => Ex.int fun s Q E _ q => P.ord_of_char q⟩
theorem chr_i {k : Int} (hk : 0 ≤ k ∧ k ≤ 256) : BiOk (Str.ofString "chr") [.int k] (.str ⟨#[k.toNat]⟩) :=
  ⟨"chr", by decide, by decide +kernel, fun {G A _ _ h Ch _} _ y => one_V (M := fun vs => Ex G A (call (.builtin "chr") vs) h fun h' v => DV (FZ h' Ch) v (.str ⟨#[k.toNat]⟩)) y fun v hv =>
    DV.intE (M := fun v => Ex G A (call (.builtin "chr") [v]) h fun h' v => DV (FZ h' Ch) v (.str ⟨#[k.toNat]⟩)) hv fun t s Q E e q => by
      subst e
      exact chr_of_range hk.1 (by omega) (q _ s.heap _ Kp.rfl (.str _ _))⟩
theorem builtin_ok {f : Str} {ds : List Dat} {r : Dat} (e : builtin f ds = some r) : BiOk f ds r := one_E (M := fun ds => BiOk f ds r) e fun d e => by
  cases d with
  | list ds => exact oE e (fun hf e => hf ▸ iS (M := BiOk (Str.ofString "len") [.list ds]) e len_l) fun _ e => iE e fun hf e => hf ▸ mE (M := BiOk (Str.ofString "sum") [.list ds]) e fun ns hn => sum_l hn
  | str x =>
    refine oE e (fun hf e => hf ▸ iS (M := BiOk (Str.ofString "len") [.str x]) e len_s) fun _ e => iE e fun hf e => hf ▸ ?_
    split at e
    · exact sE (M := BiOk (Str.ofString "ord") [.str x]) e (ord_s (by assumption))
    · exact noE e
  | int k => exact iE e fun hf e => hf ▸ iS (M := BiOk (Str.ofString "chr") [.int k]) e chr_i
  | _ => exact noE e
theorem index_ok {ds : List Dat} {ns : List Int} {k : Int} {v w : Value} (hn : intsOf ds = some ns) (hl : ns.length ≤ 4096) (hk : k ∈ ns) (x : DL h Ch v (.list ds)) (y : DL h Ch w (.int k)) :
    Ex G A (call (.builtin "list.index") [v, w]) h fun h' v => DV (FZ h' Ch) v (.int (ns.idxOf k : Nat)) := by
  obtain ⟨a, vs, n, rfl, g, r⟩ := x
  refine DV.intE (M := fun w => Ex G A (call (.builtin "list.index") [.ref a, w]) h fun h' v => DV (FZ h' Ch) v (.int (ns.idxOf k : Nat))) y fun t => ?_
  have hi := intsOf_are r hn
  intro s Q E e q
  subst e
  have hlen := hi.length
  have hj : ns.idxOf k < ns.length := List.idxOf_lt_length_iff.mpr hk
  refine call_meets PySem.F.slot_list_index ⟨_, g, rfl⟩ PySem.F.entry_list_index (PySem.F.args_list_index_2 _ _)
    (SeqAt.list_indexAt a vs.toArray n none #[] (.int k t) (isInt k) (ns.idxOf k) (by rw [List.size_toArray, hlen]; exact hj) (by omega) ?_ ?_) ⟨g, fun y hy => (eq_isInt k t hi y (by simpa using hy)).at _ _, q _ s.heap _ Kp.rfl (.int _ _)⟩
  · show isInt k vs[ns.idxOf k] = true
    rw [isInt_at k hi _ (by rw [hlen]; exact hj) hj]
    exact beq_iff_eq.mpr (List.getElem_idxOf hj)
  · intro j hjs hlt
    show isInt k vs[j] = false
    rw [isInt_at k hi j (by simpa using hjs) (Nat.lt_trans hlt hj)]
    exact ne_of_lt_idxOf hlt _
theorem sum_le64 {ys : List Str} (hh : ∀ y ∈ ys, y.length ≤ 64) : (ys.map (·.length)).sum ≤ 64 * ys.length := by
  induction ys with
  | nil => exact Nat.le_refl _
  | cons y ys ih =>
    rw [List.map_cons, List.sum_cons, List.length_cons, Nat.mul_succ, Nat.add_comm]
    exact Nat.add_le_add (ih fun z hz => hh z (.tail _ hz)) (hh y (.head _))
section
variable {o : Expr} {m : Str} {ap p : Pos} {es : List Expr} {od r : Dat} {ds : List Dat} {x y : Str}
noncomputable def MO (G : Gr) (A : Around) (env : Env) (h : Heap) (Ch : List Addr) (o : Expr) (ap p : Pos) (es : List Expr) (m : Str) (r : Dat) : Prop := Ex G A (eval (.Call (.Attribute o m ap) es [] p) env) h fun h' v => DV (FZ h' Ch) v r
theorem str_meth (K : EvOk G O I) (C : EC G O d u A env Ch st h) (hu : 66 ≤ u) (hm : methOk o ap p es = true) (ho : evD I st o = some (.str x)) {d : Dat} (q : argsD I st es = some [d]) {id : String} {b : Dat} (slot : Slot "str" m id) (hty : typeOf (.builtin id) = pure (.type "method_descriptor"))
    (k : ∀ h' t w, Kp h h' → DL h' Ch w d → Ex G A (call (.builtin id) [.str x t, w]) h' fun h' v => DV (FZ h' Ch) v b) : MO G A env h Ch o ap p es m b :=
  meth_call K C hu hm ho q F.plainAttrs_str slot hty strT fun h' v vs kp hv hvs => DV.strE (M := fun v => Ex G A (call (.builtin id) (v :: vs)) h' fun h' v => DV (FZ h' Ch) v b) hv fun t =>
    one_V (M := fun vs => Ex G A (call (.builtin id) (.str x t :: vs)) h' fun h' v => DV (FZ h' Ch) v b) hvs fun w hw => k h' t w kp hw
theorem meth_ok (K : EvOk G O I) (C : EC G O d u A env Ch st h) (hu : 66 ≤ u) (hm : methOk o ap p es = true) (ho : evD I st o = some od) (q : argsD I st es = some ds)
    (e : meth m od ds = some r) : MO G A env h Ch o ap p es m r := by
  cases od with
  | str x =>
    refine methS_E (M := fun ds => argsD I st es = some ds → MO G A env h Ch o ap p es m r) e (fun d e q => ?_) (fun a b c e q => ?_) q
    · cases d with
      | str y =>
        refine oE e (fun hf e => ?_) fun _ e => iE e fun hf e => ?_
        · subst hf
          exact sE (M := MO G A env h Ch o ap p es _) e (str_meth K C hu hm ho q F.slot_str_startswith F.type_str_startswith fun h' t w _ hw => DV.strE (M := fun w => Ex G A (call (.builtin _) [.str x t, w]) h' fun h' v => DV (FZ h' Ch) v _) hw fun u => Ex.bool fun s Q E _ q => SC.startswith q)
        · subst hf
          exact sE (M := MO G A env h Ch o ap p es _) e (str_meth K C hu hm ho q F.slot_str_endswith F.type_str_endswith fun h' t w _ hw => DV.strE (M := fun w => Ex G A (call (.builtin _) [.str x t, w]) h' fun h' v => DV (FZ h' Ch) v _) hw fun u => Ex.bool fun s Q E _ q => SC.endswith q)
      | list ds =>
        refine bE e fun ys hy e => iS (M := MO G A env h Ch o ap p es m) e fun hf => ?_
        obtain ⟨rfl, h1, h2, h3⟩ := hf
        refine str_meth K C hu hm ho q F.slot_str_join F.type_str_join fun h' t w _ hw => ?_
        obtain ⟨a, vs, n, rfl, g, r⟩ := hw
        intro s Q E e q
        subst e
        obtain ⟨hs, hlen⟩ := strsOf_are r hy
        have h4 := sum_le64 (ys := ys) (by simpa using h3)
        have h5 : ys.length * x.length ≤ 64 * 64 := Nat.mul_le_mul (hlen ▸ h2) h1
        exact join_list (items := vs.toArray) ⟨_, g, rfl, n, rfl⟩ (by simpa using hs) (by omega) fun t' k => q _ s.heap k Kp.rfl (.str _ _)
      | _ => exact noE e
    · refine methS3_E (M := fun a b c => argsD I st es = some [a, b, c] → MO G A env h Ch o ap p es m r) e (fun y i j hf hr q => ?_) q
      subst hf hr
      refine meth_call K C hu hm ho q F.plainAttrs_str F.slot_str_find F.type_str_find strT fun h' v vs k hv hvs => ?_
      obtain ⟨w, w2, w3, rfl, hw, hw2, hw3⟩ := all2_three hvs
      refine str2 (N := fun v w => Ex G A (call (.builtin _) [v, w, w2, w3]) h' fun h' v => DV (FZ h' Ch) v _) hv hw fun t u => int2 (N := fun w2 w3 => Ex G A (call (.builtin _) [.str x t, .str y u, w2, w3]) h' fun h' v => DV (FZ h' Ch) v _) hw2 hw3 fun t2 t3 => ?_
      exact Ex.int fun s Q E _ q => call_gives F.slot_str_find (typeIs_str _ _ _) F.entry_str_find (F.args_str_find_4 _ _ _ _) (gives_find4 _ _ _ _ _ _ _ _) q
  | list ds' =>
    refine one_E (M := fun ds => argsD I st es = some ds → MO G A env h Ch o ap p es m r) e (fun d e q => ?_) q
    cases d with
    | int k =>
      refine bE e fun ns hn e => iS (M := MO G A env h Ch o ap p es m) e fun hf => ?_
      obtain ⟨rfl, h1, h2⟩ := hf
      exact meth_call K C hu hm ho q F.plainAttrs_list F.slot_list_index F.type_list_index listT fun h' v vs k' hv hvs => one_V (M := fun vs => Ex G A (call (.builtin _) (v :: vs)) h' fun h' v => DV (FZ h' Ch) v _) hvs fun w hw => index_ok hn h1 h2 hv hw
    | _ => exact noE e
  | _ => exact noE e
end
theorem strVals : ∀ {P : Addr → Obj → Prop} (l : List (Str × Tok)), DVs P (strValues l) ((l.map (·.1)).map Dat.str)
  | _, [] => .nil
  | _, (x, t) :: l => .cons (.str x t) (strVals l)
theorem split_fresh {x y : Str} {v w : Value} (hy : 0 < y.length) (hx : x.length ≤ 4096) (hv : DL h Ch v (.str x)) (hw : DL h Ch w (.str y)) :
    Ex G A (call (.builtin "str.split") [v, w]) h fun h' v => FreshL h h' Ch v ((Txt.split x y).map .str) := by
  cases hv; cases hw
  rename_i t u
  intro s Q E e q
  subst e
  have hy0 : (y.length == 0) = false := by simp; omega
  have fin : ∀ (l : List (Str × Tok)) tk, l.map (·.1) = Txt.split x y → Q (.ref s.heap.objs.size) { s with heap := s.heap.push (W.listOf (strValues l).toArray 0), toks := tk } := by
    intro l tk hl
    refine q _ _ tk (Kp.push _ _) ⟨_, strValues l, 0, rfl, get?_size _, Heap.get?_push_size _ rfl, ?_⟩
    rw [← hl]; exact strVals l
  cases h1 : (decide (x.length < y.length) || decide (strKind x < strKind y))
  · cases hf : (occurrences x y 0 x.length (x.length + 1)).isEmpty
    · refine call_meets F.slot_str_split (typeIs_str _ _ _) F.entry_str_split (F.args_str_split_2 _ _) (meets_str_split_sep x y t u h1 hy0 hf (by rw [sizeLine_eq]; omega) (by have e1 := StrLaws.occ_length_le x y 0 x.length (x.length + 1); rw [length_partsBetween, sizeLine_eq]; omega)) ?_
      rw [strsFrom_eq]
      exact fin _ _ ((numbered_texts _ _).trans ((if_neg (ne_true_of_eq_false h1)).trans (if_neg (ne_true_of_eq_false hf))).symm)
    · exact call_meets F.slot_str_split (typeIs_str _ _ _) F.entry_str_split (F.args_str_split_2 _ _) (meets_str_split_not_found x y t u h1 hy0 hf)
        (fin [(x, t)] _ ((if_neg (ne_true_of_eq_false h1)).trans (if_pos hf)).symm)
  · exact call_meets F.slot_str_split (typeIs_str _ _ _) F.entry_str_split (F.args_str_split_2 _ _) (meets_str_split_cannot_occur x y t u h1)
      (fin [(x, t)] _ (if_pos h1).symm)
end
end Mine
end

section
open PySem PySem.W PyProof.Rows Builtin.Str Builtin
namespace Mine
section
variable {G : Gr} {O : Orc} {I : Itp} {d u : Nat} {A : Around} {env : Env} {Ch : List Addr} {st : LSt} {h : Heap}
theorem cmpR_ok {op : CmpOp} {v w : Value} {x : RV} {y : Dat} {b : Bool} (ctx : CtxOk G A d u h) (hu : 66 ≤ u) (r₁ : RR G h Ch v x) (r₂ : DL h Ch w y) (q : cmpR op x y = some b) : CO G A h Ch op v w b := by
  cases x with
  | st a => exact cmp_ok ctx hu (RR.dl r₁ rfl) r₂ q
  | cur n ds => exact cmp_ok ctx hu (RR.dl r₁ rfl) r₂ q
  | fn f =>
    obtain ⟨⟨a, o, fd, rfl, _⟩, _⟩ := r₁
    cases op with
    | Is => cases y with
      | none => exact sE q (DV.noneE (M := fun w => CO G A h Ch .Is (.ref a) w false) r₂ (Ex.boolE rfl fun s Q E _ q => is_none q))
      | _ => exact noE q
    | _ => exact noE q
theorem cmpE_ok (K : EvOk G O I) (C : EC G O d u A env Ch st h) (hu : 66 ≤ u) {l r : Expr} {op : CmpOp} {b : Bool} (q : cmpE I st l op r = some b) :
    behindInMarks op r = false ∧ ∀ (s : Shared) (Q : Value → Shared → Prop) (E : Value → Shared → Prop), s.heap = h → (∀ h' tk', Kp h h' → Q (.bool b) { s with heap := h', toks := tk' }) →
      wpAny G.M A (eval l env) (fun a s₁ => wpAny G.M A (eval r env) (fun c s₂ => wpAny G.M A (compareOp op a c) Q E s₂) E s₁) E s :=
  nE q fun hm q => bE q fun x hx q => bE q fun y hy q => by
    refine ⟨Bool.of_not_eq_true hm, fun s Q E e q' => ?_⟩
    refine K C hu l x hx s _ E e fun v h₁ tk₁ k₁ r₁ => ?_
    refine evD_ok K (C.keeps k₁) hu hy _ _ E rfl fun w h₂ tk₂ k₂ r₂ => ?_
    refine cmpR_ok (C.ctx.keeps (k₁.trans k₂)) hu (RR.keeps k₂ r₁) r₂ q _ Q E rfl fun v h₃ tk₃ k₃ r₃ => ?_
    exact DV.boolE (M := fun v => Q v { s with heap := h₃, toks := tk₃ }) r₃ (q' h₃ tk₃ ((k₁.trans k₂).trans k₃))
noncomputable def TO (G : Gr) (A : Around) (h : Heap) (env : Env) (e : Expr) (b : Bool) : Prop := Ex G A (PySem.isTrue e env (eval e env)) h fun _ b' => b' = b
noncomputable def AO (G : Gr) (A : Around) (h : Heap) (env : Env) (op : BoolOp) (l : List Expr) (b : Bool) : Prop := Ex G A (allTrue op l env) h fun _ b' => b' = b
theorem allTrue_step {op : BoolOp} {x : Expr} {rest : List Expr} {a b : Bool} {o : Option Bool} (hx : TO G A h env x a) (q : andOr op a o = some b) (hq : o = some b → ∀ h', Kp h h' → AO G A h' env op rest b) : AO G A h env op (x :: rest) b := by
  intro s Q E e q'
  cases op with
  | And =>
    refine wpAny_allTrue_And_cons (hx s _ E e fun v h₁ tk₁ k₁ r₁ => ?_)
    subst r₁
    cases v with
    | false => cases q; exact q' _ h₁ tk₁ k₁ rfl
    | true => exact hq q h₁ k₁ _ Q E rfl fun v h₂ tk₂ k₂ r₂ => q' v h₂ tk₂ (k₁.trans k₂) r₂
  | Or =>
    refine wpAny_allTrue_Or_cons (hx s _ E e fun v h₁ tk₁ k₁ r₁ => ?_)
    subst r₁
    cases v with
    | true => cases q; exact q' _ h₁ tk₁ k₁ rfl
    | false => exact hq q h₁ k₁ _ Q E rfl fun v h₂ tk₂ k₂ r₂ => q' v h₂ tk₂ (k₁.trans k₂) r₂
theorem allTrue_nil {op : BoolOp} : AO G A h env op [] (op == BoolOp.And) := fun s Q E e q => by
  subst e
  cases op with
  | And => exact wpAny_allTrue_And_nil (q _ s.heap s.toks Kp.rfl rfl)
  | Or => exact wpAny_allTrue_Or_nil (q _ s.heap s.toks Kp.rfl rfl)
theorem allTrue_last {op : BoolOp} {x : Expr} {b : Bool} (hx : TO G A h env x b) : AO G A h env op [x] b :=
  allTrue_step (o := some (op == BoolOp.And)) hx (by cases op <;> cases b <;> rfl) fun q _ _ => Option.some.inj q ▸ allTrue_nil
theorem tstN_ok {v : Value} {a : RV} {b : Bool} {s : Shared} {Q : Bool → Shared → Prop} {E : Value → Shared → Prop} (r : RR G s.heap Ch v a) (q : tstN a = some b) (q' : ∀ tk', Q b { s with toks := tk' }) : wpAny G.M A (truthy v) Q E s := by
  cases a with
  | st d => cases d with
    | str y =>
      refine iS (M := fun b => (∀ tk', Q b { s with toks := tk' }) → wpAny G.M A (truthy v) Q E s) q (fun hl q' => DV.strE (M := fun v => wpAny G.M A (truthy v) Q E s) r fun t => PySem.P.truthy_str (by omega) ?_) q'
      have : (((y.length : Nat) : Int) != 0) = (y.length != 0) := by
        rw [Bool.eq_iff_iff]; simp
      rw [this]
      exact q' _
    | bool b => exact DV.boolE (M := fun v => wpAny G.M A (truthy v) Q E s) r (wpAny_truthy_bool (Option.some.inj q ▸ q' s.toks))
    | _ => exact noE q
  | _ => exact noE q
theorem tstB_N {a : RV} {b : Bool} (q : tstB a = some b) : tstN a = some b := by
  cases a with
  | st d => cases d with
    | bool b => exact q
    | _ => exact noE q
  | _ => exact noE q
theorem tst0_ok (K : EvOk G O I) (C : EC G O d u A env Ch st h) (hu : 66 ≤ u) {e : Expr} {b : Bool} (q : tst0 I st e = some b) : TO G A h env e b := by
  have val : ∀ {e : Expr}, (I.ev st e).bind tstN = some b → (∀ (s : Shared) (Q : Bool → Shared → Prop) (E : Value → Shared → Prop), wpAny G.M A (eval e env) (fun v s' => wpAny G.M A (truthy v) Q E s') E s → wpAny G.M A (PySem.isTrue e env (eval e env)) Q E s) → TO G A h env e b :=
    fun q k => bE q fun a ha q s Q E e q' => k s Q E (K C hu _ _ ha s _ E e fun v h₁ tk₁ k₁ r₁ => tstN_ok r₁ q fun tk' => q' _ h₁ tk' k₁ rfl)
  refine pick_cases (M := fun e => tst0 I st e = some b → TO G A h env e b) e (fun x p q => val q fun s Q E => wpAny_isTrue_value) (fun _ _ _ => noE) (fun _ _ _ _ => noE) (fun _ _ _ => noE) (fun f as kw p q => val (bE q fun a ha q => by rw [ha]; exact tstB_N q) fun s Q E => wpAny_isTrue_value)
    (fun _ _ _ => noE) (fun _ _ _ _ => noE) (fun _ _ _ => noE) (fun l ops rs p q => ?_) (fun h q => noE ((h _ _ _ _ _ _ _ _ _ _).symm.trans q)) q
  refine one_E (M := fun ops => TO G A h env (.Compare l ops rs p) b) q fun op q => one_E (M := fun rs => TO G A h env (.Compare l [op] rs p) b) q fun r q => ?_
  obtain ⟨hm, x⟩ := cmpE_ok K C hu q
  exact fun s Q E e q' => wpAny_isTrue_Compare1 (x s _ E e fun h₁ tk₁ k₁ => wpAny_truthy_bool (q' _ h₁ tk₁ k₁ rfl)) hm
theorem tstL_ok (K : EvOk G O I) (C : EC G O d u A env Ch st h) (hu : 66 ≤ u) {op : BoolOp} {l : List Expr} {b : Bool} (q : tstL I st op l = some b) : AO G A h env op l b := by
  cases l with
  | nil => exact noE q
  | cons x l => cases l with
    | nil => exact noE q
    | cons y l => cases l with
      | nil => exact bE q fun a ha q => allTrue_step (tst0_ok K C hu ha) q fun q h' k => allTrue_last (tst0_ok K (C.keeps k) hu q)
      | cons z l => cases l with
        | nil => exact bE q fun a ha q => allTrue_step (tst0_ok K C hu ha) q fun q h' k => bE q fun a ha q => allTrue_step (tst0_ok K (C.keeps k) hu ha) q fun q h'' k' => allTrue_last (tst0_ok K (C.keeps (k.trans k')) hu q)
        | cons _ _ => exact noE q
theorem tst_ok (K : EvOk G O I) (C : EC G O d u A env Ch st h) (hu : 66 ≤ u) {e : Expr} {b : Bool} (q : tst I st e = some b) : TO G A h env e b := by
  cases e with
  | BoolOp op l p => exact fun s Q E e q' => wpAny_isTrue_BoolOp (tstL_ok K C hu q s Q E e q')
  | UnaryOp op x p => exact iE q fun ho q => ho ▸ mE (M := TO G A h env (.UnaryOp .Not x p)) q fun a ha s Q E e q' => wpAny_isTrue_Not (tst0_ok K C hu ha s _ E e fun v h₁ tk₁ k₁ r₁ => q' _ h₁ tk₁ k₁ (by rw [r₁]))
  | _ => exact tst0_ok K C hu q
inductive ItV (h : Heap) (X : List Addr) : Value → List Dat → Prop
  | list {a : Addr} {vs : List Value} {n : Nat} {ds : List Dat} : h.get? a = some (W.listOf vs.toArray n) → DVs (FZ h X) vs ds → ItV h X (.ref a) ds
  | tup {a : Addr} {vs : List Value} {n : Nat} {ds : List Dat} : h.get? a = some ({ cls := .type "tuple", data := .seq vs.toArray n } : Obj) → DVs (FZ h X) vs ds → ItV h X (.ref a) ds
  | str (x : Str) (t : Tok) : ItV h X (.str x t) (signs x)
  | range {a : Addr} {lo hi : Int} {t u v : Tok} : IsRange h a lo hi 1 t u v → 0 ≤ lo → lo ≤ hi → hi ≤ 4096 → ItV h X (.ref a) ((List.range (hi - lo).toNat).map fun i => .int (lo + (i : Nat)))
theorem range_ok (C : EC G O d u A env Ch st h) {f : Str} {p pos : Pos} {es : List Expr} {R : Heap → Value → Prop} (hf : isGlo st f = true) (hr : f = Str.ofString "range") (hp : es.all plainE = true)
    (hc : ∀ h₁, Kp h h₁ → Ex G A (spliced (backTo pos (starEach es env))) h₁ fun h' vs => Ex G A (call (.type "range") vs) h' R) : Ex G A (eval (.Call (.Name f p) es [] pos) env) h R := by
  subst hr
  have hg : st.get (Str.ofString "range") = some .glo := by
    unfold isGlo at hf
    split at hf
    · assumption
    · cases hf
  obtain ⟨hd, hk⟩ := C.nm _ _ hg
  intro s Q E e q'
  show wpAny G.M A (do callWith pos (← eval (.Name (Str.ofString "range") p) env) [] (backTo pos (starEach es env)) []) Q E s
  refine wpAny_bind (name_bi C hk (by decide) boot_range hd s _ E e fun v h₁ tk₁ k₁ r₁ => ?_)
  subst r₁
  refine PySem.callWith_type (backTo_noStar hp) (evalArgs_items hp ?_)
  refine hc h₁ k₁ _ _ E rfl fun vs h₂ tk₂ k₂ r₂ => ?_
  exact r₂ _ Q E rfl fun v h₃ tk₃ k₃ r₃ => q' v h₃ tk₃ ((k₁.trans k₂).trans k₃) r₃
theorem one_item {e : Expr} {pos : Pos} (he : plainE e = true) {R : Heap → Value → Prop} (x : ∀ h₁, Kp h h₁ → Ex G A (eval e env) h₁ R) : ∀ h₁, Kp h h₁ → Ex G A (spliced (backTo pos (starEach [e] env))) h₁ fun h' vs => ∃ v, vs = [v] ∧ R h' v := by
  intro h₁ k s Q E e' q
  refine wpAny_items_cons (x h₁ k s _ E e' fun v h₂ tk₂ k₂ r₂ => ?_) (starEach_cons he)
  exact wpAny_items_nil (q _ h₂ tk₂ k₂ ⟨v, rfl, r₂⟩)
noncomputable def ItG (G : Gr) (A : Around) (env : Env) (h : Heap) (Ch : List Addr) (D : Heap → Value → Dat → Prop) (e : Expr) (ds : List Dat) : Prop :=
  Ex G A (eval e env) h fun h' v => ItV h' Ch v ds ∧ ds.length ≤ 4096 ∧ ∀ b, v = .ref b → h.get? b = none ∨ ∃ r, D h' v r
section
variable {D : Heap → Value → Dat → Prop} {f : Str} {p pos : Pos} {e e' : Expr} {ds : List Dat}
theorem new_ref {h h' : Heap} (k : Kp h h') {o : Obj} {P : Prop} : ∀ b, Value.ref h'.objs.size = .ref b → h.get? b = none ∨ P := fun b e => by
  cases e
  exact .inl (none_of_kp k (get?_size _))
theorem range1_it (K : EvOk G O I) (C : EC G O d u A env Ch st h) (hu : 66 ≤ u) (hf : f = Str.ofString "range" ∧ isGlo st f = true ∧ plainE e = true) {n : Int} (hn : evI I st e = some n) (hb : 0 ≤ n ∧ n ≤ 4096) :
    ItG G A env h Ch D (.Call (.Name f p) [e] [] pos) ((List.range n.toNat).map fun i => .int (i : Nat)) := by
  refine range_ok C hf.2.1 hf.1 (by rw [List.all_cons, hf.2.2]; rfl) (fun h₁ k₁ => (one_item hf.2.2 (fun h₁ k => evI_ok K (C.keeps k) hu hn) h₁ k₁).weak fun h₂ vs k₂ ⟨v, e, t, ev⟩ => ?_)
  subst e; subst ev
  intro s Q E e q
  subst e
  refine call_range_1 (q _ _ _ (Kp.push _ _) ⟨?_, by rw [List.length_map, List.length_range]; omega, new_ref (o := default) (k₁.trans k₂)⟩)
  have := ItV.range (X := Ch) (IsRange.new s.heap 0 n 1 s.toks t (s.toks + 1)) (Int.le_refl 0) hb.1 hb.2
  simpa only [Int.sub_zero, Int.zero_add] using this
theorem range2_it (K : EvOk G O I) (C : EC G O d u A env Ch st h) (hu : 66 ≤ u) (hf : f = Str.ofString "range" ∧ isGlo st f = true ∧ plainE e = true ∧ plainE e' = true) {a b : Int} (ha : evI I st e = some a) (hb : evI I st e' = some b) (hc : 0 ≤ a ∧ a ≤ b ∧ b ≤ 4096) :
    ItG G A env h Ch D (.Call (.Name f p) [e, e'] [] pos) ((List.range (b - a).toNat).map fun i => .int (a + (i : Nat))) := by
  refine range_ok C hf.2.1 hf.1 (by rw [List.all_cons, List.all_cons, hf.2.2.1, hf.2.2.2]; rfl) (fun h₁ k₁ => ?_)
  intro s Q E e₀ q'
  refine wpAny_items_cons (evI_ok K (C.keeps k₁) hu ha s _ E e₀ fun v h₂ tk₂ k₂ ⟨t', r₂⟩ => ?_) (starEach_cons hf.2.2.1)
  refine one_item hf.2.2.2 (fun h₁ k => evI_ok K (C.keeps ((k₁.trans k₂).trans k)) hu hb) h₂ Kp.rfl _ _ E rfl fun vs h₃ tk₃ k₃ ⟨w, ev, u', ew⟩ => ?_
  subst ev; subst ew; subst r₂
  refine q' _ h₃ tk₃ (k₂.trans k₃) ?_
  intro s' Q' E' e' q
  subst e'
  exact call_range_2 (q _ _ _ (Kp.push _ _) ⟨ItV.range (X := Ch) (IsRange.new s'.heap a b 1 t' u' s'.toks) hc.1 hc.2.1 hc.2.2, by rw [List.length_map, List.length_range]; omega, new_ref (o := default) ((k₁.trans k₂).trans k₃)⟩)
theorem tup_it (K : EvOk G O I) (C : EC G O d u A env Ch st h) (hu : 66 ≤ u) {es : List Expr} {n : Nat} (hl : es.length ≤ 64) (q : argsV I st es = some ds) : ItG G A env h Ch D (.Tuple es n pos) ds := by
  intro s Q E e q'
  have hlen : ds.length ≤ 64 := argsV_len q ▸ hl
  refine wpAny_Tuple (argsV_ok K C hu q s _ E e fun vs h₁ tk₁ k₁ r₁ => ⟨by rw [r₁.length, sizeLine_eq]; exact Nat.le_trans hlen (by decide), ?_⟩)
  exact q' _ _ tk₁ (k₁.trans (Kp.push _ _)) ⟨.tup (Heap.get?_push_size _ rfl) (r₁.mono (FZ.mono (Kp.push _ _))), Nat.le_trans hlen (by decide), new_ref (o := default) k₁⟩
theorem listO_it {h' : Heap} {v : Value} {r : Dat} (x : D h' v r) (y : DL h' Ch v r) (q : listO r = some ds) : ItV h' Ch v ds ∧ ds.length ≤ 4096 ∧ ∀ b, v = .ref b → h.get? b = none ∨ ∃ r, D h' v r := by
  cases r with
  | list ds =>
    refine iS (M := fun ds => ItV h' Ch v ds ∧ ds.length ≤ 4096 ∧ ∀ b, v = .ref b → h.get? b = none ∨ ∃ r, D h' v r) q fun hl => ?_
    obtain ⟨a, vs, n, rfl, g, r⟩ := y
    exact ⟨.list g r, hl, fun b e => .inr ⟨_, x⟩⟩
  | str s => exact iS (M := fun ds => ItV h' Ch v ds ∧ ds.length ≤ 4096 ∧ ∀ b, v = .ref b → h.get? b = none ∨ ∃ r, D h' v r) q fun hl => DV.strE (M := fun v => ItV h' Ch v (signs s) ∧ (signs s).length ≤ 4096 ∧ ∀ b, v = .ref b → h.get? b = none ∨ ∃ r, D h' v r) y fun t =>
      ⟨.str _ _, by simpa [signs, Str.length] using hl, fun b e => nomatch e⟩
  | _ => exact noE q
theorem rangeI_it (K : EvOk G O I) (C : EC G O d u A env Ch st h) (hu : 66 ≤ u) {as : List Expr} (q : rangeI I st f as = some ds) : ItG G A env h Ch D (.Call (.Name f p) as [] pos) ds := by
  cases as with
  | nil => exact noE q
  | cons a as => cases as with
    | nil => exact iE q fun hf q => bE q fun n hn q => iS (M := ItG G A env h Ch D (.Call (.Name f p) [a] [] pos)) q fun hb => range1_it K C hu hf hn hb
    | cons b as => cases as with
      | nil => exact iE q fun hf q => bE q fun n hn q => bE q fun m hm q => iS (M := ItG G A env h Ch D (.Call (.Name f p) [a, b] [] pos)) q fun hb => range2_it K C hu hf hn hm hb
      | cons _ _ => exact noE q
theorem items_it (K : EvOk G O I) (C : EC G O d u A env Ch st h) (hu : 66 ≤ u) {g : LSt → Expr → Option Dat}
    (hg : ∀ {e : Expr} {r : Dat}, g st e = some r → Ex G A (eval e env) h fun h' v => D h' v r) (hD : ∀ h' v r, D h' v r → DL h' Ch v r) (q : itemsOf I g st e = some ds) : ItG G A env h Ch D e ds :=
  oM q (fun c hc q => callOf_E (M := fun e => ItG G A env h Ch D e ds) hc fun p pos => rangeI_it K C hu q) fun _ q => oM q (fun es he q => tupOf_E (M := fun e => ItG G A env h Ch D e ds) he fun n pos => iE q fun hl q => tup_it K C hu hl q)
    fun _ q => nE q fun _ q => bE q fun r hr q => (hg hr).weak fun h' v _ x => listO_it x (hD _ _ _ x) q
end
structure IterOk (G : Gr) (h : Heap) (X : List Addr) (xv : Value) (I : Addr) (ds : List Dat) (h' : Heap) (fp : List Addr) (P : Nat → Value → Prop) (St : Nat → Heap → Prop) : Prop where
  walks : ∀ A : Around, A.handled = none → Walks G.prog G.w A I fp [I] ds.length P St
  st : St 0 h'
  new : h.get? I = none
  live : ∀ i h, St i h → ∃ o, h.get? I = some o
  fps : ∀ b ∈ fp, b = I ∨ xv = .ref b
  items : ∀ i v, i < ds.length → P i v → ∃ e, ds[i]? = some e ∧ DV (FZ h X) v e
theorem iter_ok {xv : Value} {ds : List Dat} (hh : A.handled = none) (x : ItV h Ch xv ds) : Ex G A (pyIter xv) h fun h' v => ∃ I fp P St, v = .ref I ∧ IterOk G h Ch xv I ds h' fp P St := by
  intro s Q E e q
  subst e
  cases x with
  | list g r =>
    rename_i a vs n
    have il : s.heap.IsList a vs.toArray := ⟨_, g, rfl, n, rfl⟩
    refine wpAny_pyIter_list il (q _ _ s.toks (Kp.push _ _) ⟨s.heap.objs.size, [s.heap.objs.size, a], (fun i v => vs.toArray[i]? = some v), (fun i h => h.IsListIter s.heap.objs.size a i ∧ h.IsList a vs.toArray), rfl, ?_⟩)
    have hne : a ≠ s.heap.objs.size := Nat.ne_of_lt (Heap.lt_size g)
    refine ⟨fun A' hA => ?_, ?_, get?_size _, fun i h st => by obtain ⟨⟨o, ho, _⟩, _⟩ := st; exact ⟨o, ho⟩, ?_, fun i v hi hP => ?_⟩
    · have W := Walks.list (prog := G.prog) (w := G.w) hA s.heap.objs.size a hne vs.toArray
      have hlen : vs.toArray.size = ds.length := by simp [r.length]
      rw [hlen] at W
      exact W
    · exact ⟨⟨_, Heap.get?_push_size _ rfl, rfl, rfl⟩, il.at fun o e => Heap.get?_push_of_some _ e⟩
    · intro b hb
      simp at hb
      rcases hb with rfl | rfl
      · exact .inl rfl
      · exact .inr rfl
    · obtain ⟨e, he, hd⟩ := r.getV (k := i) (v := v) (by simpa using hP)
      exact ⟨e, he, hd⟩
  | tup g r =>
    rename_i a vs n
    have il : s.heap.IsTuple a vs.toArray := ⟨_, g, rfl, n, rfl⟩
    refine wpAny_pyIter_tuple il (q _ _ s.toks (Kp.push _ _) ⟨s.heap.objs.size, [s.heap.objs.size, a], (fun i v => vs.toArray[i]? = some v), (fun i h => h.IsTupleIter s.heap.objs.size a i ∧ h.IsTuple a vs.toArray), rfl, ?_⟩)
    have hne : a ≠ s.heap.objs.size := Nat.ne_of_lt (Heap.lt_size g)
    refine ⟨fun A' hA => ?_, ?_, get?_size _, fun i h st => by obtain ⟨⟨o, ho, _⟩, _⟩ := st; exact ⟨o, ho⟩, ?_, fun i v hi hP => ?_⟩
    · have W := Walks.tuple (prog := G.prog) (w := G.w) hA s.heap.objs.size a hne vs.toArray
      have hlen : vs.toArray.size = ds.length := by simp [r.length]
      rw [hlen] at W
      exact W
    · exact ⟨⟨_, Heap.get?_push_size _ rfl, rfl, rfl⟩, ⟨_, Heap.get?_push_of_some _ g, rfl, n, rfl⟩⟩
    · intro b hb
      simp at hb
      rcases hb with rfl | rfl
      · exact .inl rfl
      · exact .inr rfl
    · obtain ⟨e, he, hd⟩ := r.getV (k := i) (v := v) (by simpa using hP)
      exact ⟨e, he, hd⟩
  | str x t =>
    have fin : ∀ (T : String) (o : Obj) (St : Nat → Heap → Prop), (∀ i h, St i h → ∃ o, h.get? s.heap.objs.size = some o) → (∀ A' : Around, A'.handled = none → Walks G.prog G.w A' s.heap.objs.size [s.heap.objs.size] [s.heap.objs.size] x.cps.size (SignAt x) St) → St 0 (s.heap.push o) → Q (.ref s.heap.objs.size) { s with heap := s.heap.push o } := fun _ o St ho W st =>
      q _ _ s.toks (Kp.push _ _) ⟨s.heap.objs.size, [s.heap.objs.size], SignAt x, St, rfl, ⟨fun A' hA => by
        have := W A' hA
        simpa [signs] using this, st, get?_size _, ho, fun b hb => by
        simp at hb
        exact .inl hb, fun i v _ hP => by
        obtain ⟨c, u, hc, rfl⟩ := hP
        refine ⟨.str ⟨#[c]⟩, ?_, .str _ _⟩
        simp [signs, hc]⟩⟩
    cases ha : x.cps.all (· < 128)
    · exact wpAny_pyIter_wide ha (fin "" _ _ (fun i h st => by obtain ⟨o, ho, _⟩ := st; exact ⟨o, ho⟩) (fun A' hA => Walks.strWide hA _ x t) ⟨_, Heap.get?_push_size _ rfl, rfl, rfl⟩)
    · exact wpAny_pyIter_ascii ha (fin "" _ _ (fun i h st => by obtain ⟨o, ho, _⟩ := st; exact ⟨o, ho⟩) (fun A' hA => Walks.strAscii hA _ x t) ⟨_, Heap.get?_push_size _ rfl, rfl, rfl⟩)
  | range hr h0 h1 h2 =>
    rename_i a lo hi t u v
    have hsm : Builtin.Range.small lo hi 1 = true := small_one (by omega) (by omega) (by omega) (by omega)
    refine wpAny_pyIter_range hr hsm (q _ _ s.toks (Kp.push _ _) ⟨s.heap.objs.size, [s.heap.objs.size], (fun i v => ∃ t, v = .int (lo + (i : Int) * 1) t), (fun i h => IsRangeIter h s.heap.objs.size (lo + (i : Int) * 1) ((((hi - lo).toNat : Nat) : Int) - i) 1), rfl, ?_⟩)
    have hsz : Builtin.Range.rangeSize lo hi 1 = hi - lo := by
      rw [rangeSize_one]; split <;> omega
    refine ⟨fun A' hA => ?_, ?_, get?_size _, fun i h st => ⟨_, st⟩, ?_, fun i v hlt hP => ?_⟩
    · have W := Walks.range (prog := G.prog) (w := G.w) hA s.heap.objs.size lo 1 (hi - lo).toNat
      have hlen : ((List.range (hi - lo).toNat).map fun i => Dat.int (lo + (i : Nat))).length = (hi - lo).toNat := by simp
      rw [hlen]
      exact W
    · have e1 : lo + ((0 : Nat) : Int) * 1 = lo := by omega
      have e2 : (((hi - lo).toNat : Nat) : Int) - ((0 : Nat) : Int) = hi - lo := by omega
      show IsRangeIter _ _ (lo + ((0 : Nat) : Int) * 1) ((((hi - lo).toNat : Nat) : Int) - ((0 : Nat) : Int)) 1
      rw [e1, e2, hsz]
      exact Heap.get?_push_size _ rfl
    · intro b hb
      simp at hb
      exact .inl hb
    · obtain ⟨t, rfl⟩ := hP
      have hi' : i < (hi - lo).toNat := by simpa using hlt
      refine ⟨.int (lo + (i : Nat)), by simp [hi'], ?_⟩
      rw [Int.mul_one]
      exact .int _ _
end
end Mine
end

section
open PySem PySem.W PyProof.Rows Builtin.Str Builtin
namespace Mine
section
variable {G : Gr} {O : Orc} {I : Itp} {d u : Nat} {A : Around} {env : Env} {Ch : List Addr} {st : LSt} {h : Heap}
noncomputable def closFrom (env : Env) : List (Str × NameKind) → List (Str × Addr) → List (Str × Addr)
  | [], acc => acc
  | (x, k) :: r, acc => closFrom env r (if k == .free then (match env.cells.lookup x with | some c => (x, c) :: acc | none => acc) else acc)
theorem closure_eq {scope : Scope} (hf : ∀ p ∈ scope.names, p.2 = .free → ∃ c, env.cells.lookup p.1 = some c) : closureFor scope env = pure (closFrom env scope.names []) := by
  have key : ∀ (names : List (Str × NameKind)) (acc : List (Str × Addr)), (∀ p ∈ names, p.2 = .free → ∃ c, env.cells.lookup p.1 = some c) →
      (forIn names acc fun (p : Str × NameKind) cs => (do
        if p.2 == .free then do
          let c ← cellOf env p.1
          pure (ForInStep.yield ((p.1, c) :: cs))
        else pure (ForInStep.yield cs) : Sem (ForInStep (List (Str × Addr))))) = pure (closFrom env names acc) := by
    intro names
    induction names with
    | nil => intro acc _; rfl
    | cons p r ih =>
      intro acc hh
      obtain ⟨x, k⟩ := p
      rw [List.forIn_cons]
      by_cases hk : k = .free
      · subst hk
        obtain ⟨c, hc⟩ := hh _ (.head _) rfl
        have e1 : cellOf env x = pure c := by unfold cellOf; simp only at hc; rw [hc]
        simp only [beq_self_eq_true, if_true, e1, pure_bind, closFrom]
        simp only at hc
        rw [hc]
        exact ih _ fun p hp => hh p (.tail _ hp)
      · have : (k == NameKind.free) = false := by simpa using hk
        simp only [this, Bool.false_eq_true, if_false, pure_bind, closFrom]
        exact ih _ fun p hp => hh p (.tail _ hp)
  have z : closureFor scope env = (forIn scope.names [] fun (p : Str × NameKind) cs => (do
        if p.2 == .free then do
          let c ← cellOf env p.1
          pure (ForInStep.yield ((p.1, c) :: cs))
        else pure (ForInStep.yield cs) : Sem (ForInStep (List (Str × Addr))))) >>= pure := rfl
  rw [z, key scope.names [] hf]
  rfl
theorem closFrom_lookup {x : Str} : ∀ (names : List (Str × NameKind)) (acc : List (Str × Addr)), (∀ p ∈ names, p.2 = .free → ∃ c, env.cells.lookup p.1 = some c) →
    (∀ y c, acc.lookup y = some c → env.cells.lookup y = some c) → (((x, NameKind.free) ∈ names) ∨ (acc.lookup x).isSome) → (closFrom env names acc).lookup x = env.cells.lookup x := by
  intro names
  induction names with
  | nil =>
    intro acc _ ha hx
    obtain ⟨c, hc⟩ := Option.isSome_iff_exists.mp (hx.resolve_left fun h => nomatch h)
    exact hc.trans (ha _ _ hc).symm
  | cons p r ih =>
    obtain ⟨y, k⟩ := p
    intro acc hf ha hx
    by_cases hk : k = .free
    · subst hk
      obtain ⟨c, hc⟩ := hf _ (.head _) rfl
      have e : closFrom env ((y, .free) :: r) acc = closFrom env r ((y, c) :: acc) := by
        show closFrom env r (match env.cells.lookup y with | some c => (y, c) :: acc | none => acc) = _
        rw [hc]
      rw [e]
      refine ih _ (fun p hp => hf p (.tail _ hp)) (fun z e hz => ?_) ?_
      · rw [List.lookup_cons] at hz
        cases hzy : z == y with
        | true => rw [hzy] at hz; cases hz; rw [eq_of_beq hzy]; exact hc
        | false => rw [hzy] at hz; exact ha _ _ hz
      · rw [List.lookup_cons]
        cases hxy : x == y with
        | true => exact .inr rfl
        | false => exact hx.imp (fun h => (List.mem_cons.mp h).resolve_left fun e => by cases e; rw [beq_self_eq_true] at hxy; cases hxy) id
    · have e : closFrom env ((y, k) :: r) acc = closFrom env r acc := by cases k <;> first | rfl | exact absurd rfl hk
      rw [e]
      exact ih acc (fun p hp => hf p (.tail _ hp)) ha (hx.imp (fun h => (List.mem_cons.mp h).resolve_left fun e => by cases e; exact hk rfl) id)
theorem freeOf_E {capt : Str → Bool} {M : List (Str × NameKind) → LSt → Prop} (n : M [] []) (f : ∀ x l r c, st.get x = some l → l ≠ .glo → capt x = true → M r c → M ((x, .free) :: r) ((x, l) :: c))
    (g : ∀ x r c, M r c → M ((x, .globalImplicit) :: r) ((x, .glo) :: c)) (o : ∀ x k r c, k ≠ .free → M r c → M ((x, k) :: r) c) : ∀ {names : List (Str × NameKind)} {cap : LSt}, freeOf capt st names = some cap → M names cap := by
  intro names
  induction names with
  | nil => intro cap q; exact sE q n
  | cons p r ih =>
    obtain ⟨x, k⟩ := p
    intro cap q
    cases k with
    | free =>
      replace q : (match st.get x with | some .glo => none | some l => if capt x then (freeOf capt st r).map ((x, l) :: ·) else none | none => none) = some cap := q
      cases hl : st.get x with
      | none => rw [hl] at q; exact noE q
      | some l =>
        rw [hl] at q
        have fin : l ≠ .glo → (if capt x then (freeOf capt st r).map ((x, l) :: ·) else none) = some cap → M ((x, .free) :: r) cap := fun hn q => iE q fun hc q => mE (M := M ((x, .free) :: r)) q fun c hc' => f x l r c hl hn hc (ih hc')
        cases l with
        | glo => exact noE q
        | _ => exact fin (fun e => nomatch e) q
    | globalImplicit => exact mE (M := M ((x, .globalImplicit) :: r)) q fun c hc => g x r c (ih hc)
    | _ => exact o x _ r cap (fun e => nomatch e) (ih q)
theorem freeOf_get {capt : Str → Bool} {names : List (Str × NameKind)} {cap : LSt} (q : freeOf capt st names = some cap) : ∀ x l, cap.get x = some l → ((x, NameKind.free) ∈ names ∧ st.get x = some l ∧ l ≠ .glo ∧ capt x = true) ∨ ((x, NameKind.globalImplicit) ∈ names ∧ l = .glo) := by
  refine freeOf_E (M := fun names cap => ∀ x l, cap.get x = some l → ((x, NameKind.free) ∈ names ∧ st.get x = some l ∧ l ≠ .glo ∧ capt x = true) ∨ ((x, NameKind.globalImplicit) ∈ names ∧ l = .glo)) (fun _ _ e => nomatch e) (fun y m r c h1 h2 h3 ih x l e => ?_) (fun y r c ih x l e => ?_) (fun y k r c _ ih x l e => (ih x l e).imp (fun a => ⟨.tail _ a.1, a.2⟩) fun a => ⟨.tail _ a.1, a.2⟩) q
  · by_cases hy : y = x
    · subst hy
      have e : some m = some l := (if_pos rfl).symm.trans e
      cases e
      exact .inl ⟨.head _, h1, h2, h3⟩
    · exact (ih x l ((if_neg hy).symm.trans e)).imp (fun a => ⟨.tail _ a.1, a.2⟩) fun a => ⟨.tail _ a.1, a.2⟩
  · by_cases hy : y = x
    · subst hy
      exact .inr ⟨.head _, (Option.some.inj ((if_pos rfl).symm.trans e)).symm⟩
    · exact (ih x l ((if_neg hy).symm.trans e)).imp (fun a => ⟨.tail _ a.1, a.2⟩) fun a => ⟨.tail _ a.1, a.2⟩
theorem freeOf_free {capt : Str → Bool} {names : List (Str × NameKind)} {cap : LSt} (q : freeOf capt st names = some cap) : ∀ p ∈ names, p.2 = .free → ∃ l, st.get p.1 = some l ∧ l ≠ .glo ∧ capt p.1 = true :=
  freeOf_E (M := fun names _ => ∀ p ∈ names, p.2 = .free → ∃ l, st.get p.1 = some l ∧ l ≠ .glo ∧ capt p.1 = true) (fun _ h => nomatch h) (fun y m r c h1 h2 h3 ih p hp hk => (List.mem_cons.mp hp).elim (fun e => e ▸ ⟨m, h1, h2, h3⟩) fun hp => ih p hp hk)
    (fun y r c ih p hp hk => (List.mem_cons.mp hp).elim (fun e => by rw [e] at hk; cases hk) fun hp => ih p hp hk) (fun y k r c hn ih p hp hk => (List.mem_cons.mp hp).elim (fun e => absurd (by rw [e] at hk; exact hk) hn) fun hp => ih p hp hk) q
theorem LSt.get_app : ∀ (a b : LSt) (x : Str) (l : LV), (a ++ b).get x = some l → a.get x = some l ∨ (a.get x = none ∧ b.get x = some l) := by
  intro a b x l
  induction a with
  | nil => exact fun e => .inr ⟨rfl, e⟩
  | cons p r ih =>
    intro e
    show (if p.1 = x then some p.2 else LSt.get r x) = some l ∨ ((if p.1 = x then some p.2 else LSt.get r x) = none ∧ _)
    replace e : (if p.1 = x then some p.2 else LSt.get (r ++ b) x) = some l := e
    by_cases hx : p.1 = x
    · rw [if_pos hx] at e ⊢; exact .inl e
    · rw [if_neg hx] at e ⊢; exact ih e
theorem lookup_mapK {f : Str → NameKind → NameKind} {x : Str} : ∀ l : List (Str × NameKind), (l.map fun p => (p.1, f p.1 p.2)).lookup x = (l.lookup x).map (f x)
  | [] => rfl
  | (y, k) :: r => by
    rw [List.map_cons, List.lookup_cons, List.lookup_cons]
    by_cases hxy : (x == y) = true
    · have e := eq_of_beq hxy
      subst e
      simp
    · have hxy : (x == y) = false := by simpa using hxy
      simp only [hxy]
      exact lookup_mapK r
theorem relabel_lookup {x : Str} {sc : Scope} {env : Env} : (relabel sc env).names.lookup x = (sc.names.lookup x).map fun k => if (k == .free && env.scope.kind == .function && env.kindOf x == some .cell) = true then .cell else k := by
  have e : (relabel sc env).names = sc.names.map fun p => (p.1, (fun y k => if (k == NameKind.free && env.scope.kind == .function && env.kindOf y == some .cell) = true then NameKind.cell else k) p.1 p.2) := by
    unfold relabel
    simp only
    congr 1
    funext p
    obtain ⟨y, k⟩ := p
    simp only
    split <;> rfl
  rw [e]
  exact lookup_mapK (f := fun y k => if (k == NameKind.free && env.scope.kind == .function && env.kindOf y == some .cell) = true then NameKind.cell else k) _
theorem FZ.more {h' : Heap} {N : List Addr} (k : Kp h h') (hn : ∀ a ∈ N, h.get? a = none) : ∀ a o, FZ h Ch a o → FZ h' (N ++ Ch) a o := fun a o x => ⟨k _ _ x.1, fun m => by
  rcases List.mem_append.mp m with m | m
  · have y := x.1; rw [hn a m] at y; cases y
  · exact x.2 m⟩
theorem LRel.more {h' : Heap} {N : List Addr} {v : Value} {l : LV} (k : Kp h h') (hn : ∀ a ∈ N, h.get? a = none) (x : LRel G h Ch v l) : LRel G h' (N ++ Ch) v l := by
  cases l with
  | val _ => exact DV.mono (FZ.more k hn) x
  | own _ =>
    obtain ⟨a, vs, n, e, c, g, r⟩ := x
    exact ⟨a, vs, n, e, List.mem_append_right _ c, k _ _ g, r.mono (FZ.more k hn)⟩
  | dct _ =>
    obtain ⟨a, e, c, r⟩ := x
    exact ⟨a, e, List.mem_append_right _ c, DctIs.keeps r k⟩
  | fn _ => exact IsKey.keeps x k
  | glo => exact x
structure BlockFacts (capt : Str → Bool) (sc : Scope) (xs : List Str) : Prop where
  kind : sc.kind = .function
  nocell : ∀ p ∈ sc.names, p.2 ≠ .cell
  one : ∀ p ∈ sc.names, sc.names.lookup p.1 = some p.2
  nodebug : ∀ p ∈ sc.names, (p.1 == ("__debug__" : Str)) = false
  nocd : ∀ p ∈ sc.names, (p.1 == ("__classdict__" : Str)) = false
  vars : ∀ x ∈ xs, sc.names.lookup x = some .local ∧ capt x = false
theorem blockFacts {capt : Str → Bool} {sc : Scope} {xs : List Str} (hb : blockOk capt sc xs = true) : BlockFacts capt sc xs := by
  unfold blockOk at hb
  simp only [Bool.and_eq_true, beq_iff_eq, List.all_eq_true, bne_iff_ne, ne_eq, Bool.not_eq_true'] at hb
  obtain ⟨⟨h1, h2⟩, h3⟩ := hb
  exact ⟨h1, fun p hp => (h2 p hp).1.1.1, fun p hp => (h2 p hp).1.1.2, fun p hp => by simpa using (h2 p hp).1.2, fun p hp => by simpa using (h2 p hp).2, fun x hx => h3 x hx⟩
theorem mem_names_of_lookup {x : Str} {k : NameKind} : ∀ {l : List (Str × NameKind)}, l.lookup x = some k → (x, k) ∈ l
  | [], e => by cases e
  | (y, k') :: r, e => by
    rw [List.lookup_cons] at e
    by_cases hxy : (x == y) = true
    · rw [hxy] at e; cases e; rw [eq_of_beq hxy]; exact .head _
    · have : (x == y) = false := by simpa using hxy
      rw [this] at e; exact .tail _ (mem_names_of_lookup e)
theorem EC.block (C : EC G O d u A env Ch st h) {sc : Scope} {xs : List Str} (B : BlockFacts O.capt sc xs) {cap : LSt} (hc : freeOf O.capt st sc.names = some cap) {h' : Heap} (k : Kp h h') {N : List Addr} (hn : ∀ a ∈ N, h.get? a = none) (hin : ∀ a ∈ N, ∃ o, h'.get? a = some o)
    {CC : Addr} {vars : LSt} (hv : ∀ x l, vars.get x = some l → x ∈ xs ∧ ∃ e, l = .val e ∧ ∃ m v, h'.Ns CC m ∧ m x = some v ∧ DV (FZ h' (N ++ Ch)) v e) :
    EC G O d u A (compEnvC sc (closFrom env sc.names []) CC env) (N ++ Ch) (vars ++ cap) h' := by
  have hfree := freeOf_free hc
  have hcl : ∀ p ∈ sc.names, p.2 = .free → ∃ c, env.cells.lookup p.1 = some c := fun p hp hk => by
    obtain ⟨l, hl, hg, hcp⟩ := hfree p hp hk
    obtain ⟨c, e, _⟩ := C.cap p.1 l hl hg hcp
    exact ⟨c, e⟩
  have kind : ∀ x, (compEnvC sc (closFrom env sc.names []) CC env).kindOf x = (sc.names.lookup x).map fun k => if (k == .free && env.scope.kind == .function && env.kindOf x == some .cell) = true then .cell else k := fun x => relabel_lookup
  have capd : ∀ x l, (x, NameKind.free) ∈ sc.names → st.get x = some l → l ≠ .glo → O.capt x = true → ∃ c, (compEnvC sc (closFrom env sc.names []) CC env).cells.lookup x = some c ∧ env.cells.lookup x = some c ∧
      ((env.kindOf x = some .cell ∧ (compEnvC sc (closFrom env sc.names []) CC env).kindOf x = some .cell) ∨ (env.kindOf x = some .free ∧ (compEnvC sc (closFrom env sc.names []) CC env).kindOf x = some .free)) := by
    intro x l hm hl hg hcp
    obtain ⟨c, e, hk⟩ := C.cap x l hl hg hcp
    have h1 : (closFrom env sc.names []).lookup x = env.cells.lookup x := closFrom_lookup sc.names [] hcl (fun y c e => by cases e) (.inl hm)
    refine ⟨c, h1.trans e, e, ?_⟩
    have h2 := B.one _ hm
    simp only at h2
    rcases hk with hk | hk
    · left
      refine ⟨hk, ?_⟩
      rw [kind, h2]
      simp [hk, C.hk]
    · right
      refine ⟨hk, ?_⟩
      rw [kind, h2]
      simp [hk]
  refine ⟨B.kind, C.hg, C.hb, C.ctx.keeps k, ?_, C.gl, ?_, ?_, fun v e h₁ k₁ => C.so v e h₁ (k.trans k₁), C.bi, C.bb, ?_, ?_, ?_⟩
  · intro x l e
    rcases LSt.get_app _ _ _ _ e with e | ⟨_, e⟩
    · obtain ⟨hx, e', rfl, m, v, hns, hm, hd⟩ := hv x l e
      obtain ⟨hloc, _⟩ := B.vars x hx
      refine ⟨B.nodebug _ (mem_names_of_lookup hloc), v, .inl ⟨?_, m, hns, hm⟩, hd⟩
      rw [kind, hloc]; rfl
    · rcases freeOf_get hc x l e with ⟨hm, hl, hg, hcp⟩ | ⟨hm, rfl⟩
      · obtain ⟨hd, hN⟩ := C.nm x l hl
        obtain ⟨c, e1, e2, hk⟩ := capd x l hm hl hg hcp
        have conv : ∀ v, Bnd env h x v → Bnd (compEnvC sc (closFrom env sc.names []) CC env) h' x v := by
          intro v b
          rcases b with ⟨e, _⟩ | ⟨e, c', l', q⟩ | ⟨⟨e, ec⟩, c', l', q⟩
          · rcases hk with ⟨hk, _⟩ | ⟨hk, _⟩ <;> rw [e] at hk <;> cases hk
          · rcases hk with ⟨hk, hk'⟩ | ⟨hk, _⟩
            · rw [e2] at l'; cases l'
              exact .inr (.inl ⟨hk', c, e1, q.keeps k⟩)
            · rw [e] at hk; cases hk
          · rcases hk with ⟨hk, _⟩ | ⟨hk, hk'⟩
            · rw [e] at hk; cases hk
            · rw [e2] at l'; cases l'
              exact .inr (.inr ⟨⟨hk', ec⟩, c, e1, q.keeps k⟩)
        refine ⟨hd, ?_⟩
        cases l with
        | glo => exact absurd rfl hg
        | _ =>
          obtain ⟨v, b, r⟩ := hN
          exact ⟨v, conv v b, LRel.more k hn r⟩
      · refine ⟨B.nodebug _ hm, ?_⟩
        show (compEnvC sc (closFrom env sc.names []) CC env).kindOf x = some .globalImplicit
        rw [kind, B.one _ hm]; rfl
  · intro f ds e q
    obtain ⟨v, a, b, c⟩ := C.fns f ds e q
    exact ⟨v, a, b.keeps k, c.keeps k⟩
  · intro f ds g e q
    obtain ⟨v, a, b, c⟩ := C.fks f ds g e q
    exact ⟨v, a, b.keeps k, c.keeps k⟩
  · intro a m
    rcases List.mem_append.mp m with m | m
    · exact hin a m
    · obtain ⟨o, e⟩ := C.chh a m
      exact ⟨o, k _ _ e⟩
  · intro x l e hg hcp
    rcases LSt.get_app _ _ _ _ e with e | ⟨_, e⟩
    · obtain ⟨hx, _⟩ := hv x l e
      rw [(B.vars x hx).2] at hcp; cases hcp
    · rcases freeOf_get hc x l e with ⟨hm, hl, hg', _⟩ | ⟨hm, rfl⟩
      · obtain ⟨c, e1, e2, hk⟩ := capd x l hm hl hg hcp
        exact ⟨c, e1, by rcases hk with ⟨_, hk⟩ | ⟨_, hk⟩; exact .inl hk; exact .inr hk⟩
      · exact absurd rfl hg
  · intro x f e
    rcases LSt.get_app _ _ _ _ e with e | ⟨_, e⟩
    · obtain ⟨_, e', q, _⟩ := hv x _ e
      cases q
    · rcases freeOf_get hc x _ e with ⟨_, hl, _⟩ | ⟨_, q⟩
      · exact C.kd x f hl
      · cases q
end
end Mine
end

section
open PySem PySem.W PyProof.Rows Builtin.Str Builtin
namespace Mine
section
variable {G : Gr} {A : Around}
theorem compLoop_gen {elt : Expr} {gens : List Comprehension} {sc : Scope} {p q : Pos} {depth : Nat} {it acc : Value} {env : Env} {R : Result → Shared → Prop} {s : Shared} (body : Value → Sem Unit) (Inv : Nat → Shared → Prop)
    (heq : compTurn (.ListComp elt gens sc p) depth it acc env = (standAt q >>= fun _ => pyNext it >>= fun r => match r with
      | none => pure (.done .next)
      | some v => body v >>= fun _ => again (.compLoop (.ListComp elt gens sc p) depth it acc env)))
    (turn : ∀ n s, Inv n s → ∀ E, wpAny G.M A (pyNext it) (fun r s₁ => match r with
      | none => R (.ok .next) s₁
      | some v => wpAny G.M A (body v) (fun _ s₂ => ∃ m, m < n ∧ Inv m s₂) E s₁) E s)
    (n : Nat) (h : Inv n s) : codeAny G.M A (.compLoop (.ListComp elt gens sc p) depth it acc env) R s := by
  refine codeAny_loop rfl Inv (fun n s hI => ?_) n h
  show wpAny _ A ((compTurn (.ListComp elt gens sc p) depth it acc env).onRaise (fun x => do noteFrame x env; theTreesLotGoes x)) _ _ s
  refine wpAny_noted ?_
  rw [heq]
  refine wpAny_bind (wpAny_standAt (wpAny_bind (wpAny_mono (turn n s hI _) (fun r s₁ h₁ => ?_) fun _ _ h' => h')))
  cases r with
  | none => exact wpAny_pure h₁
  | some v => exact wpAny_bind (wpAny_mono h₁ (fun _ s₂ h₂ => wpAny_pure ⟨rfl, h₂⟩) fun _ _ h' => h')
theorem mapO_get {f : Dat → Option (List Dat)} {ds : List Dat} {yss : List (List Dat)} (q : mapO f ds = some yss) : yss.length = ds.length ∧ ∀ (i : Nat) (e : Dat), ds[i]? = some e → ∃ es, f e = some es ∧ yss[i]? = some es :=
  mapO_E (M := fun (ds : List Dat) (yss : List (List Dat)) => yss.length = ds.length ∧ ∀ (i : Nat) (e : Dat), ds[i]? = some e → ∃ es, f e = some es ∧ yss[i]? = some es) ⟨rfl, fun _ _ h => nomatch h⟩ (fun a r b s hb _ ih => ⟨congrArg Nat.succ ih.1, fun i e h => by
    cases i with
    | zero => cases h; exact ⟨b, hb, rfl⟩
    | succ i => exact ih.2 i e h⟩) q
theorem walk_loop {elt : Expr} {gens : List Comprehension} {sc : Scope} {p q : Pos} {depth : Nat} {acc : Value} {env : Env} {R : Result → Shared → Prop} {s : Shared} (body : Value → Sem Unit)
    {hx : Heap} {X : List Addr} {xv : Value} {I : Addr} {ds : List Dat} {h1 : Heap} {fp : List Addr} {P : Nat → Value → Prop} {St : Nat → Heap → Prop} (hA : A.handled = none) (W : IterOk G hx X xv I ds h1 fp P St)
    (heq : compTurn (.ListComp elt gens sc p) depth (.ref I) acc env = (standAt q >>= fun _ => pyNext (.ref I) >>= fun r => match r with
      | none => pure (.done .next)
      | some v => body v >>= fun _ => again (.compLoop (.ListComp elt gens sc p) depth (.ref I) acc env)))
    (Inv : List Dat → Heap → Prop) (f : Dat → Option (List Dat)) (lim : Nat)
    (next : ∀ ac h h', Inv ac h → (∀ b o, b ≠ I → h.get? b = some o → h'.get? b = some o) → (∃ o, h'.get? I = some o) → Inv ac h')
    (turn : ∀ (v : Value) (e : Dat) (es ac : List Dat) (s : Shared) (Q : Unit → Shared → Prop) (E : Value → Shared → Prop), DV (FZ hx X) v e → f e = some es → Inv ac s.heap → (∃ o, s.heap.get? I = some o) → (ac ++ es).length ≤ lim →
      (∀ h' tk', Inv (ac ++ es) h' → (∀ b ∈ fp, ∀ o, s.heap.get? b = some o → h'.get? b = some o) → Q () { s with heap := h', toks := tk' }) → wpAny G.M A (body v) Q E s)
    {rs ac : List Dat} (hr : (mapO f ds).map List.flatten = some rs) (hlim : (ac ++ rs).length ≤ lim) (i0 : Inv ac s.heap) (st : St 0 s.heap)
    (fin : ∀ h' tk' I', Inv (ac ++ rs) I' → (∀ b o, b ≠ I → I'.get? b = some o → h'.get? b = some o) → R (.ok .next) { s with heap := h', toks := tk' }) :
    codeAny G.M A (.compLoop (.ListComp elt gens sc p) depth (.ref I) acc env) R s := by
  have W' := W.walks A hA
  obtain ⟨yss, hy, rfl⟩ := Option.map_eq_some_iff.mp hr
  obtain ⟨hlen, hget⟩ := mapO_get hy
  refine compLoop_gen body (fun n s' => ∃ i h' tk', s' = { s with heap := h', toks := tk' } ∧ i ≤ ds.length ∧ n = ds.length - i ∧ St i h' ∧ Inv (ac ++ (yss.take i).flatten) h') heq ?_ ds.length ⟨0, s.heap, s.toks, rfl, Nat.zero_le _, rfl, st, by simpa using i0⟩
  rintro n s' ⟨i, h', tk', rfl, hi, rfl, hst, hin⟩ E
  by_cases hlt : i < ds.length
  · refine W'.item i _ _ E hlt hst fun v h₁ tk₁ hP hst₁ hk => ?_
    obtain ⟨e, he, hd⟩ := W.items i v hlt hP
    obtain ⟨es, hf, hys⟩ := hget i e he
    have hI : ∃ o, h₁.get? I = some o := W.live _ _ hst₁
    refine turn v e es _ _ _ E hd hf (next _ h' h₁ hin (fun b o hb => hk b o (by simpa using hb)) hI) hI ?_ fun h₂ tk₂ hin₂ hfp => ?_
    · refine Nat.le_trans ?_ hlim
      have e1 : (yss.take (i + 1)).flatten = (yss.take i).flatten ++ es := by rw [List.take_add_one, hys]; simp
      have e2 : yss.flatten = (yss.take (i + 1)).flatten ++ (yss.drop (i + 1)).flatten := by rw [← List.flatten_append, List.take_append_drop]
      rw [List.append_assoc, e2, e1, ← List.append_assoc ac (_ ++ es)]
      exact Nat.le_trans (Nat.le_add_right _ _) (Nat.le_of_eq List.length_append.symm)
    refine ⟨ds.length - (i + 1), by omega, i + 1, h₂, tk₂, rfl, hlt, rfl, W'.frame _ _ _ hst₁ fun b hb o ho => hfp b hb o ho, ?_⟩
    rw [List.take_add_one, hys]
    simpa [List.append_assoc] using hin₂
  · have hi' : i = ds.length := by omega
    subst hi'
    refine W'.done _ _ E hst fun h₁ tk₁ hk => ?_
    rw [List.take_of_length_le (by omega)] at hin
    exact fin h₁ tk₁ h' hin fun b o hb => hk b o (by simpa using hb)
theorem append_ok {D : Addr} {vs : List Value} {n : Nat} {w : Value} {s : Shared} {Q : Value → Shared → Prop} {E : Value → Shared → Prop} (hD : s.heap.get? D = some (W.listOf vs.toArray n)) (hl : vs.length ≤ 4097)
    (q : ∀ h' n', h'.get? D = some (W.listOf (vs ++ [w]).toArray n') → Heap.SameBut D s.heap h' → Q .none { s with heap := h' }) : wpAny G.M A (call (.builtin "list.append") [.ref D, w]) Q E s := by
  refine call_meets F.slot_list_append ⟨_, hD, rfl⟩ F.entry_list_append (F.args_list_append_2 _ _) (list_append D vs.toArray n w (by rw [List.size_toArray, sizeLine_eq]; omega)) ⟨hD, ?_⟩
  have hup := IsL.update (h := s.heap) (l := D) (items := vs.toArray) (n := n) hD (·.push w)
  have e : (vs ++ [w]).toArray = vs.toArray.push w := by simp
  exact q _ _ (by rw [e]; exact hup) (Heap.SameBut.update ..)
variable {O : Orc} {I : Itp} {d u : Nat} {env : Env} {Ch : List Addr} {st : LSt} {h : Heap}
structure CInv (h : Heap) (X : List Addr) (N : List Addr) (CC D : Addr) (ac : List Dat) (h' : Heap) : Prop where
  keep : Kp h h'
  ns : ∃ m, h'.Ns CC m
  acc : ∃ vs n, h'.get? D = some (W.listOf vs.toArray n) ∧ DVs (FZ h' (N ++ X)) vs ac
theorem CInv.other {h h' h'' : Heap} {X N : List Addr} {CC D b : Addr} {ac : List Dat} (x : CInv h X N CC D ac h') (hb : b ∈ N) (hn : h.get? b = none) (hCC : b ≠ CC) (hD : b ≠ D) (k : ∀ c o, c ≠ b → h'.get? c = some o → h''.get? c = some o) : CInv h X N CC D ac h'' := by
  refine ⟨fun c o e => k c o (fun q => ?_) (x.keep c o e), ?_, ?_⟩
  · rw [q, hn] at e; cases e
  · obtain ⟨m, hm⟩ := x.ns
    exact ⟨m, hm.at' fun o e => k _ _ (Ne.symm hCC) e⟩
  · obtain ⟨vs, n, hd, r⟩ := x.acc
    refine ⟨vs, n, k _ _ (Ne.symm hD) hd, r.mono fun a o y => ⟨k _ _ (fun q => y.2 ?_) y.1, y.2⟩⟩
    rw [q]; exact List.mem_append_left _ hb
theorem CInv.keeps {h h' h'' : Heap} {X N : List Addr} {CC D : Addr} {ac : List Dat} (x : CInv h X N CC D ac h') (k : Kp h' h'') : CInv h X N CC D ac h'' :=
  ⟨x.keep.trans k, by obtain ⟨m, hm⟩ := x.ns; exact ⟨m, hm.keeps k⟩, by obtain ⟨vs, n, hd, r⟩ := x.acc; exact ⟨vs, n, k _ _ hd, r.mono (FZ.mono k)⟩⟩
theorem assign_comp {h : Heap} {X N : List Addr} {CC D : Addr} {ac : List Dat} {cenv : Env} {x : Str} {px : Pos} {v : Value} {m : Str → Option Value} {s : Shared} {Q : Unit → Shared → Prop} {E : Value → Shared → Prop} (hl : cenv.locals = CC) (hk : cenv.scope.kind = .function) (hx : cenv.kindOf x = some .local) (inv : CInv h X N CC D ac s.heap) (hm : s.heap.Ns CC m) (hCC : CC ∈ N) (hn : h.get? CC = none) (hD : CC ≠ D)
    (q : ∀ h' tk', CInv h X N CC D ac h' → h'.Ns CC (fun z => if z = x then some v else m z) → Heap.SameBut CC s.heap h' → Q () { s with heap := h', toks := tk' }) : wpAny G.M A (assign (.Name x px) cenv v) Q E s := by
  rw [arm_assign_Name]
  refine wpAny_bind (wpAny_standAt (wpAny_bindName (wpAny_storeName_local hx (by rw [hl]; exact hm) (fun h' hns hsb => ?_) (by rw [hk]; rfl))))
  rw [hl] at hns hsb
  refine q h' _ ?_ hns hsb
  refine ⟨fun c o e => ?_, ⟨_, hns⟩, ?_⟩
  · have hc : c ≠ CC := fun z => by rw [z, hn] at e; cases e
    rw [hsb.2 c hc]; exact inv.keep c o e
  · obtain ⟨vs, n, hd, r⟩ := inv.acc
    refine ⟨vs, n, by rw [hsb.2 D (Ne.symm hD)]; exact hd, r.mono fun a o y => ⟨?_, y.2⟩⟩
    have ha : a ≠ CC := fun z => y.2 (by rw [z]; exact List.mem_append_left _ hCC)
    rw [hsb.2 a ha]; exact y.1
theorem comp_open {sc : Scope} {cl : List (Str × Addr)} {s : Shared} {E : Value → Shared → Prop} {RR : Value → Env → Shared → Prop} (hcell : ∀ p ∈ sc.names, p.2 ≠ .cell) (hkind : sc.kind = .function)
    (q : ∀ D CC h' tk', D ≠ CC → s.heap.get? D = none → s.heap.get? CC = none → Kp s.heap h' → h'.get? D = some (W.listOf #[] 0) → (∃ m, h'.Ns CC m) →
      RR (.ref D) (newEnv sc CC env.globals cl env.qual none .none (some env) 0) { s with heap := h', toks := tk' }) :
    wpAny G.M A (newList []) (fun acc s₃ => wpAny G.M A (newFunctionEnv sc env.globals cl [] env.qual none .none (some env)) (fun cenv s₄ => RR acc cenv s₄) E s₃) E s := by
  refine wpAny_newObj_type (wpAny_newFunctionEnv hcell (by intro y hy; simp at hy) (fun h₁ hns₁ hsb₁ => ?_) hkind)
  dsimp only at hns₁ hsb₁ ⊢
  generalize hH2 : s.heap.push { cls := .type "list", dict := none, data := .seq ([] : List Value).toArray } = H2 at hns₁ hsb₁ ⊢
  have hC : H2.objs.size = s.heap.objs.size + 1 := by rw [← hH2, Heap.size_push]
  have hDC : s.heap.objs.size ≠ H2.objs.size := by rw [hC]; exact Nat.ne_of_lt (Nat.lt_succ_self _)
  have k1 : Kp s.heap H2 := hH2 ▸ Kp.push _ _
  have k2 : Kp H2 h₁ := fun b o e => hsb₁.extBut b o (Nat.ne_of_lt (Heap.lt_size e)) (Heap.get?_push_of_some _ e)
  refine q s.heap.objs.size H2.objs.size h₁ _ hDC (get?_size _) (none_of_kp k1 (get?_size _)) (k1.trans k2) ?_ ⟨_, hns₁⟩
  exact k2 _ _ (hH2 ▸ Heap.get?_push_size _ rfl)
end
end Mine
end

section
open PySem PySem.W PyProof.Rows Builtin.Str Builtin
namespace Mine
section
variable {G : Gr} {A : Around} {O : Orc} {I : Itp} {d u : Nat} {env : Env} {Ch : List Addr} {st : LSt} {h : Heap}
theorem set_no {e : Expr} (q : isSetE e = false) (x : Value) : foldedSetIterable e env x = pure x := by
  cases e <;> first | rfl | cases q
theorem not_set {g : LSt → Expr → Option Dat} {e : Expr} {ds : List Dat} (q : itemsOf I g st e = some ds) (x : Value) : foldedSetIterable e env x = pure x :=
  set_no (oM q (fun c hc _ => callOf_E (M := fun e => isSetE e = false) hc fun _ _ => rfl) fun _ q => oM q (fun es he _ => tupOf_E (M := fun e => isSetE e = false) he fun _ _ => rfl) fun _ q => nE q fun hs _ => Bool.of_not_eq_true hs) x
theorem compTurn_body1 {elt it : Expr} {x : Str} {px : Pos} {ifs : List Expr} {sc : Scope} {pos : Pos} {I : Value} {acc : Value} {cenv : Env} :
    compTurn (.ListComp elt [⟨.Name x px, it, ifs, 0⟩] sc pos) 0 I acc cenv = (standAt it.pos >>= fun _ => pyNext I >>= fun r => match r with
      | none => pure (.done .next)
      | some v => (assign (.Name x px) cenv v >>= fun _ => (forIn ifs true fun c r => if r = true then do let ok ← PySem.isTrue c cenv (eval c cenv); pure (ForInStep.yield ok) else pure (ForInStep.yield r)) >>= fun ok =>
          if ok = true then (eval elt cenv >>= fun w => call (.builtin "list.append") [acc, w] >>= fun _ => pure ()) else pure ()) >>= fun _ => again (.compLoop (.ListComp elt [⟨.Name x px, it, ifs, 0⟩] sc pos) 0 I acc cenv)) := by
  rw [compTurn_list]
  congr 1; funext _
  congr 1; funext r
  cases r with
  | none => rfl
  | some v =>
    show (letOwnedTupleGo (.Name x px) I v >>= fun _ => _) = _
    have : letOwnedTupleGo (.Name x px) I v = pure () := rfl
    rw [this]
    simp only [pure_bind, bind_assoc]
    congr 1; funext _
    congr 1; funext ok
    cases ok <;> simp
theorem emit_ok (K : EvOk G O I) {elt : Expr} {st : LSt} {es ac : List Dat} {cenv : Env} {X N : List Addr} {CC D : Addr} {s : Shared} {Q : Unit → Shared → Prop} {E : Value → Shared → Prop}
    (C : EC G O d u A cenv (N ++ X) st s.heap) (hu : 66 ≤ u) (hv : (evV I st elt).map ([·]) = some es) (inv : CInv h X N CC D ac s.heap) (hD : D ∈ N) (hDn : h.get? D = none) (hCD : D ≠ CC) (hl : (ac ++ es).length ≤ 4096)
    (q : ∀ h' tk', CInv h X N CC D (ac ++ es) h' → (∀ b o, b ≠ D → s.heap.get? b = some o → h'.get? b = some o) → Q () { s with heap := h', toks := tk' }) :
    wpAny G.M A (eval elt cenv >>= fun w => call (.builtin "list.append") [.ref D, w] >>= fun _ => pure ()) Q E s := by
  obtain ⟨r, hr, rfl⟩ := Option.map_eq_some_iff.mp hv
  refine wpAny_bind (evV_ok K C hu hr s _ E rfl fun w h₁ tk₁ k₁ r₁ => ?_)
  have inv₁ := inv.keeps k₁
  obtain ⟨vs, n, hD₁, rr⟩ := inv₁.acc
  have hlen : vs.length ≤ 4096 := by rw [rr.length]; simp only [List.length_append] at hl; omega
  refine wpAny_bind (append_ok hD₁ (by omega) fun h₂ n₂ hD₂ hsb => wpAny_pure (q h₂ _ ?_ ?_))
  · refine ⟨fun b o eb => ?_, ?_, vs ++ [w], n₂, hD₂, ?_⟩
    · have : b ≠ D := fun z => by rw [z, hDn] at eb; cases eb
      rw [hsb.2 b this]; exact inv₁.keep b o eb
    · obtain ⟨m, hm⟩ := inv₁.ns
      exact ⟨m, hm.at' fun o eo => by rw [hsb.2 CC (Ne.symm hCD)]; exact eo⟩
    · have mv : ∀ a o, FZ h₁ (N ++ X) a o → FZ h₂ (N ++ X) a o := fun a o y => ⟨by rw [hsb.2 a (fun z => y.2 (by rw [z]; exact List.mem_append_left _ hD))]; exact y.1, y.2⟩
      exact (rr.mono mv).append (.cons (DV.mono mv r₁) .nil)
  · intro b o hb eb
    rw [hsb.2 b hb]; exact k₁ b o eb
theorem turn1_ok (K : EvOk G O I) {elt : Expr} {ifs : List Expr} {x : Str} {cap : LSt} {es ac : List Dat} {e : Dat} {cenv : Env} {X N : List Addr} {CC D : Addr} {s : Shared} {Q : Unit → Shared → Prop} {E : Value → Shared → Prop}
    (C : EC G O d u A cenv (N ++ X) ((x, .val e) :: cap) s.heap) (hu : 66 ≤ u) (hf : turnF I (fun st' => (evV I st' elt).map ([·])) x cap ifs e = some es) (inv : CInv h X N CC D ac s.heap) (hD : D ∈ N) (hDn : h.get? D = none) (hCD : D ≠ CC) (hl : (ac ++ es).length ≤ 4096)
    (q : ∀ h' tk', CInv h X N CC D (ac ++ es) h' → (∀ b o, b ≠ D → s.heap.get? b = some o → h'.get? b = some o) → Q () { s with heap := h', toks := tk' }) :
    wpAny G.M A ((forIn ifs true fun c r => if r = true then do let ok ← PySem.isTrue c cenv (eval c cenv); pure (ForInStep.yield ok) else pure (ForInStep.yield r)) >>= fun ok =>
          if ok = true then (eval elt cenv >>= fun w => call (.builtin "list.append") [.ref D, w] >>= fun _ => pure ()) else pure ()) Q E s := by
  unfold turnF at hf
  split at hf
  · refine wpAny_bind (wpAny_tests_nil ?_)
    exact emit_ok K C hu hf inv hD hDn hCD hl q
  · obtain ⟨b, hb, hf⟩ := Option.bind_eq_some_iff.mp hf
    refine wpAny_bind (wpAny_tests_one (tst_ok K C hu hb s _ E rfl fun b' h₁ tk₁ k₁ r₁ => ?_))
    subst r₁
    cases b' with
    | true => exact emit_ok K (C.keeps k₁) hu hf (inv.keeps k₁) hD hDn hCD hl fun h' tk' a b => q h' tk' a fun c o hc ec => b c o hc (k₁ c o ec)
    | false =>
      cases hf
      exact wpAny_pure (q h₁ tk₁ (by rw [List.append_nil]; exact inv.keeps k₁) fun c o hc ec => k₁ c o ec)
  · cases hf
theorem comp_parts {x : Str} {it : Expr} {sc : Scope} {ifs : List Expr} {f : LSt → Option (List Dat)} {rs : List Dat} {P : Prop} (q : ((freeOf O.capt st sc.names).bind fun cap => (itemsOf I (evD I) st it).bind fun ds => (compLoop I f x cap ifs ds).bind fun rs => if rs.length ≤ 4096 then some rs else none) = some rs)
    (k : ∀ cap ds, freeOf O.capt st sc.names = some cap → itemsOf I (evD I) st it = some ds → (mapO (turnF I f x cap ifs) ds).map List.flatten = some rs → rs.length ≤ 4096 → P) : P :=
  bE q fun cap hc q => bE q fun ds hd q => bE q fun rs' hr q => by
    obtain ⟨hl, q⟩ := Option.ite_none_right_eq_some.mp q
    cases q
    exact k cap ds hc hd hr hl
structure TurnIn (G : Gr) (O : Orc) (d u : Nat) (A : Around) (env : Env) (Ch : List Addr) (st : LSt) (h : Heap) (sc : Scope) (cap : LSt) (x : Str) (hx : Heap) (Ia CC D : Addr) (e : Dat) (v : Value) (ac : List Dat) (h' : Heap) : Prop where
  C : EC G O d u A env Ch st hx
  kx : Kp h hx
  nI : hx.get? Ia = none
  nC : hx.get? CC = none
  nD : hx.get? D = none
  IC : Ia ≠ CC
  ID : Ia ≠ D
  DC : D ≠ CC
  inv : CInv hx Ch [Ia, CC, D] CC D ac h'
  var : ∃ m, h'.Ns CC m ∧ m x = some v
  hv : DV (FZ h' ([Ia, CC, D] ++ Ch)) v e
  live : ∀ a ∈ [Ia, CC, D], ∃ o, h'.get? a = some o
  Cb : EC G O d u A (compEnvC sc (closFrom env sc.names []) CC env) ([Ia, CC, D] ++ Ch) ((x, .val e) :: cap) h'
theorem all3 {P : Addr → Prop} {a b c : Addr} (ha : P a) (hb : P b) (hc : P c) : ∀ z ∈ [a, b, c], P z := List.forall_mem_cons.mpr ⟨ha, List.forall_mem_cons.mpr ⟨hb, List.forall_mem_cons.mpr ⟨hc, fun _ h => nomatch h⟩⟩⟩
theorem get_one {x z : Str} {l l' : LV} (e : LSt.get [(x, l)] z = some l') : z = x ∧ l' = l := by
  by_cases h : x = z
  · exact ⟨h.symm, (Option.some.inj ((if_pos h).symm.trans e)).symm⟩
  · exact nomatch (if_neg h).symm.trans e
theorem itv_live {xv : Value} {b : Addr} {ds : List Dat} (x : ItV h Ch xv ds) (e : xv = .ref b) : ∃ o, h.get? b = some o := by
  cases x with
  | list g _ => cases e; exact ⟨_, g⟩
  | tup g _ => cases e; exact ⟨_, g⟩
  | range g _ _ _ => cases e; exact ⟨_, g⟩
  | str => cases e
theorem ne_of_none {a b : Addr} {o : Obj} (n : h.get? b = none) (e : h.get? a = some o) : a ≠ b := fun z => by rw [z, n] at e; cases e
theorem comp_ok (K : EvOk G O I) (C : EC G O d u A env Ch st h) (hu : 66 ≤ u) {elt it : Expr} {x : Str} {px : Pos} {ifs : List Expr} {gs : List Comprehension} {sc : Scope} {pos : Pos} {xs : List Str} {cap : LSt} {ds rs : List Dat} {f : Dat → Option (List Dat)} {c : Expr} (hc : c = .ListComp elt (⟨.Name x px, it, ifs, 0⟩ :: gs) sc pos)
    (B : BlockFacts O.capt sc xs) (hxs : x ∈ xs) (hcap : freeOf O.capt st sc.names = some cap) (hds : itemsOf I (evD I) st it = some ds) (hrs : (mapO f ds).map List.flatten = some rs) (hlen : rs.length ≤ 4096) (bd : Value → Env → Sem Unit)
    (heq : ∀ I acc cenv, compTurn c 0 I acc cenv = (standAt it.pos >>= fun _ => pyNext I >>= fun r => match r with
      | none => pure (.done .next)
      | some v => (assign (.Name x px) cenv v >>= fun _ => bd acc cenv) >>= fun _ => again (.compLoop c 0 I acc cenv)))
    (turn : ∀ hx Ia CC D e v ac (s : Shared) es (Q : Unit → Shared → Prop) (E : Value → Shared → Prop), TurnIn G O d u A env Ch st h sc cap x hx Ia CC D e v ac s.heap → f e = some es → (ac ++ es).length ≤ 4096 →
      (∀ h' tk', CInv hx Ch [Ia, CC, D] CC D (ac ++ es) h' → (∀ b o, b ≠ CC → b ≠ D → s.heap.get? b = some o → h'.get? b = some o) → Q () { s with heap := h', toks := tk' }) → wpAny G.M A (bd (.ref D) (compEnvC sc (closFrom env sc.names []) CC env)) Q E s)
    {use : Option (Value → Sem Unit)} {Q : Value → Shared → Prop} {E : Value → Shared → Prop} {s : Shared} (hs : s.heap = h)
    (fin : ∀ D CC h' tk' m vs n, h.get? D = none → h'.get? D = some (W.listOf vs.toArray n) → DVs (FZ h' (CC :: Ch)) vs rs → Kp h h' → h.get? CC = none → D ≠ CC → h'.Ns CC m → compPost G.M A E use Q (.ref D) CC (.ok .next) { s with heap := h', toks := tk' }) :
    wpAny G.M A (comprehension c sc env it.pos (newList []) false (eval it env) use) Q E s := by
  have hcl : ∀ p ∈ sc.names, p.2 = .free → ∃ c, env.cells.lookup p.1 = some c := fun p hp hk => by
    obtain ⟨l, hl, hg, hcp⟩ := freeOf_free hcap p hp hk
    obtain ⟨c, e, _⟩ := C.cap p.1 l hl hg hcp
    exact ⟨c, e⟩
  subst hc
  refine wpAny_comprehension_free (g := ⟨.Name x px, it, ifs, 0⟩) (gs := gs) rfl (not_set hds) (closure_eq hcl) B.kind (fun p hp hk => by rw [B.one p hp, hk]) ?_
  generalize hc : Expr.ListComp elt (⟨.Name x px, it, ifs, 0⟩ :: gs) sc pos = c at heq ⊢
  refine items_it K C hu (g := evD I) (D := fun h' v r => DL h' Ch v r) (fun q => evD_ok K C hu q) (fun _ _ _ x => x) hds s _ E hs fun xv hx tkx kx ⟨itv, hl, _⟩ => ?_
  have Cx := C.keeps kx
  refine iter_ok Cx.ctx.hand itv _ _ E rfl fun iv h₂ tk₂ k₂ ⟨Ia, fp, P, St, hiv, W⟩ => ?_
  subst hiv
  refine comp_open B.nocell B.kind (RR := fun acc cenv s₄ => codeAny G.M A (.compStart c 0 (.ref Ia) acc { cenv with scope := relabel sc env }) (compPost G.M A E use Q acc cenv.locals) s₄) fun D CC h₃ tk₃ hDC hD hCC k₃ hacc hns => ?_
  have hDx : hx.get? D = none := none_of_kp k₂ hD
  have hCx : hx.get? CC = none := none_of_kp k₂ hCC
  obtain ⟨oI, hoI⟩ := W.live _ _ W.st
  have hID : Ia ≠ D := ne_of_none hD hoI
  have hIC : Ia ≠ CC := ne_of_none hCC hoI
  have hN : ∀ a ∈ [Ia, CC, D], hx.get? a = none := all3 W.new hCx hDx
  show codeAny G.M A (.compStart c 0 (.ref Ia) (.ref D) (compEnvC sc (closFrom env sc.names []) CC env)) (compPost G.M A E use Q (.ref D) CC) _
  have wst : St 0 h₃ := (W.walks A Cx.ctx.hand).frame _ _ _ W.st fun b _ o e => k₃ b o e
  have hloc : (compEnvC sc (closFrom env sc.names []) CC env).kindOf x = some .local := by
    show (relabel sc env).names.lookup x = some .local
    rw [relabel_lookup, (B.vars x hxs).1]; rfl
  have loop : codeAny G.M A (.compLoop c 0 (.ref Ia) (.ref D) (compEnvC sc (closFrom env sc.names []) CC env)) (compPost G.M A E use Q (.ref D) CC) { s with heap := h₃, toks := tk₃ } := by
    subst hc
    refine walk_loop (hx := hx) (X := Ch) (xv := xv) (ds := ds) (h1 := h₂) _ Cx.ctx.hand W (heq _ _ _) (CInv hx Ch [Ia, CC, D] CC D) f 4096 (fun ac h' h'' inv k _ => inv.other (.head _) W.new hIC hID k) ?_ (rs := rs) (ac := []) hrs hlen ⟨k₂.trans k₃, hns, [], 0, hacc, .nil⟩ wst ?_
    · intro v e es' ac s' Q' E' hv hf inv hI hl q'
      obtain ⟨m₀, hm₀⟩ := inv.ns
      refine wpAny_bind (assign_comp (CC := CC) (D := D) rfl B.kind hloc inv hm₀ (.tail _ (.head _)) hCx (Ne.symm hDC) fun h₄ tk₄ inv₄ hns₄ hsb => ?_)
      have hm : (fun z => if z = x then some v else m₀ z) x = some v := if_pos rfl
      have hin : ∀ a ∈ [Ia, CC, D], ∃ o, h₄.get? a = some o := by
        refine all3 ?_ ?_ ?_
        · obtain ⟨o, ho⟩ := hI
          exact ⟨o, by rw [hsb.2 _ hIC]; exact ho⟩
        · obtain ⟨o, _, _, ho, _⟩ := hns₄
          exact ⟨o, ho⟩
        · obtain ⟨vs, n, ho, _⟩ := inv₄.acc
          exact ⟨_, ho⟩
      have hv₄ := DV.mono (FZ.more inv₄.keep hN) hv
      refine turn hx Ia CC D e v ac _ es' Q' E' ⟨Cx, kx, W.new, hCx, hDx, hIC, hID, hDC, inv₄, ⟨_, hns₄, hm⟩, hv₄, hin, Cx.block B hcap inv₄.keep hN hin (vars := [(x, .val e)]) fun z l ez => ?_⟩ hf hl fun h₅ tk₅ inv₅ hk₅ => q' h₅ tk₅ inv₅ fun b hb o eb => ?_
      · obtain ⟨rfl, rfl⟩ := get_one ez
        exact ⟨hxs, e, rfl, _, v, hns₄, hm, hv₄⟩
      · have hbC : b ≠ CC ∧ b ≠ D := by
          rcases W.fps b hb with e | e
          · rw [e]; exact ⟨hIC, hID⟩
          · obtain ⟨o', e'⟩ := itv_live itv e
            exact ⟨ne_of_none hCx e', ne_of_none hDx e'⟩
        exact hk₅ b o hbC.1 hbC.2 (by rw [hsb.2 b hbC.1]; exact eb)
    · intro h' tk' I' inv k
      have inv' : CInv hx Ch [Ia, CC, D] CC D rs h' := inv.other (b := Ia) (.head _) W.new hIC hID k
      obtain ⟨m, hm⟩ := inv'.ns
      obtain ⟨vs, n, hD', r⟩ := inv'.acc
      exact fin D CC h' tk' m vs n (none_of_kp kx hDx) hD' (r.mono fun a o y => ⟨y.1, fun z => y.2 ((List.mem_cons.mp z).elim (fun z => z ▸ .tail _ (.head _)) fun z => List.mem_append_right _ z)⟩) (kx.trans inv'.keep) (none_of_kp kx hCx) hDC hm
  subst hc
  exact codeAny_compStart_list loop ((W.walks A Cx.ctx.hand).self 0 _ _ _ wst loop)
theorem comp1_ok (K : EvOk G O I) (C : EC G O d u A env Ch st h) (hu : 66 ≤ u) {elt it : Expr} {x : Str} {px : Pos} {ifs : List Expr} {sc : Scope} {pos : Pos} {rs : List Dat} (hq : comp1 O I st elt x it ifs sc = some rs)
    {use : Option (Value → Sem Unit)} {Q : Value → Shared → Prop} {E : Value → Shared → Prop} {s : Shared} (hs : s.heap = h)
    (fin : ∀ D CC h' tk' m vs n, h.get? D = none → h'.get? D = some (W.listOf vs.toArray n) → DVs (FZ h' (CC :: Ch)) vs rs → Kp h h' → h.get? CC = none → D ≠ CC → h'.Ns CC m → compPost G.M A E use Q (.ref D) CC (.ok .next) { s with heap := h', toks := tk' }) :
    wpAny G.M A (comprehension (.ListComp elt [⟨.Name x px, it, ifs, 0⟩] sc pos) sc env it.pos (newList []) false (eval it env) use) Q E s :=
  iE hq fun hb hq => comp_parts hq fun cap ds hcap hds hrs hlen => comp_ok K C hu rfl (blockFacts (Bool.and_eq_true_iff.mp hb).1) (.head _) hcap hds hrs hlen _ (fun _ _ _ => compTurn_body1)
    (fun hx Ia CC D e v ac s es Q E T hf hl q => turn1_ok K T.Cb hu hf T.inv (.tail _ (.tail _ (.head _))) T.nD T.DC hl fun h₅ tk₅ inv₅ hk₅ => q h₅ tk₅ inv₅ fun b o _ hb eb => hk₅ b o hb eb) hs fin
end
end Mine
end

section
open PySem PySem.W PyProof.Rows Builtin.Str Builtin
namespace Mine
section
variable {G : Gr} {A : Around} {O : Orc} {I : Itp} {d u : Nat} {env : Env} {Ch : List Addr} {st : LSt} {h : Heap}
theorem turnIn {elt it it' : Expr} {x y : Str} {px py : Pos} {sc : Scope} {pos : Pos} {I : Value} {acc : Value} {cenv : Env} :
    compTurn (.ListComp elt [⟨.Name x px, it, [], 0⟩, ⟨.Name y py, it', [], 0⟩] sc pos) 1 I acc cenv = (standAt it'.pos >>= fun _ => pyNext I >>= fun r => match r with
      | none => pure (.done .next)
      | some v => (assign (.Name y py) cenv v >>= fun _ => eval elt cenv >>= fun w => call (.builtin "list.append") [acc, w] >>= fun _ => pure ()) >>= fun _ => again (.compLoop (.ListComp elt [⟨.Name x px, it, [], 0⟩, ⟨.Name y py, it', [], 0⟩] sc pos) 1 I acc cenv)) := by
  have z : compTurn (.ListComp elt [⟨.Name x px, it, [], 0⟩, ⟨.Name y py, it', [], 0⟩] sc pos) 1 I acc cenv = (standAt it'.pos >>= fun _ => pyNext I >>= fun r => match r with
      | none => pure (.done .next)
      | some v => letOwnedTupleGo (.Name y py) I v >>= fun _ => assign (.Name y py) cenv v >>= fun _ => (eval elt cenv >>= fun w => call (.builtin "list.append") [acc, w] >>= fun _ => pure ()) >>= fun _ => again (.compLoop (.ListComp elt [⟨.Name x px, it, [], 0⟩, ⟨.Name y py, it', [], 0⟩] sc pos) 1 I acc cenv)) := rfl
  rw [z]
  congr 1; funext _
  congr 1; funext r
  cases r with
  | none => rfl
  | some v =>
    have e : letOwnedTupleGo (.Name y py) I v = pure () := rfl
    simp only [e, pure_bind, bind_assoc]
theorem turnOut {elt it it' : Expr} {x y : Str} {px py : Pos} {sc : Scope} {pos : Pos} {I : Value} {acc : Value} {cenv : Env} :
    compTurn (.ListComp elt [⟨.Name x px, it, [], 0⟩, ⟨.Name y py, it', [], 0⟩] sc pos) 0 I acc cenv = (standAt it.pos >>= fun _ => pyNext I >>= fun r => match r with
      | none => pure (.done .next)
      | some v => (assign (.Name x px) cenv v >>= fun _ => eval it' cenv >>= fun z => standAt it'.pos >>= fun _ => foldedSetIterable it' cenv z >>= fun z => holding [z] (pyIter z) >>= fun i => runOwn (.compStart (.ListComp elt [⟨.Name x px, it, [], 0⟩, ⟨.Name y py, it', [], 0⟩] sc pos) 1 i acc cenv) cenv >>= fun _ => pure ()) >>= fun _ => again (.compLoop (.ListComp elt [⟨.Name x px, it, [], 0⟩, ⟨.Name y py, it', [], 0⟩] sc pos) 0 I acc cenv)) := by
  have z : compTurn (.ListComp elt [⟨.Name x px, it, [], 0⟩, ⟨.Name y py, it', [], 0⟩] sc pos) 0 I acc cenv = (standAt it.pos >>= fun _ => pyNext I >>= fun r => match r with
      | none => pure (.done .next)
      | some v => letOwnedTupleGo (.Name x px) I v >>= fun _ => assign (.Name x px) cenv v >>= fun _ => eval it' cenv >>= fun z => standAt it'.pos >>= fun _ => foldedSetIterable it' cenv z >>= fun z => holding [z] (pyIter z) >>= fun i => runOwn (.compStart (.ListComp elt [⟨.Name x px, it, [], 0⟩, ⟨.Name y py, it', [], 0⟩] sc pos) 1 i acc cenv) cenv >>= fun _ => again (.compLoop (.ListComp elt [⟨.Name x px, it, [], 0⟩, ⟨.Name y py, it', [], 0⟩] sc pos) 0 I acc cenv)) := rfl
  rw [z]
  congr 1; funext _
  congr 1; funext r
  cases r with
  | none => rfl
  | some v =>
    have e : letOwnedTupleGo (.Name x px) I v = pure () := rfl
    simp only [e, pure_bind, bind_assoc]
theorem compStart_at1 {R : Result → Shared → Prop} {s : Shared} {elt : Expr} {g₀ : Comprehension} {it' : Expr} {y : Str} {py : Pos} {sc : Scope} {pos : Pos} {iv acc : Value} {cenv : Env}
    (h0 : codeAny G.M A (.compLoop (.ListComp elt [g₀, ⟨.Name y py, it', [], 0⟩] sc pos) 1 iv acc cenv) R s)
    (hn : ∀ E, wpAny G.M A (pyIter iv) (fun i s' => codeAny G.M A (.compLoop (.ListComp elt [g₀, ⟨.Name y py, it', [], 0⟩] sc pos) 1 i acc cenv) R s') E s) :
    codeAny G.M A (.compStart (.ListComp elt [g₀, ⟨.Name y py, it', [], 0⟩] sc pos) 1 iv acc cenv) R s := by
  refine codeAny_of_tree ?_
  show wpAny _ _ ((compStart (.ListComp elt [g₀, ⟨.Name y py, it', [], 0⟩] sc pos) 1 iv acc cenv).onRaise (fun x => do noteFrame x cenv; standAt theWindowsPlace)) _ _ s
  refine wpAny_notedAt ?_
  unfold compStart
  show wpAny _ _ (ask >>= _) _ _ s
  refine wpAny_bind (wpAny_askSetting (wpAny_ite ?_))
  split
  · first
      | exact wpAny_bind (wpAny_pure (wpAny_pure (And.intro rfl h0)))
      | exact wpAny_pure (And.intro rfl h0)
  · first
      | exact wpAny_bind (wpAny_rule (wpAny_bind (wpAny_standAt (wpAny_bind (wpAny_mono (hn _) (fun it' s' h' => wpAny_pure (And.intro rfl h')) fun _ _ x => x)))))
      | (refine wpAny_bind (wpAny_rule ?_); show wpAny _ _ (standAt it'.pos >>= _) _ _ s; exact wpAny_bind (wpAny_standAt (wpAny_bind (wpAny_mono (hn _) (fun it' s' h' => wpAny_pure (And.intro rfl h')) fun _ _ x => x))))
structure IInv (h : Heap) (X N : List Addr) (CC D : Addr) (x : Str) (v : Value) (hb : Heap) (I2 : Addr) (ac : List Dat) (h' : Heap) : Prop where
  inv : CInv h X N CC D ac h'
  var : ∃ m, h'.Ns CC m ∧ m x = some v
  kept : ∀ b o, b ≠ I2 → b ≠ CC → b ≠ D → hb.get? b = some o → h'.get? b = some o
theorem get_two {x y z : Str} {l m l' : LV} (e : LSt.get [(y, m), (x, l)] z = some l') : (z = y ∧ l' = m) ∨ (z = x ∧ l' = l) := by
  by_cases h : y = z
  · exact .inl ⟨h.symm, (Option.some.inj ((if_pos h).symm.trans e)).symm⟩
  · exact .inr (get_one ((if_neg h).symm.trans e))
theorem more_places {x : Str} {sc : Scope} {cap : LSt} {hx : Heap} {Ia CC D : Addr} {e : Dat} {v : Value} {ac : List Dat} {h' h'' : Heap} (T : TurnIn G O d u A env Ch st h sc cap x hx Ia CC D e v ac h') (k : Kp h' h'') {b : Addr} (n : h''.get? b = none) : b ≠ CC ∧ b ≠ D ∧ b ≠ Ia ∧ hx.get? b = none := by
  have ne : ∀ a ∈ [Ia, CC, D], b ≠ a := fun a m => by
    obtain ⟨o, e⟩ := T.live a m
    exact (ne_of_none n (k _ _ e)).symm
  exact ⟨ne CC (.tail _ (.head _)), ne D (.tail _ (.tail _ (.head _))), ne Ia (.head _), none_of_kp (T.inv.keep.trans k) n⟩
theorem turn2_ok (K : EvOk G O I) (hu : 66 ≤ u) {elt : Expr} {x y : Str} (hxy : x ≠ y) {px py : Pos} {sc : Scope} (B : BlockFacts O.capt sc [x, y]) {cap : LSt} (hcap : freeOf O.capt st sc.names = some cap) {hx : Heap} {Ia CC D I2 : Addr} {e : Dat} {v : Value} {ac : List Dat} {h₄ h₅ : Heap}
    (T : TurnIn G O d u A env Ch st h sc cap x hx Ia CC D e v ac h₄) (k₅ : Kp h₄ h₅) (n2 : h₅.get? I2 = none) {v₂ : Value} {e₂ : Dat} {es₂ ac₂ : List Dat} {s₂ : Shared} {Q₂ : Unit → Shared → Prop} {E₂ : Value → Shared → Prop} (hv₂ : DV (FZ h₅ ([Ia, CC, D] ++ Ch)) v₂ e₂)
    (hf₂ : turnF I (fun st'' => (evV I st'' elt).map ([·])) y ((x, .val e) :: cap) [] e₂ = some es₂) (inv₂ : IInv hx Ch [I2, Ia, CC, D] CC D x v h₅ I2 ac₂ s₂.heap) (hI₂ : ∃ o, s₂.heap.get? I2 = some o) (hl₂ : (ac₂ ++ es₂).length ≤ 4096)
    (q₂ : ∀ h' tk', IInv hx Ch [I2, Ia, CC, D] CC D x v h₅ I2 (ac₂ ++ es₂) h' → (∀ b o, b ≠ CC → b ≠ D → s₂.heap.get? b = some o → h'.get? b = some o) → Q₂ () { s₂ with heap := h', toks := tk' }) :
    wpAny G.M A (assign (.Name y py) (compEnvC sc (closFrom env sc.names []) CC env) v₂ >>= fun _ => eval elt (compEnvC sc (closFrom env sc.names []) CC env) >>= fun w => call (.builtin "list.append") [.ref D, w] >>= fun _ => pure ()) Q₂ E₂ s₂ := by
  obtain ⟨hI2C, hI2D, hI2I, hI2x⟩ := more_places T k₅ n2
  have hN2 : ∀ a ∈ [I2, Ia, CC, D], hx.get? a = none := List.forall_mem_cons.mpr ⟨hI2x, all3 T.nI T.nC T.nD⟩
  have hloc : (compEnvC sc (closFrom env sc.names []) CC env).kindOf y = some .local := by
    show (relabel sc env).names.lookup y = some .local
    rw [relabel_lookup, (B.vars y (.tail _ (.head _))).1]; rfl
  obtain ⟨m₁, hns₁, hmx⟩ := inv₂.var
  refine wpAny_bind (assign_comp (CC := CC) (D := D) rfl B.kind hloc inv₂.inv hns₁ (.tail _ (.tail _ (.head _))) T.nC (Ne.symm T.DC) fun h₇ tk₇ inv₇ hns₇ hsb₇ => ?_)
  have hin₇ : ∀ a ∈ [I2, Ia, CC, D], ∃ o, h₇.get? a = some o := by
    refine List.forall_mem_cons.mpr ⟨?_, all3 ?_ ?_ ?_⟩
    · obtain ⟨o, ho⟩ := hI₂
      exact ⟨o, by rw [hsb₇.2 _ hI2C]; exact ho⟩
    · obtain ⟨o, ho⟩ := T.live Ia (.head _)
      exact ⟨o, by rw [hsb₇.2 _ T.IC]; exact inv₂.kept _ _ (Ne.symm hI2I) T.IC T.ID (k₅ _ _ ho)⟩
    · obtain ⟨o, _, _, ho, _⟩ := hns₇
      exact ⟨o, ho⟩
    · obtain ⟨vs, n, ho, _⟩ := inv₇.acc
      exact ⟨_, ho⟩
  have mv : ∀ a o, FZ h₅ ([Ia, CC, D] ++ Ch) a o → FZ h₇ ([I2, Ia, CC, D] ++ Ch) a o := by
    intro a o w
    have n1 : a ≠ I2 := ne_of_none n2 w.1
    have n2 : a ≠ CC := fun z => w.2 (z ▸ .tail _ (.head _))
    have n3 : a ≠ D := fun z => w.2 (z ▸ .tail _ (.tail _ (.head _)))
    exact ⟨by rw [hsb₇.2 _ n2]; exact inv₂.kept _ _ n1 n2 n3 w.1, fun z => (List.mem_cons.mp z).elim n1 w.2⟩
  have hxv : (fun z => if z = y then some v₂ else m₁ z) x = some v := (if_neg hxy).trans hmx
  have Cc : EC G O d u A (compEnvC sc (closFrom env sc.names []) CC env) ([I2, Ia, CC, D] ++ Ch) ((y, .val e₂) :: (x, .val e) :: cap) h₇ := by
    refine T.C.block B hcap inv₇.keep hN2 hin₇ (vars := [(y, .val e₂), (x, .val e)]) fun z l ez => ?_
    rcases get_two ez with ⟨rfl, rfl⟩ | ⟨rfl, rfl⟩
    · exact ⟨.tail _ (.head _), e₂, rfl, _, v₂, hns₇, if_pos rfl, DV.mono mv hv₂⟩
    · exact ⟨.head _, e, rfl, _, v, hns₇, hxv, DV.mono mv (T.hv.mono (FZ.mono k₅))⟩
  exact emit_ok K Cc hu hf₂ inv₇ (.tail _ (.tail _ (.tail _ (.head _)))) T.nD T.DC hl₂ fun h₈ tk₈ inv₈ hk₈ => q₂ h₈ tk₈ ⟨inv₈, ⟨_, hns₇.at' fun o eo => hk₈ _ _ (Ne.symm T.DC) eo, hxv⟩, fun b o h1 h2 h3 eb => hk₈ b o h3 (by rw [hsb₇.2 b h2]; exact inv₂.kept b o h1 h2 h3 eb)⟩
    fun b o h1 h2 eb => hk₈ b o h2 (by rw [hsb₇.2 b h1]; exact eb)
theorem comp2_ok (K : EvOk G O I) (C : EC G O d u A env Ch st h) (hu : 66 ≤ u) {elt it it' : Expr} {x y : Str} {px py : Pos} {sc : Scope} {pos : Pos} {rs : List Dat} (hq : comp2 O I st elt x it y it' sc = some rs)
    {use : Option (Value → Sem Unit)} {Q : Value → Shared → Prop} {E : Value → Shared → Prop} {s : Shared} (hs : s.heap = h)
    (fin : ∀ D CC h' tk' m vs n, h.get? D = none → h'.get? D = some (W.listOf vs.toArray n) → DVs (FZ h' (CC :: Ch)) vs rs → Kp h h' → h.get? CC = none → D ≠ CC → h'.Ns CC m → compPost G.M A E use Q (.ref D) CC (.ok .next) { s with heap := h', toks := tk' }) :
    wpAny G.M A (comprehension (.ListComp elt [⟨.Name x px, it, [], 0⟩, ⟨.Name y py, it', [], 0⟩] sc pos) sc env it.pos (newList []) false (eval it env) use) Q E s :=
  iE hq fun hb hq => comp_parts (f := fun st' => (itemsOf I (evV I) st' it').bind fun es => compLoop I (fun st'' => (evV I st'' elt).map ([·])) y st' [] es) hq fun cap ds hcap hds hrs hlen => by
    have hb := Bool.and_eq_true_iff.mp hb
    have hxy : x ≠ y := bne_iff_ne.mp hb.2
    have B := blockFacts hb.1
    refine comp_ok K C hu rfl B (.head _) hcap hds hrs hlen _ (fun _ _ _ => turnOut) (fun hx Ia CC D e v ac s' es' Q' E' T hf hl q' => bE hf fun es hes hf => ?_) hs fin
    refine wpAny_bind (items_it K T.Cb hu (g := evV I) (D := fun h' v r => DV (FZ h' ([Ia, CC, D] ++ Ch)) v r) (fun q => evV_ok K T.Cb hu q) (fun _ _ _ x => DL.of x) hes _ _ E' rfl fun xv₂ h₅ tk₅ k₅ ⟨itv₂, hl₂, hxv₂⟩ => ?_)
    refine wpAny_bind (wpAny_standAt ?_)
    rw [not_set hes]
    refine wpAny_bind (wpAny_pure (wpAny_bind (wpAny_holding ?_)))
    refine iter_ok T.C.ctx.hand itv₂ _ _ E' rfl fun iv₂ h₆ tk₆ k₆ ⟨I2, fp₂, P₂, St₂, hiv₂, W₂⟩ => ?_
    subst hiv₂
    refine wpAny_bind (wpAny_runOwn ?_ (by exact fun z => by cases z))
    have hI2 : h₅.get? I2 = none := W₂.new
    obtain ⟨hI2C, hI2D, hI2I, hI2x⟩ := more_places T k₅ hI2
    have start : IInv hx Ch [I2, Ia, CC, D] CC D x v h₅ I2 ac h₆ := by
      have i6 := T.inv.keeps (k₅.trans k₆)
      obtain ⟨m, hns, hm⟩ := T.var
      refine ⟨⟨i6.keep, i6.ns, ?_⟩, ⟨_, hns.keeps (k₅.trans k₆), hm⟩, fun b o _ _ _ eb => k₆ b o eb⟩
      obtain ⟨vs, n, hD₄, r⟩ := T.inv.acc
      exact ⟨vs, n, (k₅.trans k₆) _ _ hD₄, r.mono fun a o w => ⟨(k₅.trans k₆) _ _ w.1, fun z => (List.mem_cons.mp z).elim (ne_of_none hI2 (k₅ _ _ w.1)) w.2⟩⟩
    have fpx₂ : ∀ b ∈ fp₂, b ≠ CC ∧ b ≠ D := by
      intro b hb
      rcases W₂.fps b hb with e | e
      · rw [e]; exact ⟨hI2C, hI2D⟩
      · rcases hxv₂ b e with hn | ⟨r, hr⟩
        · have ne : ∀ a ∈ [Ia, CC, D], b ≠ a := fun a m => by
            obtain ⟨o, e⟩ := T.live a m
            exact (ne_of_none hn e).symm
          exact ⟨ne CC (.tail _ (.head _)), ne D (.tail _ (.tail _ (.head _)))⟩
        · have hb' : b ∉ ([Ia, CC, D] ++ Ch) := by
            subst e
            cases hr with
            | list g _ => exact g.2
            | tuple g _ => exact g.2
          exact ⟨fun z => hb' (z ▸ .tail _ (.head _)), fun z => hb' (z ▸ .tail _ (.tail _ (.head _)))⟩
    have loop₂ : codeAny G.M A (.compLoop (.ListComp elt [⟨.Name x px, it, [], 0⟩, ⟨.Name y py, it', [], 0⟩] sc pos) 1 (.ref I2) (.ref D) (compEnvC sc (closFrom env sc.names []) CC env))
        (fun r s' => match r with | .ok _ => wpAny G.M A (pure ()) Q' E' s' | .error e => cameBackBy G.M A (compEnvC sc (closFrom env sc.names []) CC env) E' e s') { s' with heap := h₆, toks := tk₆ } := by
      refine walk_loop (hx := h₅) (X := [Ia, CC, D] ++ Ch) (xv := xv₂) (ds := es) (h1 := h₆) _ T.C.ctx.hand W₂ turnIn (IInv hx Ch [I2, Ia, CC, D] CC D x v h₅ I2) (turnF I (fun st'' => (evV I st'' elt).map ([·])) y ((x, .val e) :: cap) []) 4096 ?_
        (fun v₂ e₂ es₂ ac₂ s₂ Q₂ E₂ hv₂ hf₂ inv₂ hI₂ hl₂ q₂ => turn2_ok (px := px) K hu hxy B hcap T k₅ hI2 hv₂ hf₂ inv₂ hI₂ hl₂ fun h' tk' inv' hk => q₂ h' tk' inv' fun b hb o eb => hk b o (fpx₂ b hb).1 (fpx₂ b hb).2 eb) (rs := es') (ac := ac) hf hl start W₂.st ?_
      · intro ac h' h'' inv k _
        refine ⟨inv.inv.other (.head _) hI2x hI2C hI2D k, ?_, fun b o h1 h2 h3 eb => k b o h1 (inv.kept b o h1 h2 h3 eb)⟩
        obtain ⟨m, a, b⟩ := inv.var
        exact ⟨m, a.at' fun o eo => k _ _ (Ne.symm hI2C) eo, b⟩
      · intro h' tk' I' inv k
        have inv' : CInv hx Ch [I2, Ia, CC, D] CC D (ac ++ es') h' := inv.inv.other (.head _) hI2x hI2C hI2D k
        refine wpAny_pure (q' h' tk' ⟨inv'.keep, inv'.ns, ?_⟩ fun b o h1 h2 eb => ?_)
        · obtain ⟨vs, n, hD', r⟩ := inv'.acc
          exact ⟨vs, n, hD', r.mono fun a o w => ⟨w.1, fun z => w.2 (List.mem_cons_of_mem _ z)⟩⟩
        · have hb := ne_of_none hI2 (k₅ _ _ eb)
          exact k b o hb (inv.kept b o hb h1 h2 (k₅ b o eb))
    have hmk : A.mark none = A := by cases A; rfl
    rw [hmk]
    exact compStart_at1 loop₂ fun E₃ => (W₂.walks A T.C.ctx.hand).self 0 _ _ _ W₂.st loop₂
end
end Mine
end

section
open PySem PySem.W PyProof.Rows Builtin.Str Builtin
namespace Mine
section
variable {G : Gr} {A : Around} {O : Orc} {I : Itp} {d u : Nat} {env : Env} {Ch : List Addr} {st : LSt} {h : Heap}
theorem comp_fin {rs : List Dat} {s : Shared} {Q : Value → Shared → Prop} {E : Value → Shared → Prop} (q : ∀ v h' tk', Kp h h' → FreshL h h' Ch v rs → Q v { s with heap := h', toks := tk' }) :
    ∀ D CC h' tk' m vs n, h.get? D = none → h'.get? D = some (W.listOf vs.toArray n) → DVs (FZ h' (CC :: Ch)) vs rs → Kp h h' → h.get? CC = none → D ≠ CC → h'.Ns CC m → compPost G.M A E none Q (.ref D) CC (.ok .next) { s with heap := h', toks := tk' } := by
  intro D CC h' tk' m vs n hD hD' r k hc hDC hns
  refine ⟨m, hns, fun h'' hsb => ?_⟩
  refine q _ h'' _ (fun b o e => ?_) ⟨D, vs, n, rfl, hD, by rw [hsb.2 D hDC]; exact hD', r.mono fun a o y => ⟨?_, fun z => y.2 (.tail _ z)⟩⟩
  · have : b ≠ CC := fun z => by rw [z, hc] at e; cases e
    rw [hsb.2 b this]; exact k b o e
  · have : a ≠ CC := fun z => y.2 (by rw [z]; exact .head _)
    rw [hsb.2 a this]; exact y.1
noncomputable def NO (G : Gr) (A : Around) (env : Env) (h : Heap) (Ch : List Addr) (e : Expr) (ds : List Dat) : Prop := Ex G A (eval e env) h fun h' v => FreshL h h' Ch v ds
theorem compF_ok (K : EvOk G O I) (C : EC G O d u A env Ch st h) (hu : 66 ≤ u) {elt : Expr} {gens : List Comprehension} {sc : Scope} {pos : Pos} {ds : List Dat} (q : compF O I st elt gens sc = some ds) : NO G A env h Ch (.ListComp elt gens sc pos) ds := by
  cases gens with
  | nil => exact noE q
  | cons g gens => cases gens with
    | nil => exact bE q fun x hx q => genOf_E (M := fun g => NO G A env h Ch (.ListComp elt [g] sc pos) ds) hx fun p s Q E e q' => by
               rw [eval_ListComp]
               exact comp1_ok K C hu q e (comp_fin q')
    | cons g' gens => cases gens with
      | cons _ _ => exact noE q
      | nil => exact bE q fun x hx q => bE q fun y hy q => iE q fun hi q => by
                 have hi := Bool.and_eq_true_iff.mp hi
                 refine genOf_E (M := fun z => NO G A env h Ch (.ListComp elt [z, g'] sc pos) ds) hx fun p => genOf_E (M := fun z => NO G A env h Ch (.ListComp elt [⟨.Name x p, g.iter, g.ifs, 0⟩, z] sc pos) ds) hy fun p' => ?_
                 rw [List.isEmpty_iff.mp hi.1, List.isEmpty_iff.mp hi.2]
                 intro s Q E e q'
                 rw [eval_ListComp]
                 exact comp2_ok K C hu q e (comp_fin q')
theorem plain_argsD {e : Expr} {r : Dat} (hp : plainE e = true) (hd : evD I st e = some r) : argsD I st [e] = some [r] := by
  show (if plainE e && true then (evD I st e).bind fun b => some [b] else none) = _
  rw [hp, hd]
  rfl
theorem splitF_ok (K : EvOk G O I) (C : EC G O d u A env Ch st h) (hu : 66 ≤ u) {o : Expr} {m : Str} {ap p : Pos} {as : List Expr} {ds : List Dat} (q : splitF I st o m ap p as = some ds) : NO G A env h Ch (.Call (.Attribute o m ap) as [] p) ds :=
  one_E (M := fun as => NO G A env h Ch (.Call (.Attribute o m ap) as [] p) ds) q fun e q => iE q fun hm q => bE q fun od ho q => bE q fun dd hd q => by
    have hm := Bool.and_eq_true_iff.mp hm
    cases od with
    | str x => cases dd with
      | str y =>
        refine iS (M := NO G A env h Ch (.Call (.Attribute o m ap) [e] [] p)) q fun hf => ?_
        obtain ⟨rfl, hy, hx⟩ := hf
        refine meth_call K C hu hm.1 ho (plain_argsD hm.2 hd) F.plainAttrs_str F.slot_str_split F.type_str_split strT fun h' v vs k rv rvs => one_V (M := fun vs => Ex G A (call (.builtin _) (v :: vs)) h' fun h'' v => FreshL h h'' Ch v _) rvs fun w rw => (split_fresh hy hx rv rw).weak fun h'' v' k' x => ?_
        obtain ⟨a, vs, n, e, hn, g, r⟩ := x
        exact ⟨a, vs, n, e, none_of_kp k hn, g, r⟩
      | _ => exact noE q
    | _ => exact noE q
theorem slcL_ok (K : EvOk G O I) (C : EC G O d u A env Ch st h) (hu : 66 ≤ u) {v : Expr} {lo hi : Option Expr} {p pos : Pos} {ds : List Dat} (q : slcL I st v lo hi = some ds) : NO G A env h Ch (.Subscript v (.Slice lo hi none p) pos) ds :=
  bE q fun o ho q => by
    cases o with
    | list l => exact bE q fun a ha q => bE q fun b hb q => iS (M := NO G A env h Ch (.Subscript v (.Slice lo hi none p) pos)) q fun hl => slice_ok K C hu ho ha hb hl
    | _ => exact noE q
theorem evF_ok (K : EvOk G O I) (C : EC G O d u A env Ch st h) (hu : 66 ≤ u) {e : Expr} {ds : List Dat} (q : evF O I st e = some ds) : NO G A env h Ch e ds := by
  cases e with
  | List es p => exact iE q fun hl q => list_ok K C hu hl q
  | ListComp elt gens sc p => exact compF_ok K C hu q
  | Subscript v i p => exact bE q fun c hc q => iE q fun hn q => slOf_E (M := fun i => NO G A env h Ch (.Subscript v i p) ds) hc (Option.isNone_iff_eq_none.mp hn ▸ slcL_ok K C hu q)
  | Call f as kw p => exact bE q fun c hc q => iE q fun hk q => atOf_E (M := fun f => NO G A env h Ch (.Call f as kw p) ds) hc (nil_E (M := fun kw => NO G A env h Ch (.Call (.Attribute c.1 c.2.1 c.2.2) as kw p) ds) hk (splitF_ok K C hu q))
  | _ => exact noE q
theorem RR.of {h' : Heap} {v : Value} {r : Dat} (x : DV (FZ h' Ch) v r) : RR G h' Ch v (.st r) := x
theorem dct_ok (K : EvOk G O I) (C : EC G O d u A env Ch st h) (hu : 66 ≤ u) {x y : Str} {i : Expr} {es : List (Int × Str)} {k : Int} {p pos : Pos} (hx : st.get x = some (.dct es)) (hi : evI I st i = some k) (hy : es.lookup k = some y)
    (hn : slOf i = none) : Ex G A (eval (.Subscript (.Name x p) i pos) env) h fun h' w => DV (FZ h' Ch) w (.str y) := by
  intro s Q E e q
  obtain ⟨hdb, w, hb, a, rfl, hca, hd⟩ := C.nm x _ hx
  refine Subscript_ (name_bnd C hb hdb s _ E e fun o h₁ tk₁ k₁ r₁ => ?_)
  subst r₁
  refine evI_ok K (C.keeps k₁) hu hi _ _ E rfl fun w h₂ tk₂ k₂ ⟨t, hw⟩ => ?_
  subst hw
  obtain ⟨f, hm, _, hf⟩ := hd.keeps (k₁.trans k₂)
  have hfk := hf k
  rw [hy] at hfk
  obtain ⟨t', hfk⟩ := hfk
  refine tail_any (ops := [.ref a, .int k t]) (Heap.IntMap.typeIs (s := { s with heap := h₂, toks := tk₂ }) hm) slot_dict_getitem.lookup ?_ ?_
  · exact wpAny_getItem_intMap hm hfk (q _ _ _ (k₁.trans k₂) (.str _ _))
  · exact not_slice hn _ _
theorem call_key (K : EvOk G O I) (C : EC G O d u A env Ch st h) (hu : 66 ≤ u) {f g kn : Str} {p p' p'' pos : Pos} {es : List Expr} {ds : List Dat} {r : Dat} {kf : Dat → Option Dat}
    (hf : st.get f = some .glo) (hg : st.get g = some (.fn kf)) (hk : kn = Str.ofString "key") (q : argsD I st es = some ds) (hr : O.fk f ds kf = some r) :
    Ex G A (eval (.Call (.Name f p) es [⟨some kn, .Name g p', p''⟩] pos) env) h fun h' v => DV (FZ h' Ch) v r := by
  have hp := argsD_p q
  obtain ⟨hd, hkind⟩ := C.nm f _ hf
  obtain ⟨v, hmg, hfn, hkt⟩ := C.fks f ds kf r hr
  obtain ⟨hgd, w, hgb, hgk⟩ := C.nm g _ hg
  obtain ⟨a, o, fd, rfl, ho, hfd⟩ := hfn
  intro s Q E e q'
  refine wpAny_Call_Name_kw (name_glo C hkind hmg hd s _ E e fun v h₁ tk₁ k₁ r₁ => ?_)
  subst r₁
  have tail : ∀ vs h₂ tk₂, Kp h₁ h₂ → All2 (DL h₂ Ch) vs ds → wpAny G.M A (evalAll ((backToKw pos (keywordEach [⟨some kn, .Name g p', p''⟩] env)).map (·.2))) (fun ks s₂ => (s₂.heap.get? a = some o ∧ o.data = .func fd) ∧ wpAny G.M A (call (.ref a) ([] ++ vs) ([kn].zip ks)) Q E s₂) E { s with heap := h₂, toks := tk₂ } := by
    intro vs h₂ tk₂ k₂ r₂
    refine wpAny_evalAll_cons (wpAny_bind (name_bnd (C.keeps (k₁.trans k₂)) (hgb.keeps (k₁.trans k₂)) hgd _ _ E rfl fun w' h₃ tk₃ k₃ r₃ => wpAny_bind (wpAny_standAt (wpAny_pure (wpAny_evalAll_nil ?_)))))
    subst r₃
    have kk := (k₁.trans k₂).trans k₃
    refine ⟨⟨kk _ _ ho, hfd⟩, ?_⟩
    subst hk
    refine hkt _ kk _ kf (hgk.keeps kk) A _ Kp.rfl (C.ctx.keeps kk) ds r vs hr (r₂.imp fun _ _ x => (DL.keeps k₃ x).al).dvs _ Q E rfl fun v h₄ tk₄ k₄ r₄ => ?_
    refine q' v h₄ tk₄ (kk.trans k₄) (r₄.mono fun b ob hx => ⟨hx.1, fun m => ?_⟩)
    obtain ⟨o', e'⟩ := C.chh b m
    rw [kk _ _ e'] at hx; cases hx.2
  refine callWith_function_kw (o := o) (fd := fd) ?_
  cases es with
  | nil =>
    cases q
    exact evalArgs_kw_nil rfl (tail [] h₁ tk₁ Kp.rfl .nil)
  | cons e es =>
    rw [List.all_cons, Bool.and_eq_true] at hp
    have fin := argsD_ok K (C.keeps k₁) hu q (pos := pos) { s with heap := h₁, toks := tk₁ } _ E rfl fun vs h₂ tk₂ k₂ r₂ => tail vs h₂ tk₂ k₂ r₂
    rw [starEach_cons hp.1] at fin ⊢
    exact evalArgs_kw rfl fin
end
end Mine
end

section
open PySem PySem.W PyProof.Rows Builtin.Str Builtin
namespace Mine
section
variable {G : Gr} {A : Around} {O : Orc} {I : Itp} {d u : Nat} {env : Env} {Ch : List Addr} {st : LSt} {h : Heap}
noncomputable def VO (G : Gr) (A : Around) (env : Env) (h : Heap) (Ch : List Addr) (e : Expr) (r : RV) : Prop := Ex G A (eval e env) h fun h' v => RR G h' Ch v r
theorem itemE_ok (K : EvOk G O I) (C : EC G O d u A env Ch st h) (hu : 66 ≤ u) {v i : Expr} {r : RV} {pos : Pos} (q : itemE I st v i = some r) (hn : slOf i = none) : VO G A env h Ch (.Subscript v i pos) r :=
  bE q fun o ho q => by
    cases o with
    | list l => exact bE q fun k hk q => bE q fun j hj q => mE (M := VO G A env h Ch (.Subscript v i pos)) q fun e he => item_ok K C hu ho hk hj he hn
    | _ => exact noE q
theorem flat_dv {P P' : Addr → Obj → Prop} {v : Value} {e : Dat} (hf : flatD e = true) (x : DV P v e) : DV P' v e := by
  cases e with
  | none => exact x.noneE (M := fun v => DV P' v .none) .none
  | bool b => exact x.boolE (M := fun v => DV P' v (.bool b)) (.bool b)
  | int i => exact x.intE (M := fun v => DV P' v (.int i)) fun t => .int i t
  | str s => exact x.strE (M := fun v => DV P' v (.str s)) fun t => .str s t
  | _ => cases hf
section
variable {r : RV} {p pos : Pos}
theorem cst_ok {c : Const} {k : Nat} (q : cstO c = some r) : VO G A env h Ch (.Constant c k p) r := by
  intro s Q E e q'
  subst e
  cases c with
  | int i => cases q; exact wpAny_Constant_int (q' _ _ _ Kp.rfl (.int _ _))
  | str i => cases q; exact wpAny_Constant_str (q' _ _ _ Kp.rfl (.str _ _))
  | bool i => cases q; exact wpAny_Constant_bool (q' _ _ _ Kp.rfl (.bool _))
  | none => cases q; exact wpAny_Constant_none (q' _ _ _ Kp.rfl .none)
  | _ => exact noE q
theorem name_ok (C : EC G O d u A env Ch st h) {x : Str} {l : LV} (hx : st.get x = some l) (q : lvO O x l = some r) : VO G A env h Ch (.Name x p) r := by
  obtain ⟨hd, hn⟩ := C.nm x _ hx
  have bnd : ∀ {l : LV}, (∃ v, Bnd env h x v ∧ LRel G h Ch v l) → ∀ {r : RV}, (∀ v h', LRel G h' Ch v l → RR G h' Ch v r) → VO G A env h Ch (.Name x p) r := fun ⟨v, hb, hl⟩ _ f => (name_bnd C hb hd).weak fun h' v' k e => f v' h' (e ▸ LRel.keeps k hl)
  cases l with
  | val d => exact sE q (bnd hn fun _ _ x => x)
  | own ds => exact sE q (bnd hn fun _ _ x => x)
  | fn f => exact sE q (bnd hn fun _ _ x => x)
  | glo => exact mE (M := VO G A env h Ch (.Name x p)) q fun e he => by
             obtain ⟨v, hm, hv⟩ := C.gl x e he
             exact (name_glo C hn hm hd).weak fun h' v' k e => by subst e; exact hv.mono fun _ _ f => f.elim
  | dct es => exact noE q
theorem bin_ok (K : EvOk G O I) (C : EC G O d u A env Ch st h) (hu : 66 ≤ u) {l e : Expr} {op : Operator} {a b c : Dat} (ha : evD I st l = some a) (hb : evD I st e = some b) (hc : binop op a b = some c) : VO G A env h Ch (.BinOp l op e p) (.st c) := by
  intro s Q E e q'
  refine wpAny_BinOp (evD_ok K C hu ha s _ E e fun v h₁ tk₁ k₁ r₁ => ?_)
  refine evD_ok K (C.keeps k₁) hu hb _ _ E rfl fun w h₂ tk₂ k₂ r₂ => ?_
  exact binop_ok ((C.keeps k₁).keeps k₂).chh (DL.keeps k₂ r₁) r₂ hc _ Q E rfl fun v h₃ tk₃ k₃ r₃ => q' v h₃ tk₃ ((k₁.trans k₂).trans k₃) r₃
theorem bool_ok (K : EvOk G O I) (C : EC G O d u A env Ch st h) (hu : 66 ≤ u) {x y : Expr} {op : BoolOp} {a b : Bool} (ha : evD I st x = some (.bool a)) (q : andOr op a ((evD I st y).bind boolO) = some b) : VO G A env h Ch (.BoolOp op [x, y] p) (.st (.bool b)) := by
  have rest : (evD I st y).bind boolO = some b → ∀ h₁, Kp h h₁ → VO G A env h₁ Ch y (.st (.bool b)) := fun q h₁ k => (evD_ok K (C.keeps k) hu (bool_eq q)).weak fun h' v _ x => x
  intro s Q E e q'
  cases op with
  | And =>
    refine wpAny_And2 (evD_ok K C hu ha s _ E e fun v h₁ tk₁ k₁ r₁ => ?_)
    refine DV.boolE (M := fun v => wpAny G.M A (truthy v) _ E { s with heap := h₁, toks := tk₁ }) r₁ (wpAny_truthy_bool ?_)
    cases a with
    | true => exact rest q h₁ k₁ _ Q E rfl fun v h₂ tk₂ k₂ r₂ => q' v h₂ tk₂ (k₁.trans k₂) r₂
    | false => cases q; exact DV.boolE (M := fun v => Q v { s with heap := h₁, toks := tk₁ }) r₁ (q' _ h₁ tk₁ k₁ (.bool _))
  | Or =>
    refine wpAny_Or2 (evD_ok K C hu ha s _ E e fun v h₁ tk₁ k₁ r₁ => ?_)
    refine DV.boolE (M := fun v => wpAny G.M A (truthy v) _ E { s with heap := h₁, toks := tk₁ }) r₁ (wpAny_truthy_bool ?_)
    cases a with
    | false => exact rest q h₁ k₁ _ Q E rfl fun v h₂ tk₂ k₂ r₂ => q' v h₂ tk₂ (k₁.trans k₂) r₂
    | true => cases q; exact DV.boolE (M := fun v => Q v { s with heap := h₁, toks := tk₁ }) r₁ (q' _ h₁ tk₁ k₁ (.bool _))
theorem slcE_ok (K : EvOk G O I) (C : EC G O d u A env Ch st h) (hu : 66 ≤ u) {v : Expr} {lo hi : Option Expr} (q : slcE I st v lo hi = some r) : VO G A env h Ch (.Subscript v (.Slice lo hi none p) pos) r :=
  bE q fun o ho q => by
    cases o with
    | list l => exact bE q fun a ha q => bE q fun b hb q => iS (M := VO G A env h Ch (.Subscript v (.Slice lo hi none p) pos)) q fun hl => (slice_ok K C hu ho ha hb hl).weak fun h' v k x => x.dv C.chh
    | str x => exact bE q fun a ha q => bE q fun b hb q => iS (M := VO G A env h Ch (.Subscript v (.Slice lo hi none p) pos)) q fun hl => sliceS_ok K C hu ho ha hb hl
    | _ => exact noE q
theorem callN_ok (K : EvOk G O I) (C : EC G O d u A env Ch st h) (hu : 66 ≤ u) {f : Str} {es : List Expr} {l : LV} (hf : st.get f = some l) (q : callN O I st f es l = some r) : VO G A env h Ch (.Call (.Name f p) es [] pos) r := by
  cases l with
  | fn g => exact bE q fun ds hds q => by
              refine one_E (M := fun ds => argsD I st es = some ds → VO G A env h Ch (.Call (.Name f p) es [] pos) r) q (fun e q hds => bE q fun dd hg q => iS (M := VO G A env h Ch (.Call (.Name f p) es [] pos)) q fun hfl => ?_) hds
              obtain ⟨hd, v, hb, hfn, hcl⟩ := C.nm f _ hf
              obtain ⟨h2, h100⟩ := C.kd f _ hf
              exact call_fn K C hu (fun _ _ _ e => nomatch e) (name_bnd C hb hd) hfn hds fun h' vs k rv => one_V (M := fun vs => Ex G A (call v vs) h' fun h' v => RR G h' Ch v (.st dd)) rv fun w rw =>
                (hcl.up h2 h100 A h' k (C.ctx.keeps k) e dd w hg (DL.al rw)).weak fun h'' v k' x => flat_dv hfl x
  | glo => exact bE q fun ds hds q => oM q (fun dd hbi q => sE q (by
             obtain ⟨id, hm, hv, hc⟩ := builtin_ok hbi
             exact call_bi K C hu hf hm hv hds fun h' vs k r => hc (C.ctx.keeps k) r)) fun _ q => mE (M := VO G A env h Ch (.Call (.Name f p) es [] pos)) q fun dd hg => by
             obtain ⟨hd, hk⟩ := C.nm f _ hf
             obtain ⟨v, hm, hfn, hc⟩ := C.fns f ds dd hg
             exact call_user K C hu (fun _ _ _ e => nomatch e) (name_glo C hk hm hd) hfn hc hds hg
  | _ => exact noE q
theorem fn_eq {x : Option LV} {f : Dat → Option Dat} (q : x.bind fnOfL = some f) : x = some (.fn f) := bE q fun a ha q => by rw [ha]; cases a <;> first | exact noE q | (cases q; rfl)
theorem callK_ok (K : EvOk G O I) (C : EC G O d u A env Ch st h) (hu : 66 ≤ u) {f : Str} {es : List Expr} {kw : List Keyword} {c : Str × Expr} (hk : kwOf kw = some c) (q : callK O I st f es c = some r) : VO G A env h Ch (.Call (.Name f p) es kw pos) r :=
  kwOf_E (M := fun kw => VO G A env h Ch (.Call (.Name f p) es kw pos) r) hk fun p' => iE q fun hc q => bE q fun g hg q => bE q fun l hl q => bE q fun kf hkf q => bE q fun ds hds q => mE (M := VO G A env h Ch (.Call (.Name f p) es [⟨some c.1, c.2, p'⟩] pos)) q fun dd hr => by
    rw [hc.2]
    refine nmOf_E (M := fun e => VO G A env h Ch (.Call (.Name f p) es [⟨some (Str.ofString "key"), e, p'⟩] pos) (.st dd)) hg fun p'' => ?_
    exact call_key K C hu (glo_eq hc.1) (fn_eq (by rw [hl]; exact hkf)) rfl hds hr
theorem evS_ok (K : EvOk G O I) : EvOk G O (I.step O) := by
  intro d u A env Ch st h C hu e r q
  replace q : evS O I st e = some r := q
  show VO G A env h Ch e r
  cases e with
  | Constant c k p => exact cst_ok q
  | Name x p => exact bE q fun l hl q => name_ok C hl q
  | BinOp l op r p => exact bE q fun a ha q => bE q fun b hb q => mE (M := VO G A env h Ch (.BinOp l op r p)) q fun c hc => bin_ok K C hu ha hb hc
  | UnaryOp op e p => cases op with
    | USub => exact mE (M := VO G A env h Ch (.UnaryOp .USub e p)) q fun i hi s Q E e q' => wpAny_UnaryOp (evI_ok K C hu hi s _ E e fun v h₁ tk₁ k₁ ⟨t, r₁⟩ => by
                subst r₁
                exact neg_int (q' _ _ _ k₁ (.int _ _)))
    | _ => exact noE q
  | BoolOp op l p => cases l with
    | nil => exact noE q
    | cons x l => cases l with
      | nil => exact noE q
      | cons y l => cases l with
        | nil => exact bE q fun a ha q => mE (M := VO G A env h Ch (.BoolOp op [x, y] p)) q fun b hb => bool_ok K C hu (bool_eq ha) hb
        | cons _ _ => exact noE q
  | Compare l ops rs p => exact mE (M := VO G A env h Ch (.Compare l ops rs p)) q fun b q => one_E (M := fun ops => VO G A env h Ch (.Compare l ops rs p) (.st (.bool b))) q fun op q => one_E (M := fun rs => VO G A env h Ch (.Compare l [op] rs p) (.st (.bool b))) q fun r q => by
                            obtain ⟨hm, hc⟩ := cmpE_ok K C hu q
                            exact fun s Q E e q' => wpAny_Compare1 (hc s Q E e fun h' tk' k => q' _ h' tk' k (.bool _)) hm
  | Subscript v i p => exact oM q (fun c hc q => iE q fun hn q => slOf_E (M := fun i => VO G A env h Ch (.Subscript v i p) r) hc (Option.isNone_iff_eq_none.mp hn ▸ slcE_ok K C hu q)) fun hn q => oM q (fun x hx q => bE q fun l hl q => by
                         cases l with
                         | dct es => exact bE q fun k hk q => mE (M := VO G A env h Ch (.Subscript v i p)) q fun y hy => nmOf_E (M := fun v => VO G A env h Ch (.Subscript v i p) (.st (.str y))) hx fun p' => dct_ok K C hu hl hk hy hn
                         | _ => exact itemE_ok K C hu q hn) fun _ q => itemE_ok K C hu q hn
  | List es p => exact iE q fun hl q => mE (M := VO G A env h Ch (.List es p)) q fun ds hds => (list_ok K C hu hl hds).weak fun h' v k x => x.dv C.chh
  | ListComp elt gens sc p => exact mE (M := VO G A env h Ch (.ListComp elt gens sc p)) q fun ds hds => (compF_ok K C hu hds).weak fun h' v k x => x.dv C.chh
  | Tuple es n p => exact iE q fun hl q => mE (M := VO G A env h Ch (.Tuple es n p)) q fun ds hds => tuple_ok K C hu hl hds
  | Call f es kw p =>
    refine oM q (fun x hx q => nmOf_E (M := fun f => VO G A env h Ch (.Call f es kw p) r) hx fun p' => oE q (fun hk q => bE q fun l hl q => nil_E (M := fun kw => VO G A env h Ch (.Call (.Name x p') es kw p) r) hk (callN_ok K C hu hl q)) fun _ q => bE q fun c hc q => callK_ok K C hu hc q)
      fun _ q => bE q fun c hc q => iE q fun hk q => bE q fun od ho q => bE q fun ds hds q => mE (M := VO G A env h Ch (.Call f es kw p)) q fun dd hr => ?_
    have hk := Bool.and_eq_true_iff.mp hk
    exact atOf_E (M := fun f => VO G A env h Ch (.Call f es kw p) (.st dd)) hc (nil_E (M := fun kw => VO G A env h Ch (.Call (.Attribute c.1 c.2.1 c.2.2) es kw p) (.st dd)) hk.1 (meth_ok K C hu hk.2 ho hds hr))
  | _ => exact noE q
end
end
end Mine
end

section
open PySem PySem.W PyProof.Rows Builtin.Str Builtin
namespace Mine
noncomputable def LV.heap : LV → Bool
  | .own _ => true
  | .dct _ => true
  | _ => false
theorem LSt.get_put (st : LSt) (x : Str) (l : LV) (y : Str) : (st.put x l).get y = if y = x then some l else st.get y := by
  induction st with
  | nil =>
    show (if x = y then some l else none) = if y = x then some l else none
    by_cases h : x = y
    · rw [if_pos h, if_pos h.symm]
    · rw [if_neg h, if_neg (Ne.symm h)]
  | cons p r ih =>
    show LSt.get (if p.1 = x then (x, l) :: r else p :: LSt.put r x l) y = if y = x then some l else if p.1 = y then some p.2 else LSt.get r y
    by_cases hp : p.1 = x
    · rw [if_pos hp]
      show (if x = y then some l else LSt.get r y) = _
      by_cases h : x = y
      · rw [if_pos h, if_pos h.symm]
      · rw [if_neg h, if_neg (Ne.symm h), if_neg (fun e => h (hp.symm.trans e))]
    · rw [if_neg hp]
      show (if p.1 = y then some p.2 else LSt.get (LSt.put r x l) y) = _
      rw [ih]
      by_cases h : p.1 = y
      · rw [if_pos h, if_neg (fun e => hp (h.trans e)), if_pos h]
      · rw [if_neg h, if_neg h]
theorem LSt.get_del (st : LSt) (x y : Str) : (st.del x).get y = if y = x then none else st.get y := by
  induction st with
  | nil => exact (ite_self (c := y = x) none).symm
  | cons p r ih =>
    unfold LSt.del at ih ⊢
    by_cases hp : p.1 = x
    · rw [List.filter_cons_of_neg (by simp [hp]), ih]
      by_cases h : y = x
      · rw [if_pos h, if_pos h]
      · rw [if_neg h, if_neg h]
        exact (if_neg fun e => h (e.symm.trans hp)).symm
    · rw [List.filter_cons_of_pos (by simp [hp])]
      show (if p.1 = y then some p.2 else LSt.get _ y) = if y = x then none else if p.1 = y then some p.2 else LSt.get r y
      rw [ih]
      by_cases h : y = x
      · rw [if_pos h, if_neg (fun e => hp (e.trans h)), if_pos h]
      · rw [if_neg h, if_neg h]
theorem get_del {st : LSt} {x y : Str} {l : LV} (e : (st.del x).get y = some l) : y ≠ x ∧ st.get y = some l := by
  rw [LSt.get_del] at e
  exact nE e fun h e => ⟨h, e⟩
theorem get_put {st : LSt} {x y : Str} {l m : LV} (e : (st.put x l).get y = some m) : (y = x ∧ m = l) ∨ (y ≠ x ∧ st.get y = some m) := by
  rw [LSt.get_put] at e
  exact oE e (fun h e => .inl ⟨h, (Option.some.inj e).symm⟩) fun h e => .inr ⟨h, e⟩
theorem Bnd.uniq {env : Env} {h : Heap} {x : Str} {v w : Value} (a : Bnd env h x v) (b : Bnd env h x w) : v = w := by
  have ns : ∀ {m m' : Str → Option Value}, h.Ns env.locals m → h.Ns env.locals m' → m x = some v → m' x = some w → v = w := by
    rintro m m' ⟨o, es, ep, e1, e2, _, e3⟩ ⟨o', es', ep', f1, f2, _, f3⟩ q q'
    rw [e1] at f1; cases f1
    rw [e2] at f2; cases f2
    rw [← e3] at q; rw [← f3, q] at q'; cases q'; rfl
  have ce : ∀ {c c' : Addr}, env.cells.lookup x = some c → env.cells.lookup x = some c' → h.IsCell c (some v) → h.IsCell c' (some w) → v = w := by
    rintro c c' l l' ⟨o, e1, e2⟩ ⟨o', f1, f2⟩
    rw [l] at l'; cases l'
    rw [e1] at f1; cases f1
    rw [e2] at f2; cases f2; rfl
  have no : ∀ {k k' : NameKind}, env.kindOf x = some k → env.kindOf x = some k' → k ≠ k' → v = w := fun e e' n => absurd (Option.some.inj (e.symm.trans e')) n
  rcases a with ⟨k, m, n, q⟩ | ⟨k, c, l, q⟩ | ⟨⟨k, _⟩, c, l, q⟩
  · rcases b with ⟨k', m', n', q'⟩ | ⟨k', _⟩ | ⟨⟨k', _⟩, _⟩
    · exact ns n n' q q'
    · exact no k k' nofun
    · exact no k k' nofun
  · rcases b with ⟨k', _⟩ | ⟨k', c', l', q'⟩ | ⟨⟨k', _⟩, _⟩
    · exact no k k' nofun
    · exact ce l l' q q'
    · exact no k k' nofun
  · rcases b with ⟨k', _⟩ | ⟨k', _⟩ | ⟨_, c', l', q'⟩
    · exact no k k' nofun
    · exact no k k' nofun
    · exact ce l l' q q'
noncomputable def InsOk (G : Gr) (O : Orc) (d u : Nat) (v : Value) (b₀ : Heap) : Prop := ∀ (A : Around) (h₁ : Heap), Kp b₀ h₁ → CtxOk G A d u h₁ → ∀ (a : Addr) (vs : List Value) (n : Nat) (ds : List Dat) (w : Value) (e : Dat) (lo hi : Int) (t1 t2 : Tok) (q : Value) (g : Dat → Option Dat) (kd : Dat) (k : Int),
  h₁.get? a = some (listOf vs.toArray n) → b₀.get? a = none → DVs (AL h₁) vs ds → DV (AL h₁) w e → IsKey G q g h₁ → g e = some kd → flatD kd = true → O.fk (Str.ofString "bisect_left") [.list ds, kd, .int lo, .int hi] g = some (.int k) → ds.length ≤ 4095 → 0 ≤ k → k ≤ ds.length →
  ∀ (s : Shared) (Q : Value → Shared → Prop) (E : Value → Shared → Prop), s.heap = h₁ →
    (∀ h' n' tk', (∀ b o, b ≠ a → h₁.get? b = some o → h'.get? b = some o) → h'.get? a = some (listOf (vs.take k.toNat ++ w :: vs.drop k.toNat).toArray n') → Q .none { s with heap := h', toks := tk' }) →
    wpAny G.M A (call v [.ref a, w, .int lo t1, .int hi t2] [(Str.ofString "key", q)]) Q E s
structure Base (G : Gr) (O : Orc) (d u : Nat) (A : Around) (h : Heap) : Prop where
  ctx : CtxOk G A d u h
  gl : ∀ x e, O.glob x = some e → ∃ v, G.mg x = some v ∧ DV (fun _ _ => False) v e
  fns : ∀ f ds e, O.fn f ds = some e → ∃ v, G.mg f = some v ∧ FnOk v h ∧ Callable G d u v [] (O.fn f) h
  fks : ∀ f ds g e, O.fk f ds g = some e → ∃ v, G.mg f = some v ∧ FnOk v h ∧ KeyTaker G d u v (O.fk f) h
  so : ∀ v, v = Value.builtin "sorted" → ∀ h₁, Kp h h₁ → ∀ q g, IsKey G q g h₁ → Callable G d u v [(Str.ofString "key", q)] (fun | [.list ds] => (O.sorted ds g).map .list | _ => none) h₁
  bi : ∀ x ∈ biNames, G.mg x = none
  bb : ∀ x ∈ biNames, G.mb x = bootBuiltins x
  ins : O.lam = true → ∃ v, G.mg (Str.ofString "insort_left") = some v ∧ FnOk v h ∧ InsOk G O d u v h
noncomputable def LB (G : Gr) (b₀ h : Heap) (X Ch : List Addr) (v : Value) : LV → Prop
  | .val e => DV (FZ h X) v e
  | .own ds => ∃ a vs n, v = .ref a ∧ a ∈ Ch ∧ h.get? a = some (listOf vs.toArray n) ∧ DVs (FZ h X) vs ds
  | .dct es => ∃ a, v = .ref a ∧ a ∈ Ch ∧ DctIs h a es
  | .fn f => IsKey G v f b₀
  | .glo => False
noncomputable def NB (G : Gr) (env : Env) (b₀ h : Heap) (X Ch : List Addr) (x : Str) : LV → Prop
  | .glo => env.kindOf x = some .globalImplicit
  | l => ∃ v, Bnd env h x v ∧ LB G b₀ h X Ch v l
theorem NB.of {G : Gr} {env : Env} {b₀ h : Heap} {X Ch : List Addr} {x : Str} {l : LV} (hg : l ≠ .glo) : NB G env b₀ h X Ch x l ↔ ∃ v, Bnd env h x v ∧ LB G b₀ h X Ch v l := by
  cases l <;> first | exact Iff.rfl | exact absurd rfl hg
structure FS (G : Gr) (O : Orc) (d u : Nat) (A : Around) (env : Env) (b₀ : Heap) (T : Option (Addr × Addr × Str)) (Rs Z Ch : List Addr) (st : LSt) (h : Heap) : Prop where
  hk : env.scope.kind = .function
  hg : env.globals = mainGlobals
  hb : env.builtins = builtinsNs
  base : Base G O d u A b₀
  kp : Kp b₀ h
  new : ∀ a ∈ Ch ++ Z, b₀.get? a = none
  live : ∀ a ∈ Ch ++ Z, ∃ o, h.get? a = some o
  zc : ∀ a ∈ Z, a ∉ Ch
  nm : ∀ x l, st.get x = some l → (x == ("__debug__" : Str)) = false ∧ NB G env b₀ h (Ch ++ Z) Ch x l
  cap : ∀ x l, st.get x = some l → l ≠ .glo → O.capt x = true → ∃ c, env.cells.lookup x = some c ∧ env.kindOf x = some .cell
  kd : ∀ x f, st.get x = some (.fn f) → 2 ≤ d ∧ 100 ≤ u
  rs : ∀ a ∈ Rs, a ∈ Ch
  loc : env.locals ∈ Rs ∧ ∃ m, h.Ns env.locals m
  cel : ∀ x c, env.kindOf x = some .cell → env.cells.lookup x = some c → c ∈ Rs ∧ c ≠ env.locals ∧ ∃ o, h.IsCell c o
  celi : ∀ x y c, env.kindOf x = some .cell → env.kindOf y = some .cell → env.cells.lookup x = some c → env.cells.lookup y = some c → x = y
  lk : ∀ x, O.loc x = true → (x == ("__debug__" : Str)) = false ∧ ((env.kindOf x = some .local ∧ O.capt x = false) ∨ (env.kindOf x = some .cell ∧ ∃ c, env.cells.lookup x = some c))
  nofree : ∀ x, env.kindOf x ≠ some .free
  tl : O.lam = true → ∃ P c, T = some (P, c, (env.qual ++ "<lambda>" : Str))
  sep : ∀ x l a, st.get x = some l → l.heap = true → Bnd env h x (.ref a) → a ∉ Rs
  dis : ∀ x y l m v, st.get x = some l → l.heap = true → st.get y = some m → m.heap = true → Bnd env h x v → Bnd env h y v → x = y
  tab : ∀ P c q, T = some (P, c, q) → P ∈ Rs ∧ P ≠ env.locals ∧ (∀ x c', env.kindOf x = some .cell → env.cells.lookup x = some c' → c' ≠ P) ∧ env.code = .ref c ∧ CodeHd b₀ c P ∧ b₀.BuiltinsAt G.mg P ∧ mainGlobals ≠ P ∧
    ∃ ps, h.get? P = some (tabObj ps) ∧ TriplesOk ps.toList ∧ ∀ pos cv, codeAmong pos ps.toList = some cv → ∃ c', cv = .ref c' ∧ h.CodeRec (.ref c') q ∧ c' ∉ Ch ++ Z
noncomputable def Nx (Ch : List Addr) (h : Heap) (Ch' : List Addr) (h' : Heap) : Prop := (∀ b o, b ∉ Ch → h.get? b = some o → h'.get? b = some o) ∧ ∀ a ∈ Ch', a ∈ Ch ∨ h.get? a = none
theorem Nx.trans {Ch Ch' Ch'' : List Addr} {h h' h'' : Heap} (x : Nx Ch h Ch' h') (y : Nx Ch' h' Ch'' h'') : Nx Ch h Ch'' h'' := by
  refine ⟨fun b o hb e => y.1 b o (fun m => ?_) (x.1 b o hb e), fun a m => ?_⟩
  · rcases x.2 b m with q | q
    · exact hb q
    · rw [e] at q; cases q
  · rcases y.2 a m with q | q
    · exact x.2 a q
    · by_cases hc : a ∈ Ch
      · exact .inl hc
      · right
        cases e : h.get? a with
        | none => rfl
        | some o => rw [x.1 a o hc e] at q; cases q
theorem Nx.kp {Ch : List Addr} {h h' : Heap} (k : Kp h h') : Nx Ch h Ch h' := ⟨fun b o _ e => k b o e, fun _ m => .inl m⟩
theorem Nx.rfl {Ch : List Addr} {h : Heap} : Nx Ch h Ch h := .kp Kp.rfl
theorem Nx.chg {Ch : List Addr} {h h' : Heap} {r : Addr} (hr : r ∈ Ch) (k : ∀ b o, b ≠ r → h.get? b = some o → h'.get? b = some o) : Nx Ch h Ch h' := ⟨fun b o hb e => k b o (fun z => hb (by rw [z]; exact hr)) e, fun _ m => .inl m⟩
theorem Nx.add {Ch : List Addr} {h h' : Heap} {a : Addr} (hn : h.get? a = none) (k : Kp h h') : Nx Ch h (a :: Ch) h' := ⟨fun b o _ e => k b o e, fun x m => by
  rcases List.mem_cons.mp m with rfl | m
  · exact .inr hn
  · exact .inl m⟩
section
variable {G : Gr} {O : Orc} {d u : Nat} {A : Around} {env : Env} {b₀ : Heap} {T : Option (Addr × Addr × Str)} {Rs Z Ch : List Addr} {st : LSt} {h h' : Heap}
theorem LB.lrel {X : List Addr} {v : Value} (hx : ∀ a ∈ Ch, a ∈ X) (k : Kp b₀ h) {l : LV} (x : LB G b₀ h X Ch v l) : LRel G h X v l := by
  cases l with
  | own _ =>
    obtain ⟨a, vs, n, e, c, g, r⟩ := x
    exact ⟨a, vs, n, e, hx _ c, g, r⟩
  | dct _ =>
    obtain ⟨a, e, c, r⟩ := x
    exact ⟨a, e, hx _ c, r⟩
  | fn _ => exact IsKey.keeps x k
  | _ => exact x
theorem FS.ec (F : FS G O d u A env b₀ T Rs Z Ch st h) : EC G O d u A env (Ch ++ Z) st h where
  hk := F.hk
  hg := F.hg
  hb := F.hb
  ctx := F.base.ctx.keeps F.kp
  nm := fun x l e => by
    obtain ⟨hd, q⟩ := F.nm x l e
    refine ⟨hd, ?_⟩
    cases l with
    | glo => exact q
    | _ => obtain ⟨v, b, r⟩ := q; exact ⟨v, b, LB.lrel (fun a m => List.mem_append_left _ m) F.kp r⟩
  gl := F.base.gl
  fns := fun f ds e q => by obtain ⟨v, a, b, c⟩ := F.base.fns f ds e q; exact ⟨v, a, b.keeps F.kp, c.keeps F.kp⟩
  fks := fun f ds g e q => by obtain ⟨v, a, b, c⟩ := F.base.fks f ds g e q; exact ⟨v, a, b.keeps F.kp, c.keeps F.kp⟩
  so := fun v e h₁ k₁ => F.base.so v e h₁ (F.kp.trans k₁)
  bi := F.base.bi
  bb := F.base.bb
  chh := F.live
  cap := fun x l e hg hc => by obtain ⟨c, a, b⟩ := F.cap x l e hg hc; exact ⟨c, a, .inl b⟩
  kd := F.kd
theorem FS.sub {st' : LSt} (F : FS G O d u A env b₀ T Rs Z Ch st h) (e : ∀ x l, st'.get x = some l → st.get x = some l) : FS G O d u A env b₀ T Rs Z Ch st' h where
  hk := F.hk
  hg := F.hg
  hb := F.hb
  base := F.base
  kp := F.kp
  new := F.new
  live := F.live
  zc := F.zc
  nm := fun x l q => F.nm x l (e x l q)
  cap := fun x l q => F.cap x l (e x l q)
  kd := fun x f q => F.kd x f (e x _ q)
  rs := F.rs
  loc := F.loc
  cel := F.cel
  celi := F.celi
  lk := F.lk
  nofree := F.nofree
  tl := F.tl
  sep := fun x l a q => F.sep x l a (e x l q)
  dis := fun x y l m v q hl q' => F.dis x y l m v (e x l q) hl (e y m q')
  tab := F.tab
theorem FS.congr {st' : LSt} (F : FS G O d u A env b₀ T Rs Z Ch st h) (e : ∀ x, st'.get x = st.get x) : FS G O d u A env b₀ T Rs Z Ch st' h := F.sub fun x _ q => (e x).symm.trans q
theorem FS.del (F : FS G O d u A env b₀ T Rs Z Ch st h) (x : Str) : FS G O d u A env b₀ T Rs Z Ch (st.del x) h := F.sub fun _ _ e => (get_del e).2
theorem FS.put (F : FS G O d u A env b₀ T Rs Z Ch st h) {x : Str} {v : Value} {l : LV} (hn : st.get x = none) (hx : (x == ("__debug__" : Str)) = false) (hcp : O.capt x = true → ∃ c, env.cells.lookup x = some c ∧ env.kindOf x = some .cell) (b : Bnd env h x v) (r : LB G b₀ h (Ch ++ Z) Ch v l) (hf : ∀ f, l ≠ .fn f) (hg : l ≠ .glo)
    (hs : l.heap = true → ∃ a, v = .ref a ∧ a ∉ Rs ∧ ∀ y m, st.get y = some m → m.heap = true → ¬ Bnd env h y (.ref a)) : FS G O d u A env b₀ T Rs Z Ch (st.put x l) h where
  hk := F.hk
  hg := F.hg
  hb := F.hb
  base := F.base
  kp := F.kp
  new := F.new
  live := F.live
  zc := F.zc
  nm := fun y m q => by
    rcases get_put q with ⟨rfl, rfl⟩ | ⟨_, q⟩
    · exact ⟨hx, (NB.of hg).mpr ⟨v, b, r⟩⟩
    · exact F.nm y m q
  cap := fun y m q hm hc => by
    rcases get_put q with ⟨rfl, rfl⟩ | ⟨_, q⟩
    · exact hcp hc
    · exact F.cap y m q hm hc
  kd := fun y f q => by
    rcases get_put q with ⟨_, e⟩ | ⟨_, q⟩
    · exact absurd e.symm (hf f)
    · exact F.kd y f q
  rs := F.rs
  loc := F.loc
  cel := F.cel
  celi := F.celi
  lk := F.lk
  nofree := F.nofree
  tl := F.tl
  sep := fun y m a q hm hb => by
    rcases get_put q with ⟨rfl, rfl⟩ | ⟨_, q⟩
    · obtain ⟨a', e, ha, _⟩ := hs hm
      have := b.uniq hb
      rw [e] at this; cases this
      exact ha
    · exact F.sep y m a q hm hb
  dis := fun y z m n w q hm q' hn' hb hb' => by
    have one : ∀ {y z w m n}, y = x → m = l → z ≠ x → st.get z = some n → m.heap = true → n.heap = true → Bnd env h y w → Bnd env h z w → False := fun ey em _ q1 hm h1 hb h2 => by
      obtain ⟨a', e, _, hd⟩ := hs (em ▸ hm)
      exact hd _ _ q1 h1 (by rw [← e, b.uniq (ey ▸ hb)]; exact h2)
    rcases get_put q with ⟨ey, em⟩ | ⟨ny, q⟩ <;> rcases get_put q' with ⟨ez, en⟩ | ⟨nz, q'⟩
    · exact ey.trans ez.symm
    · exact (one ey em nz q' hm hn' hb hb').elim
    · exact (one ez en ny q hn' hm hb' hb).elim
    · exact F.dis y z m n w q hm q' hn' hb hb'
  tab := F.tab
theorem LB.mono {X Ch' X' : List Addr} {v : Value} {l : LV} (hz : ∀ a o, FZ h X a o → FZ h' X' a o) (hh : l.heap = true → ∀ a, v = .ref a → a ∈ Ch → a ∈ Ch' ∧ ∀ o, h.get? a = some o → h'.get? a = some o) (x : LB G b₀ h X Ch v l) : LB G b₀ h' X' Ch' v l := by
  cases l with
  | val _ => exact DV.mono hz x
  | own _ =>
    obtain ⟨a, vs, n, e, c, g, r⟩ := x
    exact ⟨a, vs, n, e, (hh rfl a e c).1, (hh rfl a e c).2 _ g, r.mono hz⟩
  | dct _ =>
    obtain ⟨a, e, c, r⟩ := x
    obtain ⟨f, ⟨o, es', ep, ho, r'⟩, q⟩ := id r
    exact ⟨a, e, (hh rfl a e c).1, r.at (((hh rfl a e c).2 o ho).trans ho.symm)⟩
  | fn _ => exact x
  | glo => exact x
theorem Bnd.chg (F : FS G O d u A env b₀ T Rs Z Ch st h) {r : Addr} (k : ∀ b o, b ≠ r → h.get? b = some o → h'.get? b = some o) (hl : r ≠ env.locals) (hc : ∀ x c, env.kindOf x = some .cell → env.cells.lookup x = some c → c ≠ r)
    {x : Str} {v : Value} (b : Bnd env h x v) : Bnd env h' x v := by
  rcases b with ⟨e, m, n, q⟩ | ⟨e, c, l, q⟩ | ⟨⟨e, _⟩, _⟩
  · exact .inl ⟨e, m, n.at' fun o ho => k _ _ (Ne.symm hl) ho, q⟩
  · obtain ⟨o, ho, hd⟩ := q
    exact .inr (.inl ⟨e, c, l, o, k _ _ (hc x c e l) ho, hd⟩)
  · exact absurd e (F.nofree x)
theorem NB.map {X X' Ch' : List Addr} {x : Str} {l : LV} (hb : ∀ v, Bnd env h x v → Bnd env h' x v) (hl : ∀ v, Bnd env h x v → LB G b₀ h X Ch v l → LB G b₀ h' X' Ch' v l) (q : NB G env b₀ h X Ch x l) : NB G env b₀ h' X' Ch' x l := by
  cases l with
  | glo => exact q
  | _ => obtain ⟨v, b, r⟩ := q; exact ⟨v, hb v b, hl v b r⟩
theorem NB.back {X : List Addr} {x : Str} {l : LV} {w : Value} (hb : ∀ v, Bnd env h x v → Bnd env h' x v) (hl : l.heap = true) (q : NB G env b₀ h X Ch x l) (b : Bnd env h' x w) : Bnd env h x w := by
  obtain ⟨v, b₁, _⟩ := (NB.of (by rintro rfl; cases hl)).mp q
  rw [b.uniq (hb v b₁)]; exact b₁
theorem FS.move {Z' Ch' : List Addr} (F : FS G O d u A env b₀ T Rs Z Ch st h) (kp : Kp b₀ h') (new : ∀ a ∈ Ch' ++ Z', b₀.get? a = none) (live : ∀ a ∈ Ch' ++ Z', ∃ o, h'.get? a = some o) (zc : ∀ a ∈ Z', a ∉ Ch') (rs : ∀ a ∈ Rs, a ∈ Ch')
    (hb : ∀ x l, st.get x = some l → ∀ v, Bnd env h x v → Bnd env h' x v) (hl : ∀ x l, st.get x = some l → ∀ v, Bnd env h x v → LB G b₀ h (Ch ++ Z) Ch v l → LB G b₀ h' (Ch' ++ Z') Ch' v l)
    (loc : ∃ m, h'.Ns env.locals m) (cel : ∀ x c, env.kindOf x = some .cell → env.cells.lookup x = some c → ∃ o, h'.IsCell c o)
    (tb : ∀ P c q, T = some (P, c, q) → ∀ o, h.get? P = some o → h'.get? P = some o) (cd : ∀ c q, h.CodeRec (.ref c) q → c ∉ Ch ++ Z → h'.CodeRec (.ref c) q ∧ c ∉ Ch' ++ Z') : FS G O d u A env b₀ T Rs Z' Ch' st h' where
  hk := F.hk
  hg := F.hg
  hb := F.hb
  base := F.base
  kp := kp
  new := new
  live := live
  zc := zc
  nm := fun x l q => ⟨(F.nm x l q).1, (F.nm x l q).2.map (hb x l q) (hl x l q)⟩
  cap := F.cap
  kd := F.kd
  rs := rs
  loc := ⟨F.loc.1, loc⟩
  cel := fun x c e1 e2 => ⟨(F.cel x c e1 e2).1, (F.cel x c e1 e2).2.1, cel x c e1 e2⟩
  celi := F.celi
  lk := F.lk
  nofree := F.nofree
  tl := F.tl
  sep := fun x l a q hh b => F.sep x l a q hh (NB.back (hb x l q) hh (F.nm x l q).2 b)
  dis := fun x y l m v q hq q' hq' b b' => F.dis x y l m v q hq q' hq' (NB.back (hb x l q) hq (F.nm x l q).2 b) (NB.back (hb y m q') hq' (F.nm y m q').2 b')
  tab := fun P c q e => by
    obtain ⟨h1, h2, h3, h4, h5, h6, h7, ps, h8, h9, h10⟩ := F.tab P c q e
    refine ⟨h1, h2, h3, h4, h5, h6, h7, ps, tb P c q e _ h8, h9, fun pos cv hcv => ?_⟩
    obtain ⟨c', e1, e2, e3⟩ := h10 pos cv hcv
    exact ⟨c', e1, cd c' q e2 e3⟩
theorem CodeRec.live {c : Addr} {q : Str} (r : h.CodeRec (.ref c) q) : ∃ o, h.get? c = some o := by
  obtain ⟨c', o, _, _, e4, e5, _⟩ := r
  cases e4
  exact ⟨o, e5⟩
end
end Mine
end

section
open PySem PySem.W PyProof.Rows Builtin.Str Builtin
namespace Mine
section
variable {G : Gr} {O : Orc} {d u : Nat} {A : Around} {env : Env} {b₀ : Heap} {T : Option (Addr × Addr × Str)} {Rs Z Ch : List Addr} {st : LSt} {h h' : Heap}
theorem FS.chg (F : FS G O d u A env b₀ T Rs Z Ch st h) {r : Addr} (hr : r ∈ Ch ++ Z) (k : ∀ b o, b ≠ r → h.get? b = some o → h'.get? b = some o) (hlive : ∃ o, h'.get? r = some o) (hl : r ≠ env.locals)
    (hc : ∀ x c, env.kindOf x = some .cell → env.cells.lookup x = some c → c ≠ r) (hP : ∀ P c q, T = some (P, c, q) → r ≠ P) (ho : ∀ x l, st.get x = some l → l.heap = true → ¬ Bnd env h x (.ref r)) : FS G O d u A env b₀ T Rs Z Ch st h' :=
  F.move (fun b o e => k b o (ne_of_none (F.new r hr) e) (F.kp b o e)) F.new (fun a m => by
      by_cases e : a = r
      · rw [e]; exact hlive
      · obtain ⟨o, q⟩ := F.live a m; exact ⟨o, k a o e q⟩) F.zc F.rs (fun x l q v b => Bnd.chg F k hl hc b)
    (fun x l q v b lb => lb.mono (fun a o y => ⟨k a o (fun e => y.2 (e ▸ hr)) y.1, y.2⟩) fun hh a e m => ⟨m, fun o g => k a o (fun z => ho x l q hh (by rw [← z, ← e]; exact b)) g⟩)
    (by obtain ⟨m, q⟩ := F.loc.2; exact ⟨m, q.at' fun o e => k _ _ (Ne.symm hl) e⟩) (fun x c e1 e2 => by
      obtain ⟨_, _, o, ob, q, q2⟩ := F.cel x c e1 e2
      exact ⟨o, ob, k _ _ (hc x c e1 e2) q, q2⟩) (fun P c q e o ho => k _ _ (Ne.symm (hP P c q e)) ho) fun c q e hn => ⟨e.at fun o ho => k _ _ (fun z => hn (z ▸ hr)) ho, hn⟩
theorem FS.grows {Ch' Z' : List Addr} (F : FS G O d u A env b₀ T Rs Z Ch st h) (k : Kp h h') (hn : ∀ a ∈ Ch' ++ Z', h.get? a = none ∨ a ∈ Ch ++ Z) (live : ∀ a ∈ Ch' ++ Z', ∃ o, h'.get? a = some o) (zc : ∀ a ∈ Z', a ∉ Ch') (rs : ∀ a ∈ Rs, a ∈ Ch')
    (hc : ∀ x l a, st.get x = some l → l.heap = true → Bnd env h x (.ref a) → a ∈ Ch → a ∈ Ch') : FS G O d u A env b₀ T Rs Z' Ch' st h' := by
  have out : ∀ a o, h.get? a = some o → a ∉ Ch ++ Z → a ∉ Ch' ++ Z' := fun a o e n m => (hn a m).elim (fun q => by rw [e] at q; cases q) n
  exact F.move (F.kp.trans k) (fun a m => (hn a m).elim (none_of_kp F.kp) (F.new a)) live zc rs (fun x l q v b => b.keeps k)
    (fun x l q v b lb => lb.mono (fun a o y => ⟨k _ _ y.1, out a o y.1 y.2⟩) fun hh a e m => ⟨hc x l a q hh (e ▸ b) m, fun o g => k a o g⟩)
    (by obtain ⟨m, q⟩ := F.loc.2; exact ⟨m, q.keeps k⟩) (fun x c e1 e2 => by
      obtain ⟨_, _, o, q⟩ := F.cel x c e1 e2
      exact ⟨o, q.keeps k⟩) (fun _ _ _ _ o ho => k _ _ ho) fun c q r hn' => by
      obtain ⟨o, e⟩ := CodeRec.live r
      exact ⟨r.keeps k, out c o e hn'⟩
theorem FS.liveK (F : FS G O d u A env b₀ T Rs Z Ch st h) (k : Kp h h') : ∀ a ∈ Ch ++ Z, ∃ o, h'.get? a = some o := fun a m => by obtain ⟨o, q⟩ := F.live a m; exact ⟨o, k a o q⟩
theorem FS.grow (F : FS G O d u A env b₀ T Rs Z Ch st h) (k : Kp h h') : FS G O d u A env b₀ T Rs Z Ch st h' := F.grows k (fun _ => .inr) (F.liveK k) F.zc F.rs fun _ _ _ _ _ _ m => m
theorem FS.addAll (F : FS G O d u A env b₀ T Rs Z Ch st h) {N M : List Addr} (hn : ∀ a, a ∈ N ∨ a ∈ M → h.get? a = none) (k : Kp h h') (hl : ∀ a, a ∈ N ∨ a ∈ M → ∃ o, h'.get? a = some o) (hd : ∀ a ∈ M, a ∉ N) : FS G O d u A env b₀ T Rs (M ++ Z) (N ++ Ch) st h' := by
  have sp : ∀ b, b ∈ N ++ Ch ++ (M ++ Z) → (b ∈ N ∨ b ∈ M) ∨ b ∈ Ch ++ Z := fun b m => (List.mem_append.mp m).elim (fun m => (List.mem_append.mp m).elim (fun m => .inl (.inl m)) fun m => .inr (List.mem_append_left _ m)) fun m => (List.mem_append.mp m).elim (fun m => .inl (.inr m)) fun m => .inr (List.mem_append_right _ m)
  have ne : ∀ b, b ∈ Ch ++ Z → ¬ (b ∈ N ∨ b ∈ M) := fun b m z => by
    obtain ⟨o, e⟩ := F.live b m
    rw [hn b z] at e; cases e
  exact F.grows k (fun b m => (sp b m).imp (hn b) id) (fun b m => (sp b m).elim (hl b) (F.liveK k b)) (fun b m z => by
      rcases List.mem_append.mp m with m | m <;> rcases List.mem_append.mp z with z | z
      · exact hd b m z
      · exact ne b (List.mem_append_left _ z) (.inr m)
      · exact ne b (List.mem_append_right _ m) (.inl z)
      · exact F.zc b m z) (fun a m => List.mem_append_right _ (F.rs a m)) fun _ _ _ _ _ _ m => List.mem_append_right _ m
theorem FS.add (F : FS G O d u A env b₀ T Rs Z Ch st h) {a : Addr} (hn : h.get? a = none) (k : Kp h h') (hl : ∃ o, h'.get? a = some o) : FS G O d u A env b₀ T Rs Z (a :: Ch) st h' :=
  F.addAll (N := [a]) (M := []) (fun b m => m.elim (fun m => List.mem_singleton.mp m ▸ hn) fun m => nomatch m) k (fun b m => m.elim (fun m => List.mem_singleton.mp m ▸ hl) fun m => nomatch m) (fun _ m => nomatch m)
theorem FS.addZ (F : FS G O d u A env b₀ T Rs Z Ch st h) {a : Addr} (hn : h.get? a = none) (k : Kp h h') (hl : ∃ o, h'.get? a = some o) : FS G O d u A env b₀ T Rs (a :: Z) Ch st h' :=
  F.addAll (N := []) (M := [a]) (fun b m => m.elim (fun m => nomatch m) fun m => List.mem_singleton.mp m ▸ hn) k (fun b m => m.elim (fun m => nomatch m) fun m => List.mem_singleton.mp m ▸ hl) (fun _ _ m => nomatch m)
theorem FS.sub_places {Ch' Z' : List Addr} (F : FS G O d u A env b₀ T Rs Z Ch st h) (sub : ∀ b, b ∈ Ch' ++ Z' → b ∈ Ch ++ Z) (zc : ∀ a ∈ Z', a ∉ Ch') (rs : ∀ a ∈ Rs, a ∈ Ch') (hc : ∀ x l a, st.get x = some l → l.heap = true → Bnd env h x (.ref a) → a ∈ Ch → a ∈ Ch') : FS G O d u A env b₀ T Rs Z' Ch' st h :=
  F.grows Kp.rfl (fun a m => .inr (sub a m)) (fun a m => F.live a (sub a m)) zc rs hc
theorem FS.dropZ {a : Addr} (F : FS G O d u A env b₀ T Rs (a :: Z) Ch st h) : FS G O d u A env b₀ T Rs Z Ch st h :=
  F.sub_places (fun b m => (List.mem_append.mp m).elim (List.mem_append_left _) fun m => List.mem_append_right _ (.tail _ m)) (fun b m => F.zc b (.tail _ m)) F.rs fun _ _ _ _ _ _ m => m
theorem FS.shrink (F : FS G O d u A env b₀ T Rs Z Ch st h) {r : Addr} (hr : r ∉ Rs) (ho : ∀ x l, st.get x = some l → l.heap = true → ¬ Bnd env h x (.ref r)) : FS G O d u A env b₀ T Rs Z (Ch.filter (· != r)) st h :=
  F.sub_places (fun b m => (List.mem_append.mp m).elim (fun m => List.mem_append_left _ (List.mem_filter.mp m).1) (List.mem_append_right _)) (fun b m z => F.zc b m (List.mem_filter.mp z).1)
    (fun b m => List.mem_filter.mpr ⟨F.rs b m, bne_iff_ne.mpr fun e => hr (e ▸ m)⟩) fun x l a q hh b m => List.mem_filter.mpr ⟨m, bne_iff_ne.mpr fun e => ho x l q hh (e ▸ b)⟩
theorem FS.wrote (F : FS G O d u A env b₀ T Rs Z Ch st h) {x : Str} (hn : st.get x = none) {r : Addr} (hrR : r ∈ Rs) (k : ∀ b o, b ≠ r → h.get? b = some o → h'.get? b = some o) (hb : ∀ y w, y ≠ x → Bnd env h y w → Bnd env h' y w) (hlive : ∃ o, h'.get? r = some o) (loc : ∃ m, h'.Ns env.locals m)
    (cel : ∀ x c, env.kindOf x = some .cell → env.cells.lookup x = some c → ∃ o, h'.IsCell c o) (hP : ∀ P c q, T = some (P, c, q) → P ≠ r) : FS G O d u A env b₀ T Rs Z Ch st h' := by
  have hr : r ∈ Ch ++ Z := List.mem_append_left _ (F.rs _ hrR)
  exact F.move (fun b o e => k b o (ne_of_none (F.new r hr) e) (F.kp b o e)) F.new (fun a m => by
      by_cases e : a = r
      · rw [e]; exact hlive
      · obtain ⟨o, q⟩ := F.live a m; exact ⟨o, k a o e q⟩) F.zc F.rs (fun y l e w b => hb y w (fun z => by rw [z, hn] at e; cases e) b)
    (fun y l q w b lb => lb.mono (fun a o y => ⟨k a o (fun e => y.2 (e ▸ hr)) y.1, y.2⟩) fun hh a e m => ⟨m, fun o g => k a o (fun z => F.sep y l a q hh (e ▸ b) (z ▸ hrR)) g⟩)
    loc cel (fun P c q e o ho => k _ _ (hP P c q e) ho) fun c q e hn => ⟨e.at fun o ho => k _ _ (fun z => hn (z ▸ hr)) ho, hn⟩
theorem FS.store (F : FS G O d u A env b₀ T Rs Z Ch st h) {x : Str} {v : Value} (hn : st.get x = none) (hx : O.loc x = true) {s : Shared} {Q : Unit → Shared → Prop} {E : Value → Shared → Prop} (hs : s.heap = h)
    (q : ∀ h' tk', FS G O d u A env b₀ T Rs Z Ch st h' → Bnd env h' x v → Nx Ch h Ch h' → (∃ r ∈ Rs, ∀ b o, b ≠ r → h.get? b = some o → h'.get? b = some o) → (∀ y w, y ≠ x → Bnd env h y w → Bnd env h' y w) → Q () { s with heap := h', toks := tk' }) : wpAny G.M A (storeName env x v) Q E s := by
  subst hs
  obtain ⟨hd, hk⟩ := F.lk x hx
  obtain ⟨hl, m, hm⟩ := F.loc
  rcases hk with ⟨hk, _⟩ | ⟨hk, c, hc⟩
  · refine wpAny_storeName_local hk hm (fun h' hns hsb => ?_) (by rw [F.hk]; rfl)
    have k : ∀ b o, b ≠ env.locals → s.heap.get? b = some o → h'.get? b = some o := fun b o e g => by rw [hsb.2 b e]; exact g
    have hcl : ∀ y c, env.kindOf y = some .cell → env.cells.lookup y = some c → c ≠ env.locals := fun y c e1 e2 => (F.cel y c e1 e2).2.1
    have hb : ∀ y w, y ≠ x → Bnd env s.heap y w → Bnd env h' y w := by
      intro y w hy b
      rcases b with ⟨e, m', n, q⟩ | ⟨e, c, l, o, ho, hd⟩ | ⟨⟨e, _⟩, _⟩
      · refine .inl ⟨e, _, hns, ?_⟩
        rw [if_neg hy]
        obtain ⟨o, es, ep, f1, f2, _, f3⟩ := hm
        obtain ⟨o', es', ep', g1, g2, _, g3⟩ := n
        rw [f1] at g1; cases g1
        rw [f2] at g2; cases g2
        rw [← f3, g3]; exact q
      · exact .inr (.inl ⟨e, c, l, o, k _ _ (hcl y c e l) ho, hd⟩)
      · exact absurd e (F.nofree y)
    refine q h' _ (F.wrote hn hl k hb (by obtain ⟨o, _, _, g, _⟩ := hns; exact ⟨o, g⟩) ⟨_, hns⟩ (fun y c e1 e2 => ?_) fun P c q e => (F.tab P c q e).2.1) (.inl ⟨hk, _, hns, if_pos rfl⟩) (.chg (F.rs _ hl) k) ⟨_, hl, k⟩ hb
    obtain ⟨_, b, o, ob, q, q2⟩ := F.cel y c e1 e2
    exact ⟨o, ob, k _ _ b q, q2⟩
  · obtain ⟨hcR, hcl, o, hco⟩ := F.cel x c hk hc
    refine wpAny_storeName_cell F.hk hk hc hco fun h' hic hsb => ?_
    have k : ∀ b o, b ≠ c → s.heap.get? b = some o → h'.get? b = some o := fun b o e g => by rw [hsb.2 b e]; exact g
    have hb : ∀ y w, y ≠ x → Bnd env s.heap y w → Bnd env h' y w := by
      intro y w hy b
      rcases b with ⟨e, m', n, q⟩ | ⟨e, c', l, o, ho, hd⟩ | ⟨⟨e, _⟩, _⟩
      · exact .inl ⟨e, m', n.at' fun o e => k _ _ (Ne.symm hcl) e, q⟩
      · exact .inr (.inl ⟨e, c', l, o, k _ _ (fun z => hy (F.celi y x c e hk (z ▸ l) hc)) ho, hd⟩)
      · exact absurd e (F.nofree y)
    refine q h' _ (F.wrote hn hcR k hb (by obtain ⟨o, g, _⟩ := hic; exact ⟨o, g⟩) ⟨m, hm.at' fun o e => k _ _ (Ne.symm hcl) e⟩ (fun y c' e1 e2 => ?_) fun P c' q e => Ne.symm ((F.tab P c' q e).2.2.1 x c hk hc)) (.inr (.inl ⟨hk, c, hc, hic⟩)) (.chg (F.rs _ hcR) k) ⟨_, hcR, k⟩ hb
    by_cases z : c' = c
    · exact ⟨_, z ▸ hic⟩
    · obtain ⟨_, _, o, ob, q, q2⟩ := F.cel y c' e1 e2
      exact ⟨o, ob, k _ _ z q, q2⟩
end
end Mine
end

section
open PySem PySem.W PyProof.Rows Builtin.Str Builtin
namespace Mine
section
variable {G : Gr} {O : Orc} {I : Itp} {d u : Nat} {A : Around} {env : Env} {b₀ : Heap} {T : Option (Addr × Addr × Str)} {Rs Z Ch : List Addr} {st : LSt} {h h' : Heap}
theorem listOf_inj {vs ws : List Value} {n m : Nat} (e : listOf vs.toArray n = listOf ws.toArray m) : vs = ws := by
  injection e with _ _ hd
  injection hd with e1 _
  exact congrArg Array.toList e1
theorem tupO_inj {vs ws : List Value} {n m : Nat} (e : ({ cls := .type "tuple", data := .seq vs.toArray n } : Obj) = { cls := .type "tuple", data := .seq ws.toArray m }) : vs = ws := by
  injection e with _ _ hd
  injection hd with e1 _
  exact congrArg Array.toList e1
theorem tup_list {vs ws : List Value} {n m : Nat} (e : ({ cls := .type "tuple", data := .seq vs.toArray n } : Obj) = listOf ws.toArray m) : False := by
  injection e with hc
  injection hc with hc
  exact absurd hc (by decide)
noncomputable def datOf : Value → Option Dat
  | .none => some .none
  | .bool b => some (.bool b)
  | .int i _ => some (.int i)
  | .str x _ => some (.str x)
  | _ => none
theorem DV.flat {P : Addr → Obj → Prop} {v : Value} {e e' : Dat} (x : DV P v e) (q : datOf v = some e') : e' = e := by
  cases x <;> first | exact (Option.some.inj q).symm | exact noE q
theorem DVs.fun {vs : List Value} {es es' : List Dat} (x : DVs (AL h) vs es) (y : DVs (AL h) vs es') : es = es' :=
  DVs.rec (motive_1 := fun v e _ => ∀ e', DV (AL h) v e' → e = e') (motive_2 := fun vs es _ => ∀ es', DVs (AL h) vs es' → es = es')
    (fun _ x => x.flat rfl) (fun _ _ x => x.flat rfl) (fun _ _ _ x => x.flat rfl) (fun _ _ _ x => x.flat rfl)
    (fun g _ ih e' x => by
      cases x with
      | tuple g' r' => cases tupO_inj (Option.some.inj (g.symm.trans g')); exact congrArg Dat.tuple (ih _ r')
      | list g' _ => exact (tup_list (Option.some.inj (g.symm.trans g'))).elim)
    (fun g _ ih e' x => by
      cases x with
      | list g' r' => cases listOf_inj (Option.some.inj (g.symm.trans g')); exact congrArg Dat.list (ih _ r')
      | tuple g' _ => exact (tup_list (Option.some.inj (g'.symm.trans g))).elim)
    (fun _ x => by cases x; rfl) (fun _ _ h1 h2 _ x => by
      cases x with
      | cons a r => rw [h1 _ a, h2 _ r]) x es' y
section
variable {P : Addr → Obj → Prop} {a : Addr} {vs₀ : List Value} {n₀ : Nat} {ds₀ : List Dat}
theorem DVs.noself (hP : ∀ b o, P b o → h.get? b = some o) (ha : h.get? a = some (listOf vs₀.toArray n₀)) (r₀ : DVs (AL h) vs₀ ds₀) {vs : List Value} {es : List Dat} (x : DVs P vs es) : sizeOf es < sizeOf (Dat.list ds₀) → DVs (fun b o => P b o ∧ b ≠ a) vs es :=
  DVs.rec (motive_1 := fun v e _ => sizeOf e < sizeOf (Dat.list ds₀) → DV (fun b o => P b o ∧ b ≠ a) v e) (motive_2 := fun vs es _ => sizeOf es < sizeOf (Dat.list ds₀) → DVs (fun b o => P b o ∧ b ≠ a) vs es)
    (fun _ => .none) (fun b _ => .bool b) (fun i t _ => .int i t) (fun s t _ => .str s t)
    (fun {b vs n ds} g r ih hs => .tuple ⟨g, fun z => by subst z; exact tup_list (Option.some.inj ((hP _ _ g).symm.trans ha))⟩ (ih (Nat.lt_trans (Nat.lt_add_of_pos_left Nat.one_pos) (Dat.tuple.sizeOf_spec ds ▸ hs))))
    (fun {b vs n ds} g r ih hs => .list ⟨g, fun z => by
      subst z
      cases listOf_inj (Option.some.inj ((hP _ _ g).symm.trans ha))
      rw [DVs.fun (r.mono hP) r₀] at hs
      exact Nat.lt_irrefl _ hs⟩ (ih (Nat.lt_trans (Nat.lt_add_of_pos_left Nat.one_pos) (Dat.list.sizeOf_spec ds ▸ hs))))
    (fun _ => .nil) (fun {v vs e es} x r h1 h2 hs => .cons (h1 (Nat.lt_of_le_of_lt (by rw [List.cons.sizeOf_spec]; omega) hs)) (h2 (Nat.lt_of_le_of_lt (by rw [List.cons.sizeOf_spec]; omega) hs))) x
end
theorem own_noself {X : List Addr} {a : Addr} {vs : List Value} {n : Nat} {ds : List Dat} (ha : h.get? a = some (listOf vs.toArray n)) (r : DVs (FZ h X) vs ds) : DVs (FZ h (a :: X)) vs ds := by
  have := DVs.noself (P := FZ h X) (fun b o y => y.1) ha (r.mono FZ.al) r (by simp)
  exact this.mono fun b o y => ⟨y.1.1, fun m => by
    rcases List.mem_cons.mp m with m | m
    · exact y.2 m
    · exact y.1.2 m⟩
structure BV (G : Gr) (O : Orc) (env : Env) (b₀ : Heap) (Rs Z Ch : List Addr) (st : LSt) (h : Heap) (v : Value) (l : LV) : Prop where
  lb : LB G b₀ h (Ch ++ Z) Ch v l
  nf : ∀ f, l ≠ .fn f
  ng : l ≠ .glo
  hs : l.heap = true → ∃ a, v = .ref a ∧ a ∉ Rs ∧ ∀ y m, st.get y = some m → m.heap = true → ¬ Bnd env h y (.ref a)
theorem FS.owns (F : FS G O d u A env b₀ T Rs Z Ch st h) {x : Str} {l : LV} {a : Addr} (q : st.get x = some l) (hh : l.heap = true) (b : Bnd env h x (.ref a)) : a ∈ Ch := by
  obtain ⟨v, b', lb⟩ := (NB.of (by rintro rfl; cases hh)).mp (F.nm x l q).2
  have e := b.uniq b'
  subst e
  cases l with
  | own => obtain ⟨a', _, _, e, m, _⟩ := lb; cases e; exact m
  | dct => obtain ⟨a', e, m, _⟩ := lb; cases e; exact m
  | _ => cases hh
theorem FS.fresh (F : FS G O d u A env b₀ T Rs Z Ch st h) {v : Value} {ds : List Dat} (k : Kp h h') (x : FreshL h h' (Ch ++ Z) v ds) : ∃ a, FS G O d u A env b₀ T Rs Z (a :: Ch) st h' ∧ Nx Ch h (a :: Ch) h' ∧ BV G O env b₀ Rs Z (a :: Ch) st h' v (.own ds) ∧ v = .ref a ∧ h.get? a = none := by
  obtain ⟨a, vs, n, rfl, hn, g, r⟩ := x
  have F' := F.add hn k ⟨_, g⟩
  refine ⟨a, F', .add hn k, ⟨⟨a, vs, n, rfl, .head _, g, own_noself g r⟩, (fun _ z => nomatch z), (fun z => nomatch z), fun _ => ⟨a, rfl, fun m => ?_, fun y m q hm b => ?_⟩⟩, rfl, hn⟩
  · obtain ⟨o, e⟩ := F.live a (List.mem_append_left _ (F.rs a m))
    rw [hn] at e; cases e
  · have b' := NB.back (fun v b => b.keeps k) hm (F.nm y m q).2 b
    obtain ⟨o, e⟩ := F.live a (List.mem_append_left _ (F.owns q hm b'))
    rw [hn] at e; cases e
noncomputable def BE (G : Gr) (O : Orc) (d u : Nat) (A : Around) (env : Env) (b₀ : Heap) (T : Option (Addr × Addr × Str)) (Rs Z Ch : List Addr) (st : LSt) (h : Heap) (same : Prop) (e : Expr) (r : LV × LSt) : Prop :=
  Ex G A (eval e env) h fun h' v => ∃ Ch', FS G O d u A env b₀ T Rs Z Ch' r.2 h' ∧ Nx Ch h Ch' h' ∧ BV G O env b₀ Rs Z Ch' r.2 h' v r.1 ∧ (same → r.2 = st ∧ (∀ a ∈ Ch, a ∈ Ch') ∧ ∀ a, r.1.heap = true → v = .ref a → h.get? a = none)
theorem BE.val {e : Expr} {d' : Dat} {S : Prop} (F : FS G O d u A env b₀ T Rs Z Ch st h) (x : Ex G A (eval e env) h fun h' v => DV (FZ h' (Ch ++ Z)) v d') : BE G O d u A env b₀ T Rs Z Ch st h S e (.val d', st) :=
  x.weak fun h' v k y => ⟨Ch, F.grow k, .kp k, ⟨y, (fun _ z => nomatch z), (fun z => nomatch z), fun z => nomatch z⟩, fun _ => ⟨rfl, fun _ m => m, fun _ z => nomatch z⟩⟩
theorem BE.own (F : FS G O d u A env b₀ T Rs Z Ch st h) {y : Str} {p : Pos} {ds : List Dat} {S : Prop} (hS : ¬ S) (hy : st.get y = some (.own ds)) : BE G O d u A env b₀ T Rs Z Ch st h S (.Name y p) (.own ds, st.del y) := by
  obtain ⟨hd, v, b, lb⟩ := F.nm y _ hy
  refine (name_bnd F.ec b hd).weak fun h' v' k e => ?_
  subst e
  refine ⟨Ch, (F.grow k).del y, .kp k, ⟨lb.mono (Ch' := Ch) (FZ.mono k) (fun _ a e m => ⟨m, fun o g => k a o g⟩), (fun _ z => nomatch z), (fun z => nomatch z), fun _ => ?_⟩, fun z => absurd z hS⟩
  obtain ⟨a, vs, n, rfl, m, g, rr⟩ := lb
  exact ⟨a, rfl, F.sep y _ a hy rfl b, fun z m q hm b' => (get_del q).1 ((F.grow k).dis z y m _ _ (get_del q).2 hm hy rfl b' (b.keeps k))⟩
theorem bindE_ok (K : EvOk G O I) (F : FS G O d u A env b₀ T Rs Z Ch st h) (hu : 66 ≤ u) {x : Str} {e : Expr} {r : LV × LSt} (q : bindE O I st x e = some r) :
    O.loc x = true ∧ BE G O d u A env b₀ T Rs Z Ch st h ((∀ y p, e ≠ .Name y p) ∨ O.muts x = false) e r :=
  nE q fun hx q => ⟨Bool.of_not_eq_false hx, oE q (fun hm q => oE q
      (fun _ q => mE (M := BE G O d u A env b₀ T Rs Z Ch st h ((∀ y p, e ≠ .Name y p) ∨ O.muts x = false) e) q fun ds hds => (evF_ok K F.ec hu hds).weak fun h' v k y => by
        obtain ⟨a, F', nx, bv, e1, e2⟩ := F.fresh k y
        exact ⟨a :: Ch, F', nx, bv, fun _ => ⟨rfl, fun _ m => .tail _ m, fun a' _ e3 => by rw [e1] at e3; cases e3; exact e2⟩⟩)
      fun _ q => bE q fun y hy q => mE (M := BE G O d u A env b₀ T Rs Z Ch st h ((∀ y p, e ≠ .Name y p) ∨ O.muts x = false) e) q fun ds hds => nmOf_E (M := fun e => BE G O d u A env b₀ T Rs Z Ch st h ((∀ y p, e ≠ .Name y p) ∨ O.muts x = false) e (.own ds, st.del y)) hy fun p =>
        BE.own F (fun z => z.elim (fun z => z _ _ rfl) fun z => by rw [hm] at z; cases z) (own_eq hds))
      fun _ q => oM q (fun b _ q => iE q fun _ q => mE (M := BE G O d u A env b₀ T Rs Z Ch st h ((∀ y p, e ≠ .Name y p) ∨ O.muts x = false) e) q fun ds hds => BE.val F ((evF_ok K F.ec hu hds).weak fun h' v k y => y.dv F.live))
        fun _ q => mE (M := BE G O d u A env b₀ T Rs Z Ch st h ((∀ y p, e ≠ .Name y p) ∨ O.muts x = false) e) q fun dd hd => BE.val F (evV_ok K F.ec hu hd)⟩
theorem FS.bind (F : FS G O d u A env b₀ T Rs Z Ch st h) {x : Str} {v : Value} {l : LV} (hx : O.loc x = true) (bv : BV G O env b₀ Rs Z Ch (st.del x) h v l) {s : Shared} {Q : Unit → Shared → Prop} {E : Value → Shared → Prop} (hs : s.heap = h)
    (q : ∀ h' tk', FS G O d u A env b₀ T Rs Z Ch (st.put x l) h' → Nx Ch h Ch h' → (∃ r ∈ Rs, ∀ b o, b ≠ r → h.get? b = some o → h'.get? b = some o) → (∀ y w, y ≠ x → Bnd env h y w → Bnd env h' y w) → Bnd env h' x v → Q () { s with heap := h', toks := tk' }) : wpAny G.M A (storeName env x v) Q E s := by
  have hn : (st.del x).get x = none := by rw [LSt.get_del]; simp
  refine (F.del x).store hn hx hs fun h' tk' F' b nx hr hb => q h' tk' ?_ nx hr hb b
  obtain ⟨r, hrR, k⟩ := hr
  have hrX : r ∈ Ch ++ Z := List.mem_append_left _ (F.rs r hrR)
  have hz : ∀ a o, FZ h (Ch ++ Z) a o → FZ h' (Ch ++ Z) a o := fun a o y => ⟨k a o (fun e => y.2 (by rw [e]; exact hrX)) y.1, y.2⟩
  have lb : LB G b₀ h' (Ch ++ Z) Ch v l := bv.lb.mono hz fun hh a' e' m => ⟨m, fun o g => k a' o (fun z => by
    obtain ⟨a, e, ha, _⟩ := bv.hs hh
    rw [e'] at e; cases e; exact ha (z ▸ hrR)) g⟩
  have P := F'.put hn (F.lk x hx).1 (fun hc => by
    rcases (F.lk x hx).2 with ⟨_, hc'⟩ | ⟨k, c, e⟩
    · rw [hc] at hc'; cases hc'
    · exact ⟨c, e, k⟩) b lb bv.nf bv.ng fun hh => by
    obtain ⟨a, e, ha, hd⟩ := bv.hs hh
    refine ⟨a, e, ha, fun y m q hm b' => ?_⟩
    have hyx : y ≠ x := by rintro rfl; rw [hn] at q; cases q
    obtain ⟨w, b1, _⟩ := (NB.of (by rintro rfl; cases hm)).mp ((F.del x).nm y m q).2
    have e2 := b'.uniq (hb y w hyx b1)
    subst e2
    exact hd y m q hm b1
  refine P.congr fun y => ?_
  rw [LSt.get_put, LSt.get_put, LSt.get_del]
  split <;> rfl
theorem BV.del {Ch : List Addr} {v : Value} {l : LV} (bv : BV G O env b₀ Rs Z Ch st h v l) (x : Str) : BV G O env b₀ Rs Z Ch (st.del x) h v l :=
  ⟨bv.lb, bv.nf, bv.ng, fun hh => by
    obtain ⟨a, e, ha, hd⟩ := bv.hs hh
    exact ⟨a, e, ha, fun y m q hm => hd y m (get_del q).2 hm⟩⟩
end
end Mine
end

section
open PySem PySem.W PyProof.Rows Builtin.Str Builtin
namespace Mine
noncomputable def RT (b₀ h : Heap) (v : Value) : RV → Prop
  | .st e => DV (AL h) v e
  | .cur _ ds => ∃ a vs n, v = .ref a ∧ b₀.get? a = none ∧ h.get? a = some (listOf vs.toArray n) ∧ DVs (AL h) vs ds
  | .fn _ => True
noncomputable def FlOk (b₀ : Heap) (h : Heap) : Flw → Flow → Prop
  | .nx, f => f = .next
  | .ret r, f => ∃ v, f = .ret v ∧ RT b₀ h v r
section
variable {G : Gr} {O : Orc} {I : Itp} {d u : Nat} {A : Around} {env : Env} {b₀ : Heap} {T : Option (Addr × Addr × Str)} {Rs Z Ch : List Addr} {st st' : LSt} {h h' : Heap}
noncomputable def SO (G : Gr) (O : Orc) (d u : Nat) (A : Around) (env : Env) (b₀ : Heap) (T : Option (Addr × Addr × Str)) (Rs Z : List Addr) (t : Sem Flow) (Ch : List Addr) (h : Heap) (fl : Flw) (st' : LSt) : Prop :=
  ∀ (s : Shared) (Q : Flow → Shared → Prop) (E : Value → Shared → Prop), s.heap = h →
    (∀ f Ch' h' tk', Nx Ch h Ch' h' → FS G O d u A env b₀ T Rs Z Ch' st' h' → FlOk b₀ h' fl f → Q f { s with heap := h', toks := tk' }) → wpAny G.M A t Q E s
theorem swaps_no {e : Expr} {x : Str} {px : Pos} {n : Nat} (h : isLC e = none) : swapsWith e (some (.Name x px)) n env = pure false := by
  cases e <;> first | rfl | exact noE h.symm
theorem lc_E {M : Expr → Prop} {e : Expr} {x : Str} {r : LV × LSt} (q : bindE O I st x e = some r) (k : isLC e = none → M e) (k' : ∀ elt gens sc p, M (.ListComp elt gens sc p)) : M e := by
  cases e with
  | ListComp a b c p => exact k' a b c p
  | SetComp a b c p => exact nE q fun _ q => oE q (fun _ q => noE q) fun _ q => noE q
  | DictComp a b c dd p => exact nE q fun _ q => oE q (fun _ q => noE q) fun _ q => noE q
  | _ => exact k rfl
theorem swaps_lc {elt : Expr} {gens : List Comprehension} {sc : Scope} {p : Pos} {x : Str} {px : Pos} {n : Nat} : ∃ b, swapsWith (.ListComp elt gens sc p) (some (.Name x px)) n env = pure b := ⟨_, rfl⟩
theorem firstAsync0 {x : Str} {px : Pos} {it : Expr} {ifs : List Expr} {gs : List Comprehension} : firstAsync (⟨.Name x px, it, ifs, 0⟩ :: gs) = false := rfl
theorem FS.kill {r : Addr} (F : FS G O d u A env b₀ T Rs (r :: Z) Ch st h) (hr : r ∉ Z) (k : ∀ b o, b ≠ r → h.get? b = some o → h'.get? b = some o) : FS G O d u A env b₀ T Rs Z Ch st h' := by
  have hrC : r ∉ Ch := F.zc r (.head _)
  have hl : r ≠ env.locals := fun z => hrC (z ▸ F.rs _ F.loc.1)
  have hc : ∀ x c, env.kindOf x = some .cell → env.cells.lookup x = some c → c ≠ r := fun x c e1 e2 z => hrC (z ▸ F.rs _ (F.cel x c e1 e2).1)
  have sub : ∀ b, b ∈ Ch ++ Z → b ∈ Ch ++ r :: Z := fun b m => (List.mem_append.mp m).elim (List.mem_append_left _) fun m => List.mem_append_right _ (.tail _ m)
  have ner : ∀ b, b ∈ Ch ++ Z → b ≠ r := fun b m z => (List.mem_append.mp m).elim (fun m => hrC (z ▸ m)) fun m => hr (z ▸ m)
  have hrX : r ∈ Ch ++ r :: Z := List.mem_append_right _ (.head _)
  exact F.move (fun b o e => k b o (ne_of_none (F.new r hrX) e) (F.kp b o e)) (fun a m => F.new a (sub a m)) (fun a m => by obtain ⟨o, q⟩ := F.live a (sub a m); exact ⟨o, k a o (ner a m) q⟩) (fun a m => F.zc a (.tail _ m)) F.rs (fun x l q v b => Bnd.chg F k hl hc b)
    (fun x l q v b lb => lb.mono (fun a o y => ⟨k a o (fun e => y.2 (e ▸ hrX)) y.1, fun m => y.2 (sub a m)⟩) fun _ a e m => ⟨m, fun o g => k a o (ner a (List.mem_append_left _ m)) g⟩)
    (by obtain ⟨m, q⟩ := F.loc.2; exact ⟨m, q.at' fun o e => k _ _ (Ne.symm hl) e⟩) (fun x c e1 e2 => by
      obtain ⟨_, _, o, ob, q, q2⟩ := F.cel x c e1 e2
      exact ⟨o, ob, k _ _ (hc x c e1 e2) q, q2⟩) (fun P c q e o ho => k _ _ (ner P (List.mem_append_left _ (F.rs P (F.tab P c q e).1))) ho)
    fun c q e hn => ⟨e.at fun o ho => k _ _ (fun z => hn (z ▸ hrX)) ho, fun m => hn (sub c m)⟩
theorem comp_use (F : FS G O d u A env b₀ T Rs Z Ch st h) {x : Str} {px : Pos} {rs : List Dat} {l : LV} (hx : O.loc x = true) (hl : l = .own rs ∨ l = .val (.list rs)) {s : Shared} {Q : Value → Shared → Prop} {E : Value → Shared → Prop}
    (q : ∀ Ch' h' tk', Nx Ch h Ch' h' → FS G O d u A env b₀ T Rs Z Ch' (st.put x l) h' → Q .none { s with heap := h', toks := tk' }) :
    ∀ D CC h' tk' m vs n, h.get? D = none → h'.get? D = some (W.listOf vs.toArray n) → DVs (FZ h' (CC :: (Ch ++ Z))) vs rs → Kp h h' → h.get? CC = none → D ≠ CC → h'.Ns CC m →
      compPost G.M A E (some (assign (.Name x px) env)) Q (.ref D) CC (.ok .next) { s with heap := h', toks := tk' } := by
  intro D CC h' tk' m vs n hD hD' r k hC hDC hns
  show wpAny _ A (assign (.Name x px) env (.ref D)) _ E _
  have liveC : ∃ o, h'.get? CC = some o := by obtain ⟨o, _, _, g, _⟩ := hns; exact ⟨o, g⟩
  have nD : ∀ a ∈ Ch ++ Z, a ≠ D := fun a m z => by obtain ⟨o, e⟩ := F.live a m; rw [z, hD] at e; cases e
  have nC : ∀ a ∈ Ch ++ Z, a ≠ CC := fun a m z => by obtain ⟨o, e⟩ := F.live a m; rw [z, hC] at e; cases e
  have main : ∃ N, FS G O d u A env b₀ T Rs (CC :: Z) (N ++ Ch) st h' ∧ Nx Ch h (N ++ Ch) h' ∧ BV G O env b₀ Rs (CC :: Z) (N ++ Ch) (st.del x) h' (.ref D) l := by
    rcases hl with rfl | rfl
    · have F' : FS G O d u A env b₀ T Rs ([CC] ++ Z) ([D] ++ Ch) st h' := F.addAll (N := [D]) (M := [CC]) (by
        rintro a (m | m) <;> rw [List.mem_singleton.mp m] <;> assumption) k (by
        rintro a (m | m) <;> rw [List.mem_singleton.mp m]
        · exact ⟨_, hD'⟩
        · exact liveC) (fun a m z => hDC ((List.mem_singleton.mp z).symm.trans (List.mem_singleton.mp m)))
      refine ⟨[D], F', ⟨fun b o _ e => k b o e, fun a m => ?_⟩, (BV.del (l := .own rs) ⟨⟨D, vs, n, rfl, by simp, hD', ?_⟩, (fun _ z => nomatch z), (fun z => nomatch z), fun _ => ⟨D, rfl, fun m => nD D (List.mem_append_left _ (F.rs D m)) rfl, fun y m q hm b => ?_⟩⟩ x)⟩
      · rcases List.mem_cons.mp m with rfl | m
        · exact .inr hD
        · exact .inl m
      · refine (own_noself hD' r).mono fun a o y => ⟨y.1, fun z => y.2 ?_⟩
        simp only [List.mem_append, List.mem_cons] at z ⊢
        rcases z with (z | z) | (z | z)
        · rcases z with z | z
          · exact .inl z
          · cases z
        · exact .inr (.inr (.inl z))
        · exact .inr (.inl z)
        · exact .inr (.inr (.inr z))
      · have b' := NB.back (fun v b => b.keeps k) hm (F.nm y m q).2 b
        exact nD D (List.mem_append_left _ (F.owns q hm b')) rfl
    · have F' : FS G O d u A env b₀ T Rs ([CC] ++ Z) ([] ++ Ch) st h' := F.addAll (N := []) (M := [CC]) (by
        rintro a (m | m)
        · cases m
        · rw [List.mem_singleton.mp m]; assumption) k (by
        rintro a (m | m)
        · cases m
        · rw [List.mem_singleton.mp m]; exact liveC) (fun a _ z => nomatch z)
      have sp : ∀ a, a ∈ Ch ++ CC :: Z → a ∈ CC :: (Ch ++ Z) := fun a m => by
        simp only [List.mem_append, List.mem_cons] at m ⊢
        rcases m with m | m | m
        · exact .inr (.inl m)
        · exact .inl m
        · exact .inr (.inr m)
      refine ⟨[], F', .kp k, BV.del (l := .val (.list rs)) ⟨?_, (fun _ z => nomatch z), (fun z => nomatch z), fun z => nomatch z⟩ x⟩
      refine DV.list ⟨hD', fun m => ?_⟩ (r.mono fun a o y => ⟨y.1, fun m => y.2 (sp a m)⟩)
      rcases List.mem_cons.mp (sp D m) with m | m
      · exact hDC m
      · exact nD D m rfl
  obtain ⟨N, F', nx, bv⟩ := main
  refine wpAny_assign_Name (F'.bind hx bv rfl fun h₁ tk₁ F₁ nx₁ hr _ _ => ?_)
  have hCR : CC ∉ Rs := fun m => nC CC (List.mem_append_left _ (F.rs CC m)) rfl
  obtain ⟨ra, hra, k₁⟩ := hr
  have hns₁ : h₁.Ns CC m := hns.at' fun o e => k₁ _ _ (fun z => hCR (z ▸ hra)) e
  refine ⟨m, hns₁, fun h₂ hsb => ?_⟩
  have k₂ : ∀ b o, b ≠ CC → h₁.get? b = some o → h₂.get? b = some o := fun b o e g => by rw [hsb.2 b e]; exact g
  have nx' := nx.trans nx₁
  refine q (N ++ Ch) h₂ tk₁ ⟨fun b o hb e => k₂ b o (fun z => by rw [z, hC] at e; cases e) (nx'.1 b o hb e), nx'.2⟩ (F₁.kill (fun m => nC CC (List.mem_append_right _ m) rfl) k₂)
theorem get_use {r : LV × LSt} {elt : Expr} {gens : List Comprehension} {sc : Scope} {p : Pos} {x : Str} (q : bindE O I st x (.ListComp elt gens sc p) = some r) : O.loc x = true ∧ ∃ rs, compF O I st elt gens sc = some rs ∧ r.2 = st ∧ (r.1 = .own rs ∨ r.1 = .val (.list rs)) :=
  nE q fun hx q => ⟨Bool.of_not_eq_false hx, oE q
    (fun _ q => mE (M := fun r => ∃ rs, compF O I st elt gens sc = some rs ∧ r.2 = st ∧ (r.1 = .own rs ∨ r.1 = .val (.list rs))) (show (compF O I st elt gens sc).map (fun ds => (LV.own ds, st)) = some r from q) fun rs h => ⟨rs, h, rfl, .inl rfl⟩)
    fun _ q => mE (M := fun r => ∃ rs, compF O I st elt gens sc = some rs ∧ r.2 = st ∧ (r.1 = .own rs ∨ r.1 = .val (.list rs))) (show (compF O I st elt gens sc).map (fun ds => (LV.val (.list ds), st)) = some r from q) fun rs h => ⟨rs, h, rfl, .inr rfl⟩⟩
theorem compF_use (K : EvOk G O I) (F : FS G O d u A env b₀ T Rs Z Ch st h) (hu : 66 ≤ u) {elt : Expr} {gens : List Comprehension} {sc : Scope} {p : Pos} {rs : List Dat} (q : compF O I st elt gens sc = some rs) {t : Sem Unit} {use : Option (Value → Sem Unit)} {Q : Unit → Shared → Prop} {E : Value → Shared → Prop} {s : Shared} (hs : s.heap = h)
    (ht : ∀ x px it ifs gs, gens = ⟨.Name x px, it, ifs, 0⟩ :: gs → t = (comprehension (.ListComp elt gens sc p) sc env it.pos (newList []) false (eval it env) use >>= fun _ => pure ()))
    (fin : ∀ D CC h' tk' m vs n, h.get? D = none → h'.get? D = some (W.listOf vs.toArray n) → DVs (FZ h' (CC :: (Ch ++ Z))) vs rs → Kp h h' → h.get? CC = none → D ≠ CC → h'.Ns CC m → compPost G.M A E use (fun _ s' => wpAny G.M A (pure ()) Q E s') (.ref D) CC (.ok .next) { s with heap := h', toks := tk' }) : wpAny G.M A t Q E s := by
  cases gens with
  | nil => exact noE q
  | cons g gens => cases gens with
    | nil =>
      refine bE q fun x hx q => genOf_E (M := fun z => (∀ x px it ifs gs, [z] = ⟨.Name x px, it, ifs, 0⟩ :: gs → t = (comprehension (.ListComp elt [z] sc p) sc env it.pos (newList []) false (eval it env) use >>= fun _ => pure ())) → wpAny G.M A t Q E s) hx (fun p ht => ?_) ht
      rw [ht _ _ _ _ _ rfl]
      exact wpAny_bind (comp1_ok K F.ec hu q hs fin)
    | cons g' gens => cases gens with
      | cons _ _ => exact noE q
      | nil =>
        refine bE q fun x hx q => bE q fun y hy q => iE q fun hi q => genOf_E (M := fun z => (∀ x px it ifs gs, [z, g'] = ⟨.Name x px, it, ifs, 0⟩ :: gs → t = (comprehension (.ListComp elt [z, g'] sc p) sc env it.pos (newList []) false (eval it env) use >>= fun _ => pure ())) → wpAny G.M A t Q E s) hx (fun p' ht => ?_) ht
        have hi := Bool.and_eq_true_iff.mp hi
        rw [ht _ _ _ _ _ rfl]
        refine wpAny_bind (genOf_E (M := fun z => wpAny G.M A (comprehension (.ListComp elt [⟨.Name x p', g.iter, g.ifs, 0⟩, z] sc p) sc env g.iter.pos (newList []) false (eval g.iter env) use) (fun _ s' => wpAny G.M A (pure ()) Q E s') E s) hy fun p'' => ?_)
        rw [List.isEmpty_iff.mp hi.1, List.isEmpty_iff.mp hi.2]
        exact comp2_ok K F.ec hu q hs fin
theorem assign_ok (K : EvOk G O I) (F : FS G O d u A env b₀ T Rs Z Ch st h) (hu : 66 ≤ u) {x : Str} {px pos : Pos} {e : Expr} {r : LV × LSt} (q : bindE O I st x e = some r) :
    SO G O d u A env b₀ T Rs Z (exec (.Assign [.Name x px] e pos) env) Ch h .nx (r.2.put x r.1) := by
  have plain : ∀ {e : Expr}, bindE O I st x e = some r → swapsWith e (some (.Name x px)) pos.line env = pure false → SO G O d u A env b₀ T Rs Z (exec (.Assign [.Name x px] e pos) env) Ch h .nx (r.2.put x r.1) := by
    intro e q hs s Q E es q'
    obtain ⟨hx, he⟩ := bindE_ok K F hu q
    refine wpAny_Assign_Name (he s _ E es fun v h₁ tk₁ k₁ ⟨Ch', F₁, nx, bv, _⟩ => ?_) hs
    exact F₁.bind hx (bv.del x) rfl fun h₂ tk₂ F₂ nx₂ _ _ _ => q' .next Ch' h₂ tk₂ (nx.trans nx₂) F₂ rfl
  refine lc_E (M := fun e => bindE O I st x e = some r → SO G O d u A env b₀ T Rs Z (exec (.Assign [.Name x px] e pos) env) Ch h .nx (r.2.put x r.1)) q (fun hn q => plain q (swaps_no hn)) (fun elt gens sc p q => ?_) q
  obtain ⟨⟨⟩ | ⟨⟩, hs⟩ := swaps_lc (env := env) (elt := elt) (gens := gens) (sc := sc) (p := p) (x := x) (px := px) (n := pos.line)
  · exact plain q hs
  · intro s Q E es q'
    rw [exec_Assign_Name_used _ _ _ _ hs]
    refine wpAny_bind (wpAny_standAt (wpAny_bind ?_))
    obtain ⟨hx, rs, hc, hr2, hr1⟩ := get_use q
    rw [hr2] at q'
    exact compF_use (p := p) K F hu hc (use := some (assign (.Name x px) env)) es (fun _ _ _ _ _ e => by subst e; rfl)
      (comp_use (E := E) F hx hr1 fun Ch' h' tk' nx F' => wpAny_pure (wpAny_pure (q' .next Ch' h' tk' nx F' rfl)))
end
end Mine
end

section
open PySem PySem.W PyProof.Rows Builtin.Str Builtin
namespace Mine
section
variable {G : Gr} {O : Orc} {I : Itp} {d u : Nat} {A : Around} {env : Env} {b₀ : Heap} {T : Option (Addr × Addr × Str)} {Rs Z Ch : List Addr} {st st' : LSt} {h h' : Heap}
noncomputable def BT (G : Gr) (O : Orc) (d u : Nat) (A : Around) (env : Env) (b₀ : Heap) (T : Option (Addr × Addr × Str)) (Rs Z Ch : List Addr) (st : LSt) (h : Heap) (e : Expr) (l : LV) : Prop :=
  Ex G A (eval e env) h fun h' v => ∃ Ch', FS G O d u A env b₀ T Rs Z Ch' st h' ∧ Nx Ch h Ch' h' ∧ BV G O env b₀ Rs Z Ch' st h' v l ∧ (∀ a ∈ Ch, a ∈ Ch') ∧ ∀ a, l.heap = true → v = .ref a → h.get? a = none
theorem bindT_ok (K : EvOk G O I) (F : FS G O d u A env b₀ T Rs Z Ch st h) (hu : 66 ≤ u) {x : Str} {e : Expr} {l : LV} (q : bindT O I st x e = some l) : O.loc x = true ∧ BT G O d u A env b₀ T Rs Z Ch st h e l :=
  nE q fun hc q => mE (M := fun l => O.loc x = true ∧ BT G O d u A env b₀ T Rs Z Ch st h e l) q fun r hr => by
    obtain ⟨hx, he⟩ := bindE_ok K F hu hr
    refine ⟨hx, he.weak fun h' v k ⟨Ch', F', nx, bv, z⟩ => ?_⟩
    obtain ⟨e1, e2, e3⟩ := z (by
      cases hm : O.muts x with
      | false => exact .inr rfl
      | true => exact .inl fun y p z => hc (by rw [z, hm]; rfl))
    rw [e1] at F' bv
    exact ⟨Ch', F', nx, bv, e2, e3⟩
theorem BV.grow {Ch' : List Addr} {v : Value} {l : LV} (F : FS G O d u A env b₀ T Rs Z Ch st h) (bv : BV G O env b₀ Rs Z Ch st h v l) (k : Kp h h') (nx : Nx Ch h Ch' h') (sub : ∀ a ∈ Ch, a ∈ Ch') : BV G O env b₀ Rs Z Ch' st h' v l where
  lb := bv.lb.mono (fun a o y => ⟨k a o y.1, fun m => by
    rcases List.mem_append.mp m with m | m
    · rcases nx.2 a m with m | m
      · exact y.2 (List.mem_append_left _ m)
      · rw [y.1] at m; cases m
    · exact y.2 (List.mem_append_right _ m)⟩) fun _ a _ m => ⟨sub a m, fun o g => k a o g⟩
  nf := bv.nf
  ng := bv.ng
  hs := fun hh => by
    obtain ⟨a, e, ha, hd⟩ := bv.hs hh
    exact ⟨a, e, ha, fun y m q hm b => hd y m q hm (NB.back (fun v b => b.keeps k) hm (F.nm y m q).2 b)⟩
structure PV (G : Gr) (O : Orc) (env : Env) (b₀ : Heap) (Rs Z Ch : List Addr) (st : LSt) (h₀ h : Heap) (L : List (Str × Value × LV)) : Prop where
  loc : ∀ p ∈ L, O.loc p.1 = true
  bv : ∀ p ∈ L, BV G O env b₀ Rs Z Ch st h p.2.1 p.2.2
  fr : ∀ p ∈ L, ∀ a, p.2.2.heap = true → p.2.1 = .ref a → h₀.get? a = none
  ne : L.Pairwise fun p q => p.2.2.heap = true → q.2.2.heap = true → p.2.1 ≠ q.2.1
inductive Parts (O : Orc) (I : Itp) (st : LSt) : List Str → List Expr → List LV → Prop
  | nil : Parts O I st [] [] []
  | cons {x : Str} {e : Expr} {l : LV} {xs : List Str} {es : List Expr} {ls : List LV} : bindT O I st x e = some l → Parts O I st xs es ls → Parts O I st (x :: xs) (e :: es) (l :: ls)
theorem PV.nil {h₀ : Heap} : PV G O env b₀ Rs Z Ch st h₀ h [] := ⟨(fun _ m => nomatch m), (fun _ m => nomatch m), (fun _ m => nomatch m), .nil⟩
noncomputable def PO (G : Gr) (O : Orc) (d u : Nat) (A : Around) (env : Env) (b₀ : Heap) (T : Option (Addr × Addr × Str)) (Rs Z Ch : List Addr) (st : LSt) (h : Heap) (pos : Pos) (xs : List Str) (es : List Expr) (ls : List LV) : Prop :=
  Ex G A (spliced (backTo pos (starEach es env))) h fun h' vs => vs.length = xs.length ∧ ls.length = xs.length ∧ ∃ Ch', FS G O d u A env b₀ T Rs Z Ch' st h' ∧ Nx Ch h Ch' h' ∧ (∀ a ∈ Ch, a ∈ Ch') ∧ PV G O env b₀ Rs Z Ch' st h h' (xs.zip (vs.zip ls))
theorem BV.place {v : Value} {l : LV} (bv : BV G O env b₀ Rs Z Ch st h v l) (hh : l.heap = true) : ∃ a, v = .ref a ∧ a ∈ Ch := by
  have := bv.lb
  cases l with
  | own => obtain ⟨a, _, _, e, m, _⟩ := this; exact ⟨a, e, m⟩
  | dct => obtain ⟨a, e, m, _⟩ := this; exact ⟨a, e, m⟩
  | _ => cases hh
theorem parts_ok (K : EvOk G O I) (hu : 66 ≤ u) {pos : Pos} {xs : List Str} {es : List Expr} {ls : List LV} (P : Parts O I st xs es ls) : ∀ {Ch : List Addr} {h : Heap}, FS G O d u A env b₀ T Rs Z Ch st h → es.all plainE = true → PO G O d u A env b₀ T Rs Z Ch st h pos xs es ls := by
  induction P with
  | nil =>
    intro Ch h F _ s Q E e q
    subst e
    exact wpAny_items_nil (q [] s.heap s.toks Kp.rfl ⟨rfl, rfl, Ch, F, .rfl, fun _ m => m, PV.nil⟩)
  | cons hb hr ih =>
    rename_i x e l xs es ls
    intro Ch h F hp s Q E es' q
    have hp := Bool.and_eq_true_iff.mp hp
    obtain ⟨hx, he⟩ := bindT_ok K F hu hb
    refine wpAny_items_cons (he s _ E es' fun v h₁ tk₁ k₁ ⟨Ch₁, F₁, nx₁, bv, sub₁, fr⟩ => ?_) (starEach_cons hp.1)
    refine ih F₁ hp.2 _ _ E rfl fun vs h₂ tk₂ k₂ ⟨len, len2, Ch₂, F₂, nx₂, sub₂, pv⟩ => ?_
    refine q _ h₂ tk₂ (k₁.trans k₂) ⟨congrArg Nat.succ len, congrArg Nat.succ len2, Ch₂, F₂, nx₁.trans nx₂, fun a m => sub₂ a (sub₁ a m), ⟨List.forall_mem_cons.mpr ⟨hx, pv.loc⟩, List.forall_mem_cons.mpr ⟨bv.grow F₁ k₂ nx₂ sub₂, pv.bv⟩,
      List.forall_mem_cons.mpr ⟨fr, fun p hp a hh ea => none_of_kp k₁ (pv.fr p hp a hh ea)⟩, List.Pairwise.cons (fun p hp h1 h2 hv => ?_) pv.ne⟩⟩
    obtain ⟨a, ea, m⟩ := bv.place h1
    obtain ⟨o, eo⟩ := F₁.live a (List.mem_append_left _ m)
    rw [pv.fr p hp a h2 (by rw [← ea]; exact hv.symm)] at eo
    cases eo
noncomputable def putAll (st : LSt) : List (Str × Value × LV) → LSt
  | [] => st
  | p :: r => putAll (st.put p.1 p.2.2) r
theorem stores_ok {E : Value → Shared → Prop} {h₀ : Heap} : ∀ {L : List (Str × Value × LV)} {fs : List (Value → Sem Unit)} {st : LSt} {h : Heap}, FS G O d u A env b₀ T Rs Z Ch st h → PV G O env b₀ Rs Z Ch st h₀ h L → (L.map (·.1)).Nodup →
    All2 (fun (p : Str × Value × LV) f => ∀ (s : Shared) (Q : Unit → Shared → Prop), wpAny G.M A (storeName env p.1 p.2.1) Q E s → wpAny G.M A (f p.2.1) Q E s) L fs → ∀ {s : Shared} {Q : Unit → Shared → Prop}, s.heap = h →
    (∀ h' tk', FS G O d u A env b₀ T Rs Z Ch (putAll st L) h' → Nx Ch h Ch h' → Q () { s with heap := h', toks := tk' }) → wpAny G.M A (assignInOrder fs (L.map (·.2.1))) Q E s := by
  intro L
  induction L with
  | nil =>
    intro fs st h F pv nd af s Q es q
    cases af
    subst es; exact wpAny_pure (q s.heap s.toks F .rfl)
  | cons p L ih =>
    intro fs st h F pv nd af s Q es q
    cases af
    rename_i f fs hf hr
    rw [List.map_cons, List.nodup_cons] at nd
    have bv := pv.bv p (.head _)
    show wpAny G.M A (holding (L.map (·.2.1)) (f p.2.1) >>= fun _ => assignInOrder fs (L.map (·.2.1))) Q E s
    refine wpAny_bind (wpAny_holding (hf _ _ (F.bind (pv.loc p (.head _)) (bv.del p.1) es fun h₁ tk₁ F₁ nx₁ hr₁ hb₁ b₁ => ?_)))
    refine ih F₁ ⟨fun p' m => pv.loc p' (.tail _ m), fun p' m => ?_, fun p' m => pv.fr p' (.tail _ m), (List.pairwise_cons.mp pv.ne).2⟩ nd.2 hr rfl fun h₂ tk₂ F₂ nx₂ => q h₂ tk₂ F₂ (nx₁.trans nx₂)
    have bv' := pv.bv p' (.tail _ m)
    obtain ⟨r, hrR, k⟩ := hr₁
    have hrX : r ∈ Ch ++ Z := List.mem_append_left _ (F.rs r hrR)
    have hz : ∀ a o, FZ h (Ch ++ Z) a o → FZ h₁ (Ch ++ Z) a o := fun a o y => ⟨k a o (fun e => y.2 (by rw [e]; exact hrX)) y.1, y.2⟩
    refine ⟨bv'.lb.mono hz fun hh a' e' m => ⟨m, fun o g => k a' o (fun z => ?_) g⟩, bv'.nf, bv'.ng, fun hh => ?_⟩
    · obtain ⟨a, e, ha, _⟩ := bv'.hs hh
      rw [e'] at e; cases e; exact ha (z ▸ hrR)
    · obtain ⟨a, e, ha, hd⟩ := bv'.hs hh
      refine ⟨a, e, ha, fun y m' q' hm b' => ?_⟩
      rcases get_put q' with ⟨hy, hl⟩ | ⟨hy, q'⟩
      · subst hy
        exact (List.pairwise_cons.mp pv.ne).1 p' m (hl ▸ hm) hh ((b₁.uniq b').trans e.symm)
      · obtain ⟨w, b1, _⟩ := (NB.of (by rintro rfl; cases hm)).mp (F.nm y m' q').2
        have e2 := b'.uniq (hb₁ y w hy b1)
        subst e2
        exact hd y m' q' hm b1
theorem putAll_get {L : List (Str × Value × LV)} : ∀ {st : LSt}, (L.map (·.1)).Nodup → (∀ p ∈ L, (putAll st L).get p.1 = some p.2.2) ∧ ∀ y, y ∉ L.map (·.1) → (putAll st L).get y = st.get y := by
  induction L with
  | nil => exact fun _ => ⟨(fun _ m => nomatch m), fun _ _ => rfl⟩
  | cons p L ih =>
    intro st nd
    rw [List.map_cons, List.nodup_cons] at nd
    obtain ⟨a, b⟩ := ih (st := st.put p.1 p.2.2) nd.2
    refine ⟨List.forall_mem_cons.mpr ⟨(b _ nd.1).trans ?_, a⟩, fun y hy => ?_⟩
    · rw [LSt.get_put, if_pos rfl]
    · rw [List.map_cons, List.mem_cons, not_or] at hy
      exact (b y hy.2).trans (by rw [LSt.get_put, if_neg hy.1])
theorem putAll_rev {L : List (Str × Value × LV)} {st : LSt} (nd : (L.map (·.1)).Nodup) (y : Str) : (putAll st L.reverse).get y = (putAll st L).get y := by
  have nd' : (L.reverse.map (·.1)).Nodup := by rw [List.map_reverse]; exact (List.reverse_perm _).nodup_iff.mpr nd
  obtain ⟨a, b⟩ := putAll_get (st := st) nd
  obtain ⟨a', b'⟩ := putAll_get (st := st) nd'
  by_cases h : y ∈ L.map (·.1)
  · obtain ⟨p, m, rfl⟩ := List.mem_map.mp h
    rw [a p m, a' p (List.mem_reverse.mpr m)]
  · rw [b y h, b' y (by rw [List.map_reverse, List.mem_reverse]; exact h)]
inductive Tgts : List Str → List Expr → Prop
  | nil : Tgts [] []
  | cons {x : Str} {p : Pos} {xs : List Str} {ts : List Expr} : Tgts xs ts → Tgts (x :: xs) (.Name x p :: ts)
theorem Tgts.names {line : Nat} {xs : List Str} {ts : List Expr} (x : Tgts xs ts) : (ts.filterMap fun
    | .Name nm pos => if env.kindOf nm == some .local && pos.line == line then some nm else none
    | _ => none).length = ts.length → (ts.filterMap fun
    | .Name nm pos => if env.kindOf nm == some .local && pos.line == line then some nm else none
    | _ => none) = xs := by
  induction x with
  | nil => exact fun _ => rfl
  | cons r ih =>
    rename_i x p xs ts
    intro h
    rw [List.filterMap_cons] at h ⊢
    cases hc : env.kindOf x == some .local && p.line == line with
    | false =>
      simp only [hc] at h
      exact absurd h (Nat.ne_of_lt (Nat.lt_succ_of_le (List.length_filterMap_le _ _)))
    | true =>
      simp only [hc] at h ⊢
      exact congrArg (x :: ·) (ih (Nat.succ.inj h))
theorem swaps_tuple {xs : List Str} {ts es : List Expr} {k k' : Nat} {tp ep : Pos} (ht : Tgts xs ts) (hs : swapOk es = true) :
    swappedStores [.Tuple ts k tp] (.Tuple es k' ep) env = pure none ∨ swappedStores [.Tuple ts k tp] (.Tuple es k' ep) env = pure (some xs) := by
  unfold swappedStores
  dsimp only
  split
  · exact .inl rfl
  · split
    · exact .inl rfl
    · split
      · exact .inl rfl
      · rename_i hn
        split
        · exact .inl rfl
        · rename_i hf
          unfold swapOk at hs
          split
          · rename_i hc
            simp only [Bool.not_eq_true] at hf
            rw [hf, hc] at hs
            cases hs
          · right
            simp only [Bool.or_eq_true, bne_iff_ne, ne_eq, not_or, Decidable.not_not] at hn
            rw [← ht.names hn.1]
            rfl
theorem Tgts.each {xs : List Str} {ts : List Expr} (x : Tgts xs ts) : (assignEach ts env).length = xs.length ∧ (assignEach ts env).findIdx? (·.1) = none := by
  induction x with
  | nil => exact ⟨rfl, rfl⟩
  | cons r ih =>
    rename_i x p xs ts
    refine ⟨congrArg Nat.succ ih.1, ?_⟩
    show ((false, assign (.Name x p) env) :: assignEach ts env).findIdx? (·.1) = none
    rw [List.findIdx?_cons, ih.2]
    rfl
theorem Tgts.fs {E : Value → Shared → Prop} {xs : List Str} {ts : List Expr} (x : Tgts xs ts) : ∀ {vs : List Value} {ls : List LV}, vs.length = xs.length → ls.length = xs.length →
    All2 (fun (p : Str × Value × LV) f => ∀ (s : Shared) (Q : Unit → Shared → Prop), wpAny G.M A (storeName env p.1 p.2.1) Q E s → wpAny G.M A (f p.2.1) Q E s) (xs.zip (vs.zip ls)) ((assignEach ts env).map (·.2)) := by
  induction x with
  | nil => exact fun _ _ => .nil
  | cons r ih =>
    intro vs ls h1 h2
    cases vs with
    | nil => cases h1
    | cons v vs => cases ls with
      | nil => cases h2
      | cons l ls => exact .cons (fun s Q hw => wpAny_assign_Name hw) (ih (Nat.succ.inj h1) (Nat.succ.inj h2))
theorem all2_map {α β γ : Type} {R : α → β → Prop} (g : α → γ) (f : γ → β) (h : ∀ a, R a (f (g a))) : ∀ as : List α, All2 R as ((as.map g).map f)
  | [] => .nil
  | a :: as => .cons (h a) (all2_map g f h as)
theorem zip_names {xs : List Str} {vs : List Value} {ls : List LV} (h1 : vs.length = xs.length) (h2 : ls.length = xs.length) : (xs.zip (vs.zip ls)).map (·.1) = xs := by
  rw [← List.unzip_fst, List.unzip_zip_left]
  simp [h1, h2]
theorem zip_vals {xs : List Str} : ∀ {vs : List Value} {ls : List LV}, vs.length = xs.length → ls.length = xs.length → (xs.zip (vs.zip ls)).map (·.2.1) = vs := by
  induction xs with
  | nil => intro vs ls h1 _; cases vs with
    | nil => rfl
    | cons => cases h1
  | cons x xs ih => intro vs ls h1 h2; cases vs with
    | nil => cases h1
    | cons v vs => cases ls with
      | nil => cases h2
      | cons l ls => exact congrArg (v :: ·) (ih (Nat.succ.inj h1) (Nat.succ.inj h2))
noncomputable def putL (st : LSt) : List Str → List LV → LSt
  | x :: xs, l :: ls => putL (st.put x l) xs ls
  | _, _ => st
theorem putAll_zip {xs : List Str} : ∀ {vs : List Value} {ls : List LV} {st : LSt}, vs.length = xs.length → ls.length = xs.length → putAll st (xs.zip (vs.zip ls)) = putL st xs ls := by
  induction xs with
  | nil => intro vs ls st _ _; cases ls <;> rfl
  | cons x xs ih => intro vs ls st h1 h2; cases vs with
    | nil => cases h1
    | cons v vs => cases ls with
      | nil => cases h2
      | cons l ls => exact ih (st := st.put x l) (Nat.succ.inj h1) (Nat.succ.inj h2)
theorem tupAssign_ok (K : EvOk G O I) (F : FS G O d u A env b₀ T Rs Z Ch st h) (hu : 66 ≤ u) {xs : List Str} {ts es : List Expr} {ls : List LV} {k k' : Nat} {tp ep pos : Pos} (ht : Tgts xs ts) (P : Parts O I st xs es ls) (hp : es.all plainE = true) (hn : xs.Nodup) (hs : swapOk es = true) (h3 : xs.length ≤ 3) :
    SO G O d u A env b₀ T Rs Z (exec (.Assign [.Tuple ts k tp] (.Tuple es k' ep) pos) env) Ch h .nx (putL st xs ls) := by
  intro s Q E e q
  have val : ∀ {R : Value → Shared → Prop}, (∀ (t : Addr) (vs : List Value) Ch' h' tk', IsTup h' t vs.toArray → vs.length = xs.length → ls.length = xs.length → FS G O d u A env b₀ T Rs Z Ch' st h' → Nx Ch h Ch' h' → PV G O env b₀ Rs Z Ch' st h h' (xs.zip (vs.zip ls)) → R (.ref t) { s with heap := h', toks := tk' }) →
      wpAny G.M A (eval (.Tuple es k' ep) env) R E s := by
    intro R hR
    refine wpAny_Tuple (parts_ok K hu P F hp s _ E e fun vs h₁ tk₁ k₁ ⟨l1, l2, Ch₁, F₁, nx₁, _, pv⟩ => ⟨by rw [l1, sizeLine_eq]; omega, ?_⟩)
    have kp := Kp.push h₁ ({ cls := .type "tuple", data := .seq vs.toArray 0 } : Obj)
    refine hR _ vs Ch₁ _ tk₁ ⟨_, Heap.get?_push_size _ rfl, rfl, _, rfl⟩ l1 l2 (F₁.grow (Kp.push _ _)) (nx₁.trans (.kp (Kp.push _ _))) ⟨pv.loc, fun p m => (pv.bv p m).grow F₁ (Kp.push _ _) (.kp (Kp.push _ _)) (fun _ m => m), pv.fr, pv.ne⟩
  have upk : ∀ {t : Addr} {vs : List Value} {h₁ : Heap} {tk₁ : Tok} {R : List Value → Shared → Prop}, IsTup h₁ t vs.toArray → (∀ h₂, Kp h₁ h₂ → R vs { s with heap := h₂, toks := tk₁ }) → wpAny G.M A (unpackItems (.ref t) vs.length none) R E { s with heap := h₁, toks := tk₁ } := by
    intro t vs h₁ tk₁ R it hR
    refine unpackItems_tuple (items := vs.toArray) F.base.ctx.hand it fun h₂ he => hR h₂ fun b o g => he b o (Nat.ne_of_lt (Heap.lt_size g)) g
  rcases swaps_tuple (env := env) (k := k) (k' := k') (tp := tp) (ep := ep) ht hs with hw | hw
  · refine Assign_Tuple (val fun t vs Ch₁ h₁ tk₁ it l1 l2 F₁ nx₁ pv => ?_) rfl hw
    obtain ⟨e1, e2⟩ := ht.each (env := env)
    refine assign_Tuple_tuple F.base.ctx.hand it (by rw [e1, List.size_toArray, l1]) e2 fun h₂ he => ?_
    have kp : Kp h₁ h₂ := fun b o g => he b o (Nat.ne_of_lt (Heap.lt_size g)) g
    have pv₂ : PV G O env b₀ Rs Z Ch₁ st h h₂ (xs.zip (vs.zip ls)) := ⟨pv.loc, fun p m => (pv.bv p m).grow F₁ kp (.kp kp) (fun _ m => m), pv.fr, pv.ne⟩
    have := stores_ok (E := E) (fs := (assignEach ts env).map (·.2)) (F₁.grow kp) pv₂ (by rw [zip_names l1 l2]; exact hn) (ht.fs l1 l2) (s := { s with heap := h₂, toks := tk₁ }) (Q := fun _ => Q .next) rfl fun h₃ tk₃ F₃ nx₃ =>
      q .next Ch₁ h₃ tk₃ ((nx₁.trans (.kp kp)).trans nx₃) (by rw [putAll_zip l1 l2] at F₃; exact F₃) rfl
    rw [zip_vals l1 l2] at this
    simpa using this
  · refine Assign_Tuple_swapped (val fun t vs Ch₁ h₁ tk₁ it l1 l2 F₁ nx₁ pv => ?_) rfl hw
    rw [← l1]
    refine upk it fun h₂ kp => ?_
    have pv₂ : PV G O env b₀ Rs Z Ch₁ st h h₂ (xs.zip (vs.zip ls)).reverse := ⟨fun p m => pv.loc p (List.mem_reverse.mp m), fun p m => (pv.bv p (List.mem_reverse.mp m)).grow F₁ kp (.kp kp) (fun _ m => m), fun p m => pv.fr p (List.mem_reverse.mp m), List.pairwise_reverse.mpr (pv.ne.imp fun h a b e => h b a e.symm)⟩
    have nd : ((xs.zip (vs.zip ls)).map (·.1)).Nodup := by rw [zip_names l1 l2]; exact hn
    have := stores_ok (E := E) (fs := xs.reverse.map fun n => bindName env n) (F₁.grow kp) pv₂ (by rw [List.map_reverse]; exact (List.reverse_perm _).nodup_iff.mpr nd) ?_ (s := { s with heap := h₂, toks := tk₁ }) (Q := fun _ => Q .next) rfl fun h₃ tk₃ F₃ nx₃ =>
      q .next Ch₁ h₃ tk₃ ((nx₁.trans (.kp kp)).trans nx₃) ((F₃.congr fun y => (putAll_rev nd y).symm).congr fun y => by rw [putAll_zip l1 l2]) rfl
    · have ev : (xs.zip (vs.zip ls)).reverse.map (·.2.1) = vs.reverse := by rw [List.map_reverse, zip_vals l1 l2]
      rw [ev] at this
      exact this
    · have := all2_map (R := fun (p : Str × Value × LV) f => ∀ (s : Shared) (Q : Unit → Shared → Prop), wpAny G.M A (storeName env p.1 p.2.1) Q E s → wpAny G.M A (f p.2.1) Q E s) (·.1) (fun n => bindName env n) (fun a s Q hw => wpAny_bindName hw) (xs.zip (vs.zip ls)).reverse
      have ev : (xs.zip (vs.zip ls)).reverse.map (·.1) = xs.reverse := by rw [List.map_reverse, zip_names l1 l2]
      rw [ev] at this
      exact this
end
end Mine
end

section
open PySem PySem.W PyProof.Rows Builtin.Str Builtin
namespace Mine
section
variable {G : Gr} {A : Around} {s : Shared} {E : Value → Shared → Prop}
theorem fitsIdx {k : Int} (h1 : -4096 ≤ k) (h2 : k ≤ 4096) : Builtin.List.listFitsIndex k = true := by
  unfold Builtin.List.listFitsIndex
  simp only [Bool.and_eq_true, decide_eq_true_eq]
  omega
theorem seqIdx {ds : List Dat} {k : Int} {j : Nat} {n : Nat} (e : idxAt ds k = some j) (hn : n = ds.length) : seqIndex? k n = some j ∧ j < n ∧ -4096 ≤ k ∧ k ≤ 4096 := by
  subst hn
  obtain ⟨hl, hc⟩ := idx_spec e
  rcases hc with ⟨h0, h1, rfl⟩ | ⟨h0, h1, rfl⟩
  · refine ⟨?_, by omega, by omega, by omega⟩
    simp [seqIndex?, show ¬ k < 0 by omega, h0, h1]
  · refine ⟨?_, by omega, by omega, by omega⟩
    simp [seqIndex?, h0, h1]
    omega
theorem set_own {l : Addr} {vs : List Value} {n : Nat} {ds : List Dat} {k : Int} {t : Tok} {j : Nat} {v : Value} {Q : Unit → Shared → Prop} (hl : s.heap.get? l = some (listOf vs.toArray n)) (hlen : vs.length = ds.length) (hj : idxAt ds k = some j) (h0 : k < 0)
    (q : ∀ h' n', h'.get? l = some (listOf (vs.set j v).toArray n') → Heap.SameBut l s.heap h' → Q () { s with heap := h' }) : wpAny G.M A (setItem (.ref l) (.int k t) v) Q E s := by
  obtain ⟨hidx, hjn, hk1, hk2⟩ := seqIdx hj hlen
  have il : s.heap.IsList l vs.toArray := ⟨_, hl, rfl, n, rfl⟩
  have fin : Q () { s with heap := s.heap.update l (Obj.mapSeq (·.setIfInBounds j v)) } := by
    have hup := IsL.update (h := s.heap) (l := l) (items := vs.toArray) (n := n) hl (·.setIfInBounds j v)
    have e : (vs.toArray.setIfInBounds j v) = (vs.set j v).toArray := by simp
    exact q _ _ (by rw [← e]; exact hup) (Heap.SameBut.update ..)
  unfold setItem
  try with_reducible refine wpAny_holding ?_
  first | refine wpAny_bind (wpAny_pure ?_) | skip
  refine wpAny_bind (wpAny_sequenceKey il.typeIs (by decide) ?_)
  refine wpAny_bind (wpAny_callSpecial?_slot (name := Str.ofString "__setitem__") il.typeIs slot_list_setitem
    (wpAny_call_entry slot_list_setitem il.typeIs entry_list_setitem ?_ (args_list_setitem _ _ _)))
  show wpAny _ _ (Builtin.List.listSubscript? (.int k t) >>= _) _ _ s
  refine wpAny_bind (wpAny_listSubscript_int (fitsIdx hk1 hk2) ?_)
  have hx' : vs.toArray[j]? = some vs[j] := by simp [hjn]
  obtain ⟨i, rfl⟩ : ∃ i : Nat, k = Int.negSucc i := by
    cases k with
    | ofNat n => exact absurd (Int.natCast_nonneg n) (Int.not_le.mpr h0)
    | negSucc n => exact ⟨n, rfl⟩
  show wpAny _ _ ((Builtin.List.listItems (.ref l) >>= fun xs => pure ((seqIndex? (Int.negSucc i) xs.size).bind fun i => xs[i]?.map (i, ·))) >>= _) _ _ s
  refine wpAny_bind (wpAny_bind ?_)
  show wpAny _ _ (seqItems? (.ref l) >>= _) _ _ s
  refine wpAny_bind (wpAny_seqItems hl rfl (wpAny_pure (wpAny_pure ?_)))
  rw [List.size_toArray, hidx, Option.bind_some, hx']
  show wpAny _ _ (setSeqItemAt l j v >>= _) _ _ s
  refine wpAny_bind (wpAny_setSeqItemAt hl rfl ?_)
  first
    | exact wpAny_bind (wpAny_pure (wpAny_pure ⟨.none, rfl, wpAny_pure fin⟩))
    | exact wpAny_pure ⟨.none, rfl, wpAny_pure fin⟩
theorem del_own {l : Addr} {vs : List Value} {n : Nat} {ds : List Dat} {k : Int} {t : Tok} {j : Nat} {Q : Unit → Shared → Prop} (hl : s.heap.get? l = some (listOf vs.toArray n)) (hlen : vs.length = ds.length) (hj : idxAt ds k = some j)
    (q : ∀ h' n', h'.get? l = some (listOf (vs.eraseIdx j).toArray n') → Heap.SameBut l s.heap h' → Q () { s with heap := h' }) : wpAny G.M A (delItem (.ref l) (.int k t)) Q E s := by
  obtain ⟨hidx, hjn, hk1, hk2⟩ := seqIdx hj hlen
  obtain ⟨hl4, _⟩ := idx_spec hj
  exact delItem_at hl (fitsIdx hk1 hk2) (by rw [List.size_toArray]; exact hidx) (fun h' hsb hg => q h' _ hg hsb) (by rw [List.size_toArray, sizeLine_eq]; omega)
theorem pop_own {l : Addr} {vs : List Value} {n : Nat} {w : Value} {Q : Value → Shared → Prop} (hl : s.heap.get? l = some (listOf vs.toArray n)) (hlen : vs.length ≤ 4096) (hw : vs.getLast? = some w)
    (q : ∀ h' n', h'.get? l = some (listOf vs.dropLast.toArray n') → Heap.SameBut l s.heap h' → Q w { s with heap := h' }) : wpAny G.M A (call (.builtin "list.pop") [.ref l]) Q E s := by
  refine call_meets PySem.F.slot_list_pop ⟨_, hl, rfl⟩ PySem.F.entry_list_pop (PySem.F.args_list_pop_1 _) (PySem.MeetsSeq.list_pop_last l vs.toArray n w (by rw [List.size_toArray, List.getElem?_toArray, ← List.getLast?_eq_getElem?]; exact hw) (by rw [List.size_toArray, sizeLine_eq]; omega)) ⟨hl, ?_⟩
  have hup := IsL.update (h := s.heap) (l := l) (items := vs.toArray) (n := n) hl (fun xs => xs.eraseIdxIfInBounds (vs.toArray.size - 1))
  have e : vs.toArray.eraseIdxIfInBounds (vs.toArray.size - 1) = vs.dropLast.toArray := by
    have hne : vs ≠ [] := by rintro rfl; cases hw
    have hlt : vs.length - 1 < vs.length := by have := List.length_pos_iff.mpr hne; omega
    apply Array.toList_inj.mp
    rw [Array.eraseIdxIfInBounds, dif_pos (by rw [List.size_toArray]; exact hlt)]
    simp only [List.size_toArray, List.eraseIdx_toArray]
    rw [List.dropLast_eq_take, List.eraseIdx_eq_take_drop_succ]
    rw [show vs.length - 1 + 1 = vs.length by omega]
    simp
  exact q _ _ (by rw [← e]; exact hup) (Heap.SameBut.update ..)
theorem insert_own {l : Addr} {vs : List Value} {n : Nat} {k : Int} {t : Tok} {w : Value} {Q : Value → Shared → Prop} (hl : s.heap.get? l = some (listOf vs.toArray n)) (hlen : vs.length ≤ 4096) (h0 : 0 ≤ k) (hk : k ≤ vs.length)
    (q : ∀ h' n', h'.get? l = some (listOf (vs.take k.toNat ++ w :: vs.drop k.toNat).toArray n') → Heap.SameBut l s.heap h' → Q .none { s with heap := h' }) : wpAny G.M A (call (.builtin "list.insert") [.ref l, .int k t, w]) Q E s := by
  refine call_meets PySem.F.slot_list_insert ⟨_, hl, rfl⟩ PySem.F.entry_list_insert (PySem.F.args_list_insert_3 _ _ _) (PySem.AutoSeq1.list_insert_list_int_val_1 l vs.toArray n k t w (by rw [fitsIdx (by omega) (by omega)]; decide) (by rw [List.size_toArray, sizeLine_eq]; omega)) ⟨hl, ?_⟩
  have hup := IsL.update (h := s.heap) (l := l) (items := vs.toArray) (n := n) hl (fun xs => have k := if k < 0 then (k + (xs.size : Int)).toNat else min k.toNat xs.size; (xs.extract 0 k).push w ++ xs.extract k)
  have e : ((vs.toArray.extract 0 (if k < 0 then (k + (vs.toArray.size : Int)).toNat else min k.toNat vs.toArray.size)).push w ++ vs.toArray.extract (if k < 0 then (k + (vs.toArray.size : Int)).toNat else min k.toNat vs.toArray.size)) = (vs.take k.toNat ++ w :: vs.drop k.toNat).toArray := by
    rw [if_neg (by omega), List.size_toArray, Nat.min_eq_left (by omega)]
    exact kl_ins_eq _ _ _
  exact q _ _ (by rw [← e]; exact hup) (Heap.SameBut.update ..)
theorem iadd_own {l b : Addr} {vs ws : List Value} {n n2 : Nat} {Q : Value → Shared → Prop} (hl : s.heap.get? l = some (listOf vs.toArray n)) (hb : s.heap.get? b = some (listOf ws.toArray n2)) (hlen : vs.length + ws.length ≤ 4096)
    (q : ∀ h' n', h'.get? l = some (listOf (vs ++ ws).toArray n') → Heap.SameBut l s.heap h' → Q (.ref l) { s with heap := h' }) : wpAny G.M A (inplaceOp .Add (.ref l) (.ref b)) Q E s := by
  have ha : s.TypeIs (.ref l) "list" := ⟨_, hl, rfl⟩
  have hb' : s.TypeIs (.ref b) "list" := ⟨_, hb, rfl⟩
  have hc : wpAny G.M A (call (.builtin "list.__iadd__") [.ref l, .ref b]) Q E s := by
    refine call_meets PySem.F.slot_list_iadd ha PySem.F.entry_list_iadd (PySem.F.args_list_iadd_2 _ _) (PySem.AutoSeq1.list___iadd___list_list_0 l vs.toArray n b ws.toArray n2 (by simp [Builtin.List.listTooLong, sizeLine_eq]; omega) (by rw [List.size_toArray, sizeLine_eq]; omega) (by rw [List.size_toArray, List.size_toArray, sizeLine_eq]; omega)) ⟨hl, hb, ?_⟩
    have hup := IsL.update (h := s.heap) (l := l) (items := vs.toArray) (n := n) hl (fun x => x ++ ws.toArray)
    have e : vs.toArray ++ ws.toArray = (vs ++ ws).toArray := by simp
    exact q _ _ (by rw [← e]; exact hup) (Heap.SameBut.update ..)
  have hi : typeLookup (.type "list") (dunderI "add") = pure (some (.builtin "list.__iadd__")) := PySem.F.slot_list_iadd.lookup
  have hs : isSeqSlot (some (.builtin "list.__iadd__")) = true := by decide +kernel
  unfold inplaceOp
  refine wpAny_holding ?_
  have hfi : fillsInplaceSlot (.type "list") "add" (Operator.Add == .Add) = pure false := by
    unfold fillsInplaceSlot
    show (typeLookup (.type "list") (dunderI "add") >>= fun fi => pure (fi.isSome && !isSeqSlot fi)) = pure false
    rw [hi]
    show (pure (true && !isSeqSlot (some (.builtin "list.__iadd__"))) : Sem Bool) = pure false
    rw [hs]; rfl
  have hsi : seqSlot? (.type "list") (dunderI "add") = pure (some (.builtin "list.__iadd__")) := PySem.seqSlot_of hi hs
  refine wpAny_bind (wpAny_typeOf ha (wpAny_bind (wpAny_of_eq hfi ?_)))
  show wpAny _ A (if false = true then _ else _) Q E s
  rw [if_neg Bool.false_ne_true]
  refine wpAny_bind (wpAny_binaryOp1_none (nm := "add") ha hb' noFill_list_add ?_)
  refine wpAny_bind (wpAny_of_eq hsi ?_)
  exact wpAny_bind (wpAny_rule hc)
end
end Mine
end

section
open PySem PySem.W PyProof.Rows Builtin.Str Builtin
namespace Mine
section
variable {G : Gr} {O : Orc} {I : Itp} {d u : Nat} {A : Around} {env : Env} {b₀ : Heap} {T : Option (Addr × Addr × Str)} {Rs Z Ch : List Addr} {st st' : LSt} {h h' : Heap}
theorem FS.mut (F : FS G O d u A env b₀ T Rs Z Ch st h) {x : Str} {l l' : LV} {a : Addr} (hx : st.get x = some l) (hl : l.heap = true) (b : Bnd env h x (.ref a)) (k : ∀ b o, b ≠ a → h.get? b = some o → h'.get? b = some o) (hlive : ∃ o, h'.get? a = some o)
    (r : LB G b₀ h' (Ch ++ Z) Ch (.ref a) l') (hf : ∀ f, l' ≠ .fn f) (hg : l' ≠ .glo) : FS G O d u A env b₀ T Rs Z Ch (st.put x l') h' := by
  have ha := F.owns hx hl b
  have hR := F.sep x l a hx hl b
  have hne : ∀ y m, (st.del x).get y = some m → m.heap = true → ¬ Bnd env h y (.ref a) := fun y m q hm b' => (get_del q).1 (F.dis y x m l _ (get_del q).2 hm hx hl b' b)
  have hloc : a ≠ env.locals := fun z => hR (z ▸ F.loc.1)
  have hcel : ∀ y c, env.kindOf y = some .cell → env.cells.lookup y = some c → c ≠ a := fun y c e1 e2 z => hR (z ▸ (F.cel y c e1 e2).1)
  have F₁ := (F.del x).chg (r := a) (h' := h') (List.mem_append_left _ ha) k hlive hloc hcel (fun P c q e z => hR (z ▸ (F.tab P c q e).1)) hne
  have hn : (st.del x).get x = none := by rw [LSt.get_del]; simp
  have P := F₁.put hn (F.nm x l hx).1 (fun hc => F.cap x l hx (by rintro rfl; cases hl) hc) (Bnd.chg F k hloc hcel b) r hf hg fun _ => ⟨a, rfl, hR, fun y m q hm b' => by
    have b1 := NB.back (fun v b => Bnd.chg F k hloc hcel b) hm ((F.del x).nm y m q).2 b'
    exact hne y m q hm b1⟩
  refine P.congr fun y => ?_
  rw [LSt.get_put, LSt.get_put, LSt.get_del]
  split <;> rfl
theorem BV.val {v : Value} {e : Dat} (x : DV (FZ h (Ch ++ Z)) v e) : BV G O env b₀ Rs Z Ch st h v (.val e) := ⟨x, (fun _ z => nomatch z), (fun z => nomatch z), fun z => nomatch z⟩
theorem FS.own (F : FS G O d u A env b₀ T Rs Z Ch st h) {x : Str} {ds : List Dat} (hx : st.get x = some (.own ds)) : (x == ("__debug__" : Str)) = false ∧ ∃ a vs n, Bnd env h x (.ref a) ∧ a ∈ Ch ∧ h.get? a = some (listOf vs.toArray n) ∧ DVs (FZ h (Ch ++ Z)) vs ds := by
  obtain ⟨hd, v, b, a, vs, n, rfl, m, g, r⟩ := F.nm x _ hx
  exact ⟨hd, a, vs, n, b, m, g, r⟩
theorem FS.dct (F : FS G O d u A env b₀ T Rs Z Ch st h) {x : Str} {es : List (Int × Str)} (hx : st.get x = some (.dct es)) : (x == ("__debug__" : Str)) = false ∧ ∃ a, Bnd env h x (.ref a) ∧ a ∈ Ch ∧ DctIs h a es := by
  obtain ⟨hd, v, b, a, rfl, m, r⟩ := F.nm x _ hx
  exact ⟨hd, a, b, m, r⟩
theorem FS.mutL (F : FS G O d u A env b₀ T Rs Z Ch st h) {x : Str} {ds ds' : List Dat} {a : Addr} {vs' : List Value} {n' : Nat} (hx : st.get x = some (.own ds)) (b : Bnd env h x (.ref a)) (hsb : Heap.SameBut a h h') (g : h'.get? a = some (listOf vs'.toArray n')) (r : DVs (FZ h (Ch ++ Z)) vs' ds') :
    FS G O d u A env b₀ T Rs Z Ch (st.put x (.own ds')) h' ∧ Nx Ch h Ch h' := by
  have ha := F.owns hx rfl b
  have k : ∀ b o, b ≠ a → h.get? b = some o → h'.get? b = some o := fun b o e q => by rw [hsb.2 b e]; exact q
  refine ⟨F.mut hx rfl b k ⟨_, g⟩ ⟨a, vs', n', rfl, ha, g, r.mono fun c o y => ⟨k c o (fun z => y.2 ?_) y.1, y.2⟩⟩ (fun _ z => nomatch z) (fun z => nomatch z), .chg ha k⟩
  rw [z]; exact List.mem_append_left _ ha
theorem own_call (F : FS G O d u A env b₀ T Rs Z Ch st h) {x : Str} {m : Str} {id : String} {xp ap p : Pos} {es : List Expr} {R : Heap → List Value → Prop} {a : Addr} (hd : (x == ("__debug__" : Str)) = false) (b : Bnd env h x (.ref a)) (hl : ∃ vs n, h.get? a = some (listOf vs n))
    (slot : Slot "list" m id) (hty : typeOf (.builtin id) = pure (.type "method_descriptor")) (hm : methOk (.Name x xp) ap p es = true) (hp : es.all plainE = true)
    (hargs : ∀ h₁, Kp h h₁ → Ex G A (spliced (backTo p (starEach es env))) h₁ R) {s : Shared} {Q : Value → Shared → Prop} {E : Value → Shared → Prop} (hs : s.heap = h)
    (q : ∀ vs h' tk', Kp h h' → R h' vs → wpAny G.M A (call (.builtin id) (.ref a :: vs)) Q E { s with heap := h', toks := tk' }) : wpAny G.M A (eval (.Call (.Attribute (.Name x xp) m ap) es [] p) env) Q E s := by
  unfold methOk at hm
  rw [Bool.and_eq_true, Bool.and_eq_true] at hm
  obtain ⟨⟨hb, hln⟩, hn⟩ := hm
  refine wpAny_Call_method_lateS (base_plain hb) ?_ hln (name_bnd F.ec b hd s _ E hs fun v h₁ tk₁ k₁ r₁ => ?_)
  · rw [backTo_allPlain hp]
    exact decide_eq_true (Nat.lt_of_lt_of_le (of_decide_eq_true hn) (by decide))
  · subst r₁
    obtain ⟨vs, n, g⟩ := hl
    have g₁ := k₁ _ _ g
    refine ⟨"list", id, PySem.F.plainAttrs_list, slot, hty, ⟨_, g₁, rfl⟩, (fun c e => by cases e; exact ⟨_, g₁, rfl⟩), ?_⟩
    refine Calls.callWith_builtin (backTo_noStar hp) (evalArgs_items hp ?_)
    refine hargs h₁ k₁ _ _ E rfl fun vs h₂ tk₂ k₂ r₂ => ?_
    exact q vs h₂ tk₂ (k₁.trans k₂) r₂
theorem pop_ok (F : FS G O d u A env b₀ T Rs Z Ch st h) {x y : Str} {ds : List Dat} {e : Dat} {xp ap p py pos : Pos} (hx : st.get x = some (.own ds)) (hm : methOk (.Name x xp) ap p [] = true) (hy : O.loc y = true) (hlast : ds.getLast? = some e) (hlen : ds.length ≤ 4096) :
    SO G O d u A env b₀ T Rs Z (exec (.Assign [.Name y py] (.Call (.Attribute (.Name x xp) (Str.ofString "pop") ap) [] [] p) pos) env) Ch h .nx ((st.put x (.own ds.dropLast)).put y (.val e)) := by
  intro s Q E es q
  obtain ⟨hd, a, vs, n, b, ha, g, r⟩ := F.own hx
  refine wpAny_Assign_Name (own_call F (R := fun h' vs => vs = []) hd b ⟨_, _, g⟩ PySem.F.slot_list_pop PySem.F.type_list_pop hm rfl (fun h₁ k₁ s Q E e q => by subst e; exact wpAny_items_nil (q [] s.heap s.toks Kp.rfl rfl)) es fun vs₀ h₁ tk₁ k₁ r₁ => ?_) rfl
  subst r₁
  have F₁ := F.grow k₁
  have r' := r.mono (FZ.mono k₁)
  obtain ⟨w, hw, hwd⟩ : ∃ w, vs.getLast? = some w ∧ DV (FZ h₁ (Ch ++ Z)) w e := by
    rw [List.getLast?_eq_getElem?] at hlast
    obtain ⟨w, hw, hwd⟩ := r'.get hlast
    refine ⟨w, ?_, hwd⟩
    rw [List.getLast?_eq_getElem?, r.length]; exact hw
  refine pop_own (k₁ _ _ g) (by rw [r.length]; exact hlen) hw fun h₂ n' g₂ hsb => ?_
  obtain ⟨F₂, nx₂⟩ := F₁.mutL hx (b.keeps k₁) hsb g₂ r'.dropLast
  have hr : a ∈ Ch ++ Z := List.mem_append_left _ ha
  refine F₂.bind hy (l := .val e) (BV.val (DV.mono (fun c o y => ⟨by rw [hsb.2 c (fun z => y.2 (by rw [z]; exact hr))]; exact y.1, y.2⟩) hwd)) rfl fun h₃ tk₃ F₃ nx₃ _ _ _ => ?_
  exact q .next Ch h₃ tk₃ (((Nx.kp k₁).trans nx₂).trans nx₃) F₃ rfl
end
end Mine
end

section
open PySem PySem.W PyProof.Rows Builtin.Str Builtin
namespace Mine
section
variable {G : Gr} {O : Orc} {I : Itp} {d u : Nat} {A : Around} {env : Env} {b₀ : Heap} {T : Option (Addr × Addr × Str)} {Rs Z Ch : List Addr} {st st' : LSt} {h h' : Heap}
theorem ev_evV {e : Expr} {r : Dat} (q : I.ev st e = some (.st r)) : evV I st e = some r := by
  unfold evV
  rw [q]
  rfl
theorem not_int (F : FS G O d u A env b₀ T Rs Z Ch st h) : interactive env = false := by
  unfold interactive
  rw [F.hk]
  rfl
theorem appendS_ok (K : EvOk G O I) (F : FS G O d u A env b₀ T Rs Z Ch st h) (hu : 66 ≤ u) {x : Str} {ds : List Dat} {e : Expr} {r : Dat} {xp ap p pos : Pos} (hx : st.get x = some (.own ds)) (hm : methOk (.Name x xp) ap p [e] = true) (hp : plainE e = true) (he : evV I st e = some r) (hlen : ds.length ≤ 4096) :
    SO G O d u A env b₀ T Rs Z (exec (.Expr (.Call (.Attribute (.Name x xp) (Str.ofString "append") ap) [e] [] p) pos) env) Ch h .nx (st.put x (.own (ds ++ [r]))) := by
  intro s Q E es q
  obtain ⟨hd, a, vs, n, b, ha, g, rr⟩ := F.own hx
  refine wpAny_Expr (own_call F hd b ⟨_, _, g⟩ PySem.F.slot_list_append PySem.F.type_list_append hm (by simp [hp]) (one_item hp fun h₁ k₁ => evV_ok K (F.ec.keeps k₁) hu he) es fun vs₀ h₁ tk₁ k₁ ⟨w, e₁, r₁⟩ => ?_) (not_int F) rfl
  subst e₁
  have F₁ := F.grow k₁
  refine append_ok (k₁ _ _ g) (by rw [rr.length]; omega) fun h₂ n' g₂ hsb => ?_
  obtain ⟨F₂, nx₂⟩ := F₁.mutL hx (b.keeps k₁) hsb g₂ ((rr.mono (FZ.mono k₁)).append (.cons r₁ .nil))
  exact q .next Ch h₂ tk₁ ((Nx.kp k₁).trans nx₂) F₂ rfl
theorem two_items {e e' : Expr} {pos : Pos} (he : plainE e = true) (he' : plainE e' = true) {R R' : Heap → Value → Prop} (mono : ∀ h₁ h₂ v, Kp h₁ h₂ → R h₁ v → R h₂ v) (x : ∀ h₁, Kp h h₁ → Ex G A (eval e env) h₁ R) (y : ∀ h₁, Kp h h₁ → Ex G A (eval e' env) h₁ R') :
    ∀ h₁, Kp h h₁ → Ex G A (spliced (backTo pos (starEach [e, e'] env))) h₁ fun h' vs => ∃ v w, vs = [v, w] ∧ R h' v ∧ R' h' w := by
  intro h₁ k s Q E e' q
  refine wpAny_items_cons (x h₁ k s _ E e' fun v h₂ tk₂ k₂ r₂ => ?_) (starEach_cons he)
  refine wpAny_items_cons (y h₂ (k.trans k₂) _ _ E rfl fun w h₃ tk₃ k₃ r₃ => ?_) (starEach_cons he')
  exact wpAny_items_nil (q _ h₃ tk₃ (k₂.trans k₃) ⟨v, w, rfl, mono _ _ _ k₃ r₂, r₃⟩)
theorem DVs.ins {P : Addr → Obj → Prop} {vs : List Value} {ds : List Dat} {w : Value} {e : Dat} {k : Nat} (r : DVs P vs ds) (x : DV P w e) : DVs P (vs.take k ++ w :: vs.drop k) (ds.take k ++ e :: ds.drop k) :=
  (r.take k).append (.cons x (r.drop k))
theorem clip_in {n : Nat} {k : Int} (h0 : 0 ≤ k) (h1 : k ≤ n) : clipAt n k = k.toNat := by
  unfold clipAt
  rw [if_neg (by omega)]
  congr 1
  omega
theorem insertS_ok (K : EvOk G O I) (F : FS G O d u A env b₀ T Rs Z Ch st h) (hu : 66 ≤ u) {x : Str} {ds : List Dat} {i e : Expr} {k : Int} {r : Dat} {xp ap p pos : Pos} (hx : st.get x = some (.own ds)) (hm : methOk (.Name x xp) ap p [i, e] = true) (hp : plainE i = true) (hp' : plainE e = true)
    (hi : evI I st i = some k) (he : evV I st e = some r) (hlen : ds.length ≤ 4096) (h0 : 0 ≤ k) (h1 : k ≤ ds.length) :
    SO G O d u A env b₀ T Rs Z (exec (.Expr (.Call (.Attribute (.Name x xp) (Str.ofString "insert") ap) [i, e] [] p) pos) env) Ch h .nx (st.put x (.own (insAt ds k r))) := by
  intro s Q E es q
  obtain ⟨hd, a, vs, n, b, ha, g, rr⟩ := F.own hx
  refine wpAny_Expr (own_call F hd b ⟨_, _, g⟩ PySem.F.slot_list_insert PySem.F.type_list_insert hm (by simp [hp, hp']) (two_items hp hp' (fun _ _ _ _ x => x) (fun h₁ k₁ => evI_ok K (F.ec.keeps k₁) hu hi) fun h₁ k₁ => evV_ok K (F.ec.keeps k₁) hu he) es fun vs₀ h₁ tk₁ k₁ ⟨v, w, e₁, ⟨t, ev⟩, r₁⟩ => ?_) (not_int F) rfl
  subst e₁
  subst ev
  have F₁ := F.grow k₁
  refine insert_own (k₁ _ _ g) (by rw [rr.length]; omega) h0 (by rw [rr.length]; exact h1) fun h₂ n' g₂ hsb => ?_
  obtain ⟨F₂, nx₂⟩ := F₁.mutL hx (b.keeps k₁) hsb g₂ ((rr.mono (FZ.mono k₁)).ins r₁)
  refine q .next Ch h₂ tk₁ ((Nx.kp k₁).trans nx₂) ?_ rfl
  unfold insAt
  rw [clip_in h0 h1]
  exact F₂
theorem swaps_sub {e o i : Expr} {sp : Pos} {n : Nat} : swapsWith e (some (.Subscript o i sp)) n env = pure false := by
  cases e <;> rfl
theorem setS_ok (K : EvOk G O I) (F : FS G O d u A env b₀ T Rs Z Ch st h) (hu : 66 ≤ u) {x : Str} {ds : List Dat} {i e : Expr} {k : Int} {j : Nat} {r : Dat} {xp p pos : Pos} (hx : st.get x = some (.own ds)) (he : evV I st e = some r) (hi : evI I st i = some k) (hj : idxAt ds k = some j) (h0 : k < 0) :
    SO G O d u A env b₀ T Rs Z (exec (.Assign [.Subscript (.Name x xp) i p] e pos) env) Ch h .nx (st.put x (.own (ds.set j r))) := by
  intro s Q E es q
  obtain ⟨hd, a, vs, n, b, ha, g, rr⟩ := F.own hx
  refine wpAny_Assign_Subscript (evV_ok K F.ec hu he s _ E es fun w h₁ tk₁ k₁ r₁ => ?_) swaps_sub
  refine name_bnd (F.ec.keeps k₁) (b.keeps k₁) hd _ _ E rfl fun o h₂ tk₂ k₂ r₂ => ?_
  subst r₂
  refine evI_ok K ((F.ec.keeps k₁).keeps k₂) hu hi _ _ E rfl fun w' h₃ tk₃ k₃ ⟨t, r₃⟩ => ?_
  subst r₃
  have kk := (k₁.trans k₂).trans k₃
  have F₃ := F.grow kk
  refine set_own (kk _ _ g) rr.length hj h0 fun h₄ n' g₄ hsb => ?_
  obtain ⟨F₄, nx₄⟩ := F₃.mutL hx (b.keeps kk) hsb g₄ ((rr.mono (FZ.mono kk)).set j (DV.mono (FZ.mono (k₂.trans k₃)) r₁))
  exact q .next Ch h₄ tk₃ ((Nx.kp kk).trans nx₄) F₄ rfl
theorem DctIs.set {f : Int → Option Value} {a : Addr} {es : List (Int × Str)} {k : Int} {y : Str} {t : Tok} (hf : ∀ k, match es.lookup k with | some x => ∃ t, f k = some (.str x t) | none => f k = none) (hn : es.lookup k = none)
    (hm : h'.IntMap a (fun x => if x = k then some (.str y t) else f x)) (hd : h'.DictLe a (es.length + 1)) : DctIs h' a (es ++ [(k, y)]) := by
  refine ⟨_, hm, by simpa using hd, fun z => ?_⟩
  have hz := hf z
  by_cases hzk : z = k
  · subst hzk
    rw [List.lookup_append, hn]
    simp [List.lookup]
  · have : (z == k) = false := by simpa using hzk
    rw [List.lookup_append]
    simp only [if_neg hzk]
    cases hl : es.lookup z with
    | none => rw [hl] at hz; simpa [List.lookup, this] using hz
    | some x => rw [hl] at hz; simpa using hz
theorem setD_ok (K : EvOk G O I) (F : FS G O d u A env b₀ T Rs Z Ch st h) (hu : 66 ≤ u) {x : Str} {ds : List (Int × Str)} {i e : Expr} {k : Int} {y : Str} {xp p pos : Pos} (hx : st.get x = some (.dct ds)) (he : evV I st e = some (.str y)) (hi : evI I st i = some k) (hn : ds.lookup k = none) (hlen : ds.length ≤ 64) :
    SO G O d u A env b₀ T Rs Z (exec (.Assign [.Subscript (.Name x xp) i p] e pos) env) Ch h .nx (st.put x (.dct (ds ++ [(k, y)]))) := by
  intro s Q E es q
  obtain ⟨hd, a, b, ha, rr⟩ := F.dct hx
  refine wpAny_Assign_Subscript (evV_ok K F.ec hu he s _ E es fun w h₁ tk₁ k₁ r₁ => ?_) swaps_sub
  refine name_bnd (F.ec.keeps k₁) (b.keeps k₁) hd _ _ E rfl fun o h₂ tk₂ k₂ r₂ => ?_
  subst r₂
  refine evI_ok K ((F.ec.keeps k₁).keeps k₂) hu hi _ _ E rfl fun w' h₃ tk₃ k₃ ⟨t, r₃⟩ => ?_
  subst r₃
  refine DV.strE (M := fun w => wpAny G.M A (setItem (.ref a) (.int k t) w) _ E _) r₁ fun t₁ => ?_
  have kk := (k₁.trans k₂).trans k₃
  have F₃ := F.grow kk
  obtain ⟨f, hm, hle, hf⟩ := rr.keeps kk
  refine wpAny_setItem_intMap_le hm hle (by rw [sizeLine_eq]; omega) fun h₄ hm₄ hle₄ hsb => ?_
  have k₄ : ∀ b o, b ≠ a → h₃.get? b = some o → h₄.get? b = some o := fun b o e q => by rw [hsb.2 b e]; exact q
  have live : ∃ o, h₄.get? a = some o := by obtain ⟨o, _, _, g, _⟩ := hm₄; exact ⟨o, g⟩
  have F₄ := F₃.mut hx rfl (b.keeps kk) k₄ live (l' := .dct (ds ++ [(k, y)])) ⟨a, rfl, ha, DctIs.set hf hn hm₄ hle₄⟩ (fun _ z => nomatch z) (fun z => nomatch z)
  exact q .next Ch h₄ _ ((Nx.kp kk).trans (.chg ha k₄)) F₄ rfl
theorem delS_ok (K : EvOk G O I) (F : FS G O d u A env b₀ T Rs Z Ch st h) (hu : 66 ≤ u) {x : Str} {ds : List Dat} {i : Expr} {k : Int} {j : Nat} {xp p pos : Pos} (hx : st.get x = some (.own ds)) (hi : evI I st i = some k) (hj : idxAt ds k = some j) :
    SO G O d u A env b₀ T Rs Z (exec (.Delete [.Subscript (.Name x xp) i p] pos) env) Ch h .nx (st.put x (.own (ds.eraseIdx j))) := by
  intro s Q E es q
  obtain ⟨hd, a, vs, n, b, ha, g, rr⟩ := F.own hx
  refine wpAny_Delete (wpAny_deleteEach_cons (wpAny_delete_Subscript ?_))
  refine name_bnd F.ec b hd s _ E es fun o h₂ tk₂ k₂ r₂ => ?_
  subst r₂
  refine evI_ok K (F.ec.keeps k₂) hu hi _ _ E rfl fun w' h₃ tk₃ k₃ ⟨t, r₃⟩ => ?_
  subst r₃
  have kk := k₂.trans k₃
  have F₃ := F.grow kk
  refine del_own (kk _ _ g) rr.length hj fun h₄ n' g₄ hsb => ?_
  obtain ⟨F₄, nx₄⟩ := F₃.mutL hx (b.keeps kk) hsb g₄ ((rr.mono (FZ.mono kk)).eraseIdx j)
  exact wpAny_deleteEach_nil (q .next Ch h₄ tk₃ ((Nx.kp kk).trans nx₄) F₄ rfl)
theorem load_bnd (F : FS G O d u A env b₀ T Rs Z Ch st h) {x : Str} {v : Value} (b : Bnd env h x v) : Ex G A (loadName env x) h fun _ v' => v' = v := by
  intro s Q E e q
  subst e
  have q' := q v s.heap s.toks Kp.rfl rfl
  rcases b with ⟨e, m, n, r⟩ | ⟨e, c, l, r⟩ | ⟨⟨e, _⟩, _⟩
  · exact wpAny_loadName_local F.hk e n r q'
  · exact wpAny_loadName_cell F.hk e l r q'
  · exact absurd e (F.nofree x)
noncomputable def IO' (G : Gr) (A : Around) (h : Heap) (Ch : List Addr) (op : Operator) (va vb : Value) (r : Dat) : Prop := Ex G A (inplaceOp op va vb) h fun h' v => DV (FZ h' Ch) v r
theorem augop_ok {op : Operator} {va vb : Value} {a b r : Dat} (ha : DL h Ch va a) (hb : DL h Ch vb b) (e : augop op a b = some r) : IO' G A h Ch op va vb r := by
  cases op with
  | Add =>
    refine addN_E (M := fun a b r => DL h Ch va a → DL h Ch vb b → IO' G A h Ch .Add va vb r) e (fun x y ha hb => int2 (N := fun va vb => IO' G A h Ch .Add va vb (.int (x + y))) ha hb fun t u => Ex.int fun s Q E _ q => iadd_int q) (fun x y hl ha hb => ?_) ha hb
    refine str2 (N := fun va vb => IO' G A h Ch .Add va vb (.str (x ++ y))) ha hb fun t u s Q E e q => ?_
    subst e
    exact SB.iadd (fun t' k => q _ s.heap _ Kp.rfl (.str _ _)) (by rw [sizeLine_eq]; omega)
  | Sub => exact ii_E (M := fun a b r => DL h Ch va a → DL h Ch vb b → IO' G A h Ch .Sub va vb r) e (fun x y e ha hb => sE e (int2 (N := fun va vb => IO' G A h Ch .Sub va vb (.int (x - y))) ha hb fun t u => Ex.int fun s Q E _ q => isub_int q)) ha hb
  | _ => exact noE e
end
end Mine
end

section
open PySem PySem.W PyProof.Rows Builtin.Str Builtin
namespace Mine
section
variable {G : Gr} {O : Orc} {I : Itp} {d u : Nat} {A : Around} {env : Env} {b₀ : Heap} {T : Option (Addr × Addr × Str)} {Rs Z Ch : List Addr} {st st' : LSt} {h h' : Heap}
theorem augV_ok (K : EvOk G O I) (F : FS G O d u A env b₀ T Rs Z Ch st h) (hu : 66 ≤ u) {x : Str} {op : Operator} {e : Expr} {a b r : Dat} {px pos : Pos} (hl : O.loc x = true) (hx : st.get x = some (.val a)) (he : evD I st e = some b) (hr : augop op a b = some r) :
    SO G O d u A env b₀ T Rs Z (exec (.AugAssign (.Name x px) op e pos) env) Ch h .nx (st.put x (.val r)) := by
  intro s Q E es q
  obtain ⟨hd, v, bn, dv⟩ := F.nm x _ hx
  refine wpAny_AugAssign_Name (load_bnd F bn s _ E es fun v' h₁ tk₁ k₁ r₁ => ?_)
  subst r₁
  have dv : DV (FZ h (Ch ++ Z)) v' a := dv
  refine evD_ok K (F.ec.keeps k₁) hu he _ _ E rfl fun w h₂ tk₂ k₂ r₂ => ?_
  refine augop_ok (Ch := Ch ++ Z) (DL.keeps (k₁.trans k₂) (DL.of dv)) r₂ hr _ _ E rfl fun w' h₃ tk₃ k₃ r₃ => ?_
  have kk := (k₁.trans k₂).trans k₃
  refine (F.grow kk).bind hl (BV.val r₃) rfl fun h₄ tk₄ F₄ nx₄ _ _ _ => ?_
  exact q .next Ch h₄ tk₄ ((Nx.kp kk).trans nx₄) F₄ rfl
theorem augL_ok (K : EvOk G O I) (F : FS G O d u A env b₀ T Rs Z Ch st h) (hu : 66 ≤ u) {x : Str} {e : Expr} {ds es : List Dat} {px pos : Pos} (hl : O.loc x = true) (hx : st.get x = some (.own ds)) (he : evD I st e = some (.list es)) (hlen : ds.length + es.length ≤ 4096) :
    SO G O d u A env b₀ T Rs Z (exec (.AugAssign (.Name x px) .Add e pos) env) Ch h .nx (st.put x (.own (ds ++ es))) := by
  intro s Q E es' q
  obtain ⟨hd, a, vs, n, b, ha, g, rr⟩ := F.own hx
  refine wpAny_AugAssign_Name (load_bnd F b s _ E es' fun v' h₁ tk₁ k₁ r₁ => ?_)
  subst r₁
  refine evD_ok K (F.ec.keeps k₁) hu he _ _ E rfl fun w h₂ tk₂ k₂ r₂ => ?_
  have kk := k₁.trans k₂
  obtain ⟨c, ws, n2, rfl, g2, rw2⟩ := r₂
  have F₂ := F.grow kk
  refine iadd_own (kk _ _ g) g2 (by rw [rr.length, rw2.length]; exact hlen) fun h₃ n' g₃ hsb => ?_
  obtain ⟨F₃, nx₃⟩ := F₂.mutL hx (b.keeps kk) hsb g₃ ((rr.mono (FZ.mono kk)).append rw2)
  have hx₃ : (st.put x (.own (ds ++ es))).get x = some (.own (ds ++ es)) := by rw [LSt.get_put]; simp
  obtain ⟨_, a', vs', n'', b', ha', g', r'⟩ := F₃.own hx₃
  have hR := F.sep x _ a hx rfl b
  have k₃ : ∀ b o, b ≠ a → h₂.get? b = some o → h₃.get? b = some o := fun b o e q => by rw [hsb.2 b e]; exact q
  have b₃ : Bnd env h₃ x (.ref a) := Bnd.chg F₂ k₃ (fun z => hR (z ▸ F.loc.1)) (fun y c e1 e2 z => hR (z ▸ (F.cel y c e1 e2).1)) (b.keeps kk)
  have e := b'.uniq b₃
  cases e
  refine F₃.bind hl (l := .own (ds ++ es)) ⟨⟨a, vs', n'', rfl, ha', g', r'⟩, (fun _ z => nomatch z), (fun z => nomatch z), fun _ => ⟨a, rfl, hR, fun y m q hm b'' => ?_⟩⟩ rfl fun h₄ tk₄ F₄ nx₄ _ _ _ => ?_
  · exact (get_del q).1 (F₃.dis y x m _ _ (get_del q).2 hm hx₃ rfl b'' b₃)
  · refine q .next Ch h₄ tk₄ (((Nx.kp kk).trans nx₃).trans nx₄) (F₄.congr fun y => ?_) rfl
    rw [LSt.get_put, LSt.get_put, LSt.get_put]
    split <;> rfl
theorem dict_eval {st : LSt} {Ch : List Addr} (K : EvOk G O I) (C : EC G O d u A env Ch st h) (hu : 66 ≤ u) {k₁ k₂ v₁ v₂ : Expr} {a b : Int} {x z : Str} {dp : Pos} (e1 : evI I st k₁ = some a) (e2 : evV I st v₁ = some (.str x)) (e3 : evI I st k₂ = some b) (e4 : evV I st v₂ = some (.str z)) {s : Shared} {R : Value → Shared → Prop} {E : Value → Shared → Prop} (hs : s.heap = h)
    (q : ∀ D h' tk t2 t4, h.get? D = none → Kp h h' → h'.IntMap D (fun w => if w = b then some (.str z t4) else if w = a then some (.str x t2) else none) → h'.DictLe D 2 → R (.ref D) { s with heap := h', toks := tk }) : wpAny G.M A (eval (.Dict [some k₁, some k₂] [v₁, v₂] dp) env) R E s := by
  rw [arm_eval_Dict]
  have hshape : (evalEachOpt [some k₁, some k₂] env).zip ((evalEach [v₁, v₂] env).map fun v => do let x ← v; standAt dp; pure x) = ([(eval k₁ env, do let x ← eval v₁ env; standAt dp; pure x), (eval k₂ env, do let x ← eval v₂ env; standAt dp; pure x)] : List (Sem Value × Sem Value)).map fun p => (some p.1, p.2) := rfl
  rw [hshape, dictDisplay_pairs _ (List.cons_ne_nil _ _) (by show 2 < 17; decide)]
  refine wpAny_bind (wpAny_standAt (wpAny_bind ?_))
  unfold subDict
  refine wpAny_bind (wpAny_alloc (wpAny_bind (wpAny_holding ?_)))
  rw [if_pos (Nat.le_of_ble_eq_true rfl)]
  subst hs
  generalize hD : s.heap.objs.size = D
  have hDn : s.heap.get? D = none := hD ▸ get?_size _
  have k0 : Kp s.heap (s.heap.push { cls := .type "dict", data := .dict #[] }) := Kp.push _ _
  have live0 : (s.heap.push { cls := .type "dict", data := .dict #[] }).get? D = some ({ cls := .type "dict", data := .dict #[] } : Obj) := hD ▸ Heap.get?_push_size _ rfl
  have m0 : (s.heap.push { cls := .type "dict", data := .dict #[] }).IntMap D fun _ => none := hD ▸ Heap.IntMap.new _
  have l0 : (s.heap.push { cls := .type "dict", data := .dict #[] }).DictLe D 0 := hD ▸ Heap.DictLe.new _
  have C₀ := C.keeps k0
  dsimp only
  generalize s.heap.push { cls := .type "dict", data := .dict #[] } = H0 at k0 live0 m0 l0 C₀ ⊢
  refine wpAny_bind (evalPairs_cons (evI_ok K C₀ hu e1 _ _ E rfl fun w h₁ tk₁ k₁' r₁ => wpAny_bind ?_))
  refine evV_ok K (C₀.keeps k₁') hu e2 _ _ E rfl fun w2 h₂ tk₂ k₂' r₂ => wpAny_bind (wpAny_standAt (wpAny_pure ?_))
  refine evalPairs_cons (evI_ok K ((C₀.keeps k₁').keeps k₂') hu e3 _ _ E rfl fun w3 h₃ tk₃ k₃' r₃ => wpAny_bind ?_)
  refine evV_ok K (((C₀.keeps k₁').keeps k₂').keeps k₃') hu e4 _ _ E rfl fun w4 h₄ tk₄ k₄' r₄ => wpAny_bind (wpAny_standAt (wpAny_pure (evalPairs_nil ?_)))
  have k4 := ((k₁'.trans k₂').trans k₃').trans k₄'
  clear k₁' k₂' k₃' k₄' C C₀ K e1 e2 e3 e4 hshape
  obtain ⟨t1, rfl⟩ := r₁
  obtain ⟨t3, rfl⟩ := r₃
  obtain ⟨t2, rfl⟩ : ∃ t, w2 = .str x t := DV.strE (M := fun w => ∃ t, w = .str x t) r₂ fun t => ⟨t, rfl⟩
  obtain ⟨t4, rfl⟩ : ∃ t, w4 = .str z t := DV.strE (M := fun w => ∃ t, w = .str z t) r₄ fun t => ⟨t, rfl⟩
  have m4 : h₄.IntMap D fun _ => none := by
    obtain ⟨o, es', ep, ho, r⟩ := m0
    exact ⟨o, es', ep, k4 _ _ ho, r⟩
  have l4 : h₄.DictLe D 0 := l0.of_same live0 (k4 _ _ live0)
  refine wpAny_holding (wpAny_bind ?_)
  rw [List.forIn_cons]
  refine wpAny_bind (wpAny_bind (wpAny_dictSet_int_le m4 l4 (by rw [sizeLine_eq]; exact Nat.zero_le _) fun h₅ m5 l5 s5 => wpAny_pure ?_))
  dsimp only
  rw [List.forIn_cons]
  refine wpAny_bind (wpAny_bind (wpAny_dictSet_int_le m5 l5 (by rw [sizeLine_eq]; decide) fun h₆ m6 l6 s6 => wpAny_pure ?_))
  dsimp only
  rw [List.forIn_nil]
  exact wpAny_pure (wpAny_pure (wpAny_pure (wpAny_pure (q D h₆ _ t2 t4 hDn (fun c o e => by
    have hc : c ≠ D := ne_of_none hDn e
    rw [s6.2 c hc, s5.2 c hc]
    exact k4 _ _ (k0 _ _ e)) m6 l6))))
theorem two_look {a b : Int} (hab : a ≠ b) {x z : Str} {t2 t4 : Tok} (w : Int) : match ([(a, x), (b, z)] : List (Int × Str)).lookup w with
    | some y => ∃ t, (if w = b then some (Value.str z t4) else if w = a then some (Value.str x t2) else none) = some (.str y t)
    | none => (if w = b then some (Value.str z t4) else if w = a then some (Value.str x t2) else none) = none := by
  rw [List.lookup_cons, List.lookup_cons]
  by_cases hwa : w = a
  · subst hwa
    rw [beq_self_eq_true, if_neg hab, if_pos rfl]
    exact ⟨t2, rfl⟩
  · rw [beq_false_of_ne hwa, if_neg hwa]
    by_cases hwb : w = b
    · subst hwb
      rw [beq_self_eq_true, if_pos rfl]
      exact ⟨t4, rfl⟩
    · rw [beq_false_of_ne hwb, if_neg hwb]
      rfl
theorem dictS_ok (K : EvOk G O I) (F : FS G O d u A env b₀ T Rs Z Ch st h) (hu : 66 ≤ u) {y : Str} {k₁ k₂ v₁ v₂ : Expr} {a b : Int} {x z : Str} {py dp pos : Pos} (hy : O.loc y = true) (e1 : evI I st k₁ = some a) (e2 : evV I st v₁ = some (.str x)) (e3 : evI I st k₂ = some b) (e4 : evV I st v₂ = some (.str z)) (hab : a ≠ b) :
    SO G O d u A env b₀ T Rs Z (exec (.Assign [.Name y py] (.Dict [some k₁, some k₂] [v₁, v₂] dp) pos) env) Ch h .nx (st.put y (.dct [(a, x), (b, z)])) := by
  intro s Q E es q
  refine wpAny_Assign_Name (dict_eval K F.ec hu e1 e2 e3 e4 es fun D h' tk t2 t4 hn k m l => ?_) rfl
  have live : ∃ o, h'.get? D = some o := by obtain ⟨o, _, _, g, _⟩ := m; exact ⟨o, g⟩
  have nS : ∀ c, c ∈ Ch → c ≠ D := fun c m => by
    obtain ⟨o, e⟩ := F.live c (List.mem_append_left _ m)
    exact ne_of_none hn e
  refine (F.add hn k live).bind hy (l := .dct [(a, x), (b, z)]) (BV.del (l := .dct [(a, x), (b, z)]) ⟨⟨D, rfl, .head _, ⟨_, m, l, two_look hab⟩⟩, (fun _ z => nomatch z), (fun z => nomatch z), fun _ => ⟨D, rfl, fun m => nS D (F.rs D m) rfl, fun y' m' q' hm b' => ?_⟩⟩ y) rfl fun h₇ tk₇ F₇ nx₇ _ _ _ =>
    q .next (D :: Ch) h₇ tk₇ (Nx.trans (.add hn k) nx₇) F₇ rfl
  exact nS D (F.owns q' hm (NB.back (fun v b => b.keeps k) hm (F.nm y' m' q').2 b')) rfl
end
end Mine
end

section
open PySem PySem.W PyProof.Rows Builtin.Str Builtin
namespace Mine
noncomputable def ExsOk (G : Gr) (O : Orc) (I : Itp) : Prop := ∀ {d u : Nat} {A : Around} {env : Env} {b₀ : Heap} {T : Option (Addr × Addr × Str)} {Rs Z Ch : List Addr} {st : LSt} {h : Heap}, FS G O d u A env b₀ T Rs Z Ch st h → 66 ≤ u →
  ∀ ss fl st', I.exs st ss = some (fl, st') → SO G O d u A env b₀ T Rs Z (execs ss env) Ch h fl st'
noncomputable def WhOk (G : Gr) (O : Orc) (I : Itp) : Prop := ∀ {d u : Nat} {A : Around} {env : Env} {b₀ : Heap} {T : Option (Addr × Addr × Str)} {Rs Z Ch : List Addr} {st : LSt} {h : Heap}, FS G O d u A env b₀ T Rs Z Ch st h → 66 ≤ u →
  ∀ t b fl st', I.wh st t b = some (fl, st') → ∀ (s : Shared) (R : Result → Shared → Prop), s.heap = h →
    (∀ f Ch' h' tk', Nx Ch h Ch' h' → FS G O d u A env b₀ T Rs Z Ch' st' h' → FlOk b₀ h' fl f → R (.ok f) { s with heap := h', toks := tk' }) → codeAny G.M A (.whileLoop t b [] env) R s
section
variable {G : Gr} {O : Orc} {I : Itp} {d u : Nat} {A : Around} {env : Env} {b₀ : Heap} {T : Option (Addr × Addr × Str)} {Rs Z Ch : List Addr} {st st' : LSt} {h h' : Heap}
theorem SO.kp {t : Sem Flow} {fl : Flw} (k : Kp h h') (x : SO G O d u A env b₀ T Rs Z t Ch h' fl st') {s : Shared} {Q : Flow → Shared → Prop} {E : Value → Shared → Prop} (hs : s.heap = h')
    (q : ∀ f Ch' h'' tk', Nx Ch h Ch' h'' → FS G O d u A env b₀ T Rs Z Ch' st' h'' → FlOk b₀ h'' fl f → Q f { s with heap := h'', toks := tk' }) : wpAny G.M A t Q E s :=
  x s Q E hs fun f Ch' h'' tk' nx F fo => q f Ch' h'' tk' ((Nx.kp k).trans nx) F fo
theorem if_ok (K : EvOk G O I) (K2 : ExsOk G O I) (F : FS G O d u A env b₀ T Rs Z Ch st h) (hu : 66 ≤ u) {t : Expr} {b o : List Stmt} {pos : Pos} {c : Bool} {fl : Flw} (ht : tst I st t = some c) (q : (if c then I.exs st b else I.exs st o) = some (fl, st')) :
    SO G O d u A env b₀ T Rs Z (exec (.If t b o pos) env) Ch h fl st' := by
  intro s Q E es q'
  refine wpAny_If (tst_ok K F.ec hu ht s _ E es fun c' h₁ tk₁ k₁ r₁ => ?_)
  subst r₁
  cases c' with
  | true => exact (K2 (F.grow k₁) hu b fl st' q).kp k₁ rfl q'
  | false => exact (K2 (F.grow k₁) hu o fl st' q).kp k₁ rfl q'
theorem ret_ok (K : EvOk G O I) (F : FS G O d u A env b₀ T Rs Z Ch st h) (hu : 66 ≤ u) {e : Expr} {r : RV} {pos : Pos} (q : I.ev st e = some r) :
    SO G O d u A env b₀ T Rs Z (exec (.Return (some e) pos) env) Ch h (.ret r) st := by
  intro s Q E es q'
  refine wpAny_Return_some (K F.ec hu e r q s _ E es fun v h₁ tk₁ k₁ r₁ => ?_)
  refine q' (.ret v) Ch h₁ tk₁ (.kp k₁) (F.grow k₁) ⟨v, rfl, ?_⟩
  cases r with
  | st e => exact DV.mono FZ.al r₁
  | cur x ds =>
    obtain ⟨a, vs, n, e, m, g, rr⟩ := r₁
    exact ⟨a, vs, n, e, F.new a m, g, rr.mono FZ.al⟩
  | fn f => trivial
theorem assert_ok (K : EvOk G O I) (F : FS G O d u A env b₀ T Rs Z Ch st h) (hu : 66 ≤ u) {t : Expr} {m : Option Expr} {pos : Pos} (q : tst I st t = some true) :
    SO G O d u A env b₀ T Rs Z (exec (.Assert t m pos) env) Ch h .nx st := by
  intro s Q E es q'
  refine wpAny_Assert_holds (tst_ok K F.ec hu q s _ E es fun c' h₁ tk₁ k₁ r₁ => ?_)
  exact ⟨r₁, q' .next Ch h₁ tk₁ (.kp k₁) (F.grow k₁) rfl⟩
theorem while_ok (W : WhOk G O I) (F : FS G O d u A env b₀ T Rs Z Ch st h) (hu : 66 ≤ u) {t : Expr} {b : List Stmt} {pos : Pos} {fl : Flw} (q : I.wh st t b = some (fl, st')) :
    SO G O d u A env b₀ T Rs Z (exec (.While t b [] pos) env) Ch h fl st' := by
  intro s Q E es q'
  exact wpAny_While (W F hu t b fl st' q s _ es fun f Ch' h' tk' nx F' fo => q' f Ch' h' tk' nx F' fo)
theorem FS.freeze (F : FS G O d u A env b₀ T Rs Z Ch st h) {x : Str} {ds : List Dat} (hx : st.get x = some (.own ds)) : ∃ Ch', FS G O d u A env b₀ T Rs Z Ch' (st.put x (.val (.list ds))) h ∧ Nx Ch h Ch' h := by
  obtain ⟨hd, a, vs, n, b, ha, g, rr⟩ := F.own hx
  have hR := F.sep x _ a hx rfl b
  have hne : ∀ y m, (st.del x).get y = some m → m.heap = true → ¬ Bnd env h y (.ref a) := fun y m q hm b' => (get_del q).1 (F.dis y x m _ _ (get_del q).2 hm hx rfl b' b)
  have F₁ := (F.del x).shrink hR hne
  have hn : (st.del x).get x = none := by rw [LSt.get_del]; simp
  have sub : ∀ c, c ∈ Ch.filter (· != a) ++ Z → c ∈ Ch ++ Z := fun c m => by
    rcases List.mem_append.mp m with m | m
    · exact List.mem_append_left _ (List.mem_filter.mp m).1
    · exact List.mem_append_right _ m
  have haX : a ∉ Ch.filter (· != a) ++ Z := fun m => by
    rcases List.mem_append.mp m with m | m
    · have := (List.mem_filter.mp m).2
      simp at this
    · exact F.zc a m ha
  have P := F₁.put (l := .val (.list ds)) hn hd (fun hc => F.cap x _ hx (fun z => nomatch z) hc) b (DV.list ⟨g, haX⟩ (rr.mono fun c o y => ⟨y.1, fun m => y.2 (sub c m)⟩)) (fun _ z => nomatch z) (fun z => nomatch z) fun z => nomatch z
  refine ⟨_, P.congr fun y => ?_, ⟨fun b o _ e => e, fun c m => .inl (List.mem_filter.mp m).1⟩⟩
  rw [LSt.get_put, LSt.get_put, LSt.get_del]
  split <;> rfl
theorem frz_or (e : Expr) : frz st e = st ∨ ∃ x ds, st.get x = some (.own ds) ∧ frz st e = st.put x (.val (.list ds)) := by
  unfold frz
  cases nmOf e with
  | none => exact .inl rfl
  | some x =>
    show ((st.get x).bind ownO).elim st (fun ds => st.put x (.val (.list ds))) = st ∨ ∃ y ds, st.get y = some (.own ds) ∧ ((st.get x).bind ownO).elim st (fun ds => st.put x (.val (.list ds))) = st.put y (.val (.list ds))
    cases hx : (st.get x).bind ownO with
    | none => exact .inl rfl
    | some ds => exact .inr ⟨x, ds, own_eq hx, rfl⟩
theorem frz_ok (F : FS G O d u A env b₀ T Rs Z Ch st h) (e : Expr) : ∃ Ch', FS G O d u A env b₀ T Rs Z Ch' (frz st e) h ∧ Nx Ch h Ch' h := by
  rcases frz_or (st := st) e with e | ⟨x, ds, hx, e⟩ <;> rw [e]
  · exact ⟨Ch, F, .rfl⟩
  · exact F.freeze hx
theorem DV.out {X : List Addr} {c : Addr} {r : Dat} (x : DV (FZ h X) (.ref c) r) : c ∉ X := by
  cases x with
  | list g _ => exact g.2
  | tuple g _ => exact g.2
theorem DV.up {X X' : List Addr} {v : Value} {e : Dat} (k : ∀ b o, b ∉ X → h.get? b = some o → h'.get? b = some o) (hx : ∀ a ∈ X', a ∈ X ∨ h.get? a = Option.none) (dv : DV (FZ h X) v e) : DV (FZ h' X') v e :=
  DV.mono (fun c o y => ⟨k c o y.2 y.1, fun m => (hx c m).elim y.2 fun n => by rw [y.1] at n; cases n⟩) dv
theorem for_rule {x : Str} {px : Pos} {body : List Stmt} {R : Result → Shared → Prop} {s : Shared} {hx : Heap} {X : List Addr} {xv : Value} {Ia : Addr} {ds : List Dat} {h1 : Heap} {fp : List Addr} {P : Nat → Value → Prop} {St : Nat → Heap → Prop} (hA : A.handled = none) (W : IterOk G hx X xv Ia ds h1 fp P St) {Inv : List Dat → Heap → Prop}
    (next : ∀ r h h', Inv r h → (∀ b o, b ≠ Ia → h.get? b = some o → h'.get? b = some o) → (∃ o, h'.get? Ia = some o) → Inv r h')
    (turn : ∀ v e r h tk E, DV (FZ hx X) v e → Inv (e :: r) h → wpAny G.M A (assign (.Name x px) env v) (fun _ s₂ => wpAny G.M A (execs body env) (fun f s₃ => (f = .next ∧ ∃ h' tk', s₃ = { s with heap := h', toks := tk' } ∧ Inv r h' ∧ ∀ b ∈ fp, ∀ o, h.get? b = some o → h'.get? b = some o) ∨ (∃ v, f = .ret v ∧ R (.ok (.ret v)) s₃)) E s₂) E { s with heap := h, toks := tk })
    (fin : ∀ h' tk' I', Inv [] I' → (∀ b o, b ≠ Ia → I'.get? b = some o → h'.get? b = some o) → R (.ok .next) { s with heap := h', toks := tk' }) (i0 : Inv ds s.heap) (st : St 0 s.heap) : codeAny G.M A (.forLoop (.Name x px) (.ref Ia) body [] env) R s := by
  have W' := W.walks A hA
  refine codeAny_forLoop_any (fun n s' => ∃ i h₁ tk₁, s' = { s with heap := h₁, toks := tk₁ } ∧ i ≤ ds.length ∧ n = ds.length - i ∧ St i h₁ ∧ Inv (ds.drop i) h₁) ?_ ds.length ⟨0, s.heap, s.toks, rfl, Nat.zero_le _, rfl, st, i0⟩
  rintro n s' ⟨i, h₁, tk₁, rfl, hi, rfl, hst, inv⟩
  by_cases hlt : i < ds.length
  · refine W'.item i _ _ _ hlt hst fun v h₃ tk₃ hP hst₃ hk => ?_
    obtain ⟨e, he, hd⟩ := W.items i v hlt hP
    have hdrop : ds.drop i = e :: ds.drop (i + 1) := by
      rw [List.drop_eq_getElem_cons hlt]
      rw [List.getElem?_eq_getElem hlt] at he
      rw [Option.some.inj he]
    rw [hdrop] at inv
    refine wpAny_pure (wpAny_mono (turn v e _ h₃ tk₃ _ hd (next _ _ _ inv (fun b o hb => hk b o fun m => hb (List.mem_singleton.mp m)) (W.live _ _ hst₃))) (fun _ s₂ w => wpAny_mono w (fun f s₃ c => ?_) fun _ _ h => h) fun _ _ h => h)
    rcases c with ⟨rfl, h', tk', rfl, inv', hfp⟩ | ⟨v, rfl, r⟩
    · exact ⟨ds.length - (i + 1), Nat.sub_lt_sub_left hlt (Nat.lt_succ_self i), i + 1, h', tk', rfl, hlt, rfl, W'.frame _ _ _ hst₃ hfp, inv'⟩
    · exact r
  · refine W'.done _ _ _ (by rw [Nat.le_antisymm hi (Nat.not_lt.mp hlt)] at hst; exact hst) fun h₃ tk₃ hk => ?_
    rw [List.drop_eq_nil_of_le (Nat.not_lt.mp hlt)] at inv
    exact wpAny_execs_nil (fin h₃ tk₃ h₁ inv fun b o hb => hk b o fun m => hb (List.mem_singleton.mp m))
theorem for_ok (K : EvOk G O I) (K2 : ExsOk G O I) (F : FS G O d u A env b₀ T Rs Z Ch st h) (hu : 66 ≤ u) {x : Str} {px pos : Pos} {it : Expr} {b : List Stmt} {ds : List Dat} {fl : Flw} (hx : O.loc x = true) (hds : itemsOf I (evV I) st it = some ds) (q : forLoop I x b st ds = some (fl, st')) :
    SO G O d u A env b₀ T Rs Z (exec (.For (.Name x px) it b [] pos) env) Ch h fl st' := by
  intro s Q E es q'
  refine wpAny_For (items_it K F.ec hu (g := evV I) (D := fun h' v r => DV (FZ h' (Ch ++ Z)) v r) (fun q => evV_ok K F.ec hu q) (fun _ _ _ x => DL.of x) hds s _ E es fun xv hx₀ tkx kx ⟨itv, hl, hxv⟩ => ?_) (not_set hds)
  have Fx := F.grow kx
  refine iter_ok F.base.ctx.hand itv _ _ E rfl fun iv h₂ tk₂ k₂ ⟨Ia, fp, P, St, hiv, W⟩ => ?_
  subst hiv
  have hIn : hx₀.get? Ia = none := W.new
  have F₂ := Fx.addZ hIn k₂ (W.live _ _ W.st)
  have fpx : ∀ c ∈ fp, c = Ia ∨ (c ∉ Ch ∧ ∃ o, hx₀.get? c = some o) := by
    intro c hc
    refine (W.fps c hc).imp id fun e => ⟨fun m => ?_, itv_live itv e⟩
    rcases hxv c e with hn | ⟨r, hr⟩
    · obtain ⟨o, e⟩ := F.live c (List.mem_append_left _ m)
      rw [hn] at e; cases e
    · subst e
      exact DV.out hr (List.mem_append_left _ m)
  refine for_rule (s := { s with heap := h₂, toks := tk₂ }) F.base.ctx.hand W (Inv := fun r h' => ∃ Ch₁ st₁, FS G O d u A env b₀ T Rs (Ia :: Z) Ch₁ st₁ h' ∧ Nx Ch hx₀ Ch₁ h' ∧ forLoop I x b st₁ r = some (fl, st')) ?_ ?_ ?_ ⟨Ch, st, F₂, .kp k₂, q⟩ W.st
  · intro r h₁ h₃ ⟨Ch₁, st₁, F₁, nx₁, hq⟩ k live
    have hIC : Ia ∉ Ch₁ := F₁.zc Ia (.head _)
    exact ⟨Ch₁, st₁, F₁.chg (List.mem_append_right _ (.head _)) k live (fun z => hIC (z ▸ F₁.rs _ F₁.loc.1)) (fun y c e1 e2 z => hIC (z ▸ F₁.rs _ (F₁.cel y c e1 e2).1)) (fun P c q e z => hIC (z ▸ F₁.rs _ (F₁.tab P c q e).1)) (fun y l q hh b' => hIC (F₁.owns q hh b')),
      ⟨fun c o hc e => k c o (ne_of_none hIn e) (nx₁.1 c o hc e), nx₁.2⟩, hq⟩
  · intro v e r h₃ tk₃ E' hd ⟨Ch₁, st₁, F₃, nx₃, hq⟩
    refine bE hq fun p hex hq => ?_
    refine wpAny_assign_Name (F₃.bind hx (BV.val (DV.up (fun b o n => nx₃.1 b o fun m => n (List.mem_append_left _ m)) (fun a m => (List.mem_append.mp m).elim (fun m => (nx₃.2 a m).imp (List.mem_append_left _) id) fun m => (List.mem_cons.mp m).elim (fun e => .inr (e ▸ hIn)) fun m => .inl (List.mem_append_right _ m)) hd)) rfl fun h₄ tk₄ F₄ nx₄ _ _ _ => ?_)
    refine K2 F₄ hu b p.1 p.2 hex _ _ _ rfl fun f Ch₅ h₅ tk₅ nx₅ F₅ fo => ?_
    have nxA := (nx₃.trans nx₄).trans nx₅
    obtain ⟨fl₁, st₂⟩ := p
    cases fl₁ with
    | nx =>
      refine .inl ⟨fo, h₅, tk₅, rfl, ⟨Ch₅, st₂, F₅, nxA, hq⟩, fun c hc o ho => (nx₄.trans nx₅).1 c o (fun m => ?_) ho⟩
      rcases fpx c hc with rfl | ⟨hcC, oc, eoc⟩
      · exact F₃.zc c (.head _) m
      · exact (nx₃.2 c m).elim hcC fun n => by rw [eoc] at n; cases n
    | ret r =>
      cases hq
      obtain ⟨v', rfl, rt⟩ := fo
      exact .inr ⟨v', rfl, q' (.ret v') Ch₅ h₅ tk₅ ((Nx.kp kx).trans nxA) F₅.dropZ ⟨v', rfl, rt⟩⟩
  · intro h₃ tk₃ h₁ ⟨Ch₁, st₁, F₁, nx₁, hq⟩ k
    cases hq
    refine q' .next Ch₁ h₃ tk₃ ((Nx.kp kx).trans ⟨fun c o hc e => k c o (ne_of_none hIn e) (nx₁.1 c o hc e), nx₁.2⟩) (F₁.kill (fun m => ?_) k) rfl
    obtain ⟨o, e⟩ := Fx.live Ia (List.mem_append_right _ m)
    exact ne_of_none hIn e rfl
end
end Mine
end

section
open PySem PySem.W PyProof.Rows Builtin.Str Builtin
namespace Mine
section
variable {G : Gr} {O : Orc} {I : Itp} {d u : Nat} {A A' : Around} {env : Env} {b₀ : Heap} {T : Option (Addr × Addr × Str)} {Rs Z Ch X : List Addr} {st st' : LSt} {h h' : Heap}
theorem evAt_ok : ∀ n, EvOk G O (evAt O n)
  | 0 => fun _ _ _ _ q => nomatch q
  | n + 1 => fun C hu e r q => evS_ok (evAt_ok n) C hu e r q
theorem noFn_get {cap : LSt} (hn : noFn cap = true) (x : Str) (f : Dat → Option Dat) : cap.get x ≠ some (.fn f) := by
  induction cap with
  | nil => exact fun e => nomatch e
  | cons p r ih =>
    have hn := Bool.and_eq_true_iff.mp ((List.all_cons).symm.trans hn)
    exact fun e => oE (P := False) e (fun _ e => by rw [Option.some.inj e] at hn; cases hn.1) fun _ e => ih hn.2 e
theorem EC.lam (C : EC G O d u A env X st h) {sc : Scope} {x : Str} (B : BlockFacts O.capt sc [x]) {cap : LSt} (hc : freeOf O.capt st sc.names = some cap) (hnf : noFn cap = true) (k : Kp h h') {L' f c' : Addr} (hL : h.get? L' = none) {w : Value} {e : Dat} (hns : h'.Ns L' (fun y => ([(x, w)] : List (Str × Value)).reverse.lookup y))
    (hctx : CtxOk G A' 1 97 h') (hfl : flatD e = true) {P : Addr → Obj → Prop} (hw : DV P w e) {qual : Str} :
    EC G (bare O) 1 97 A' (envX qual sc L' f (.ref c') (closFrom env sc.names [])) (L' :: X) ((x, .val e) :: cap) h' := by
  have hfree := freeOf_free hc
  have hcl : ∀ p ∈ sc.names, p.2 = .free → ∃ c, env.cells.lookup p.1 = some c := fun p hp hk => by
    obtain ⟨l, hl, hg, hcp⟩ := hfree p hp hk
    obtain ⟨c, e, _⟩ := C.cap p.1 l hl hg hcp
    exact ⟨c, e⟩
  have kind : ∀ y, (envX qual sc L' f (.ref c') (closFrom env sc.names [])).kindOf y = sc.names.lookup y := fun y => rfl
  have capd : ∀ y l, (y, NameKind.free) ∈ sc.names → st.get y = some l → l ≠ .glo → O.capt y = true → ∃ c, (closFrom env sc.names []).lookup y = some c ∧ env.cells.lookup y = some c := by
    intro y l hm hl hg hcp
    obtain ⟨c, e, hk⟩ := C.cap y l hl hg hcp
    have h1 : (closFrom env sc.names []).lookup y = env.cells.lookup y := (closFrom_lookup sc.names [] hcl (fun y c e => by cases e) (.inl hm))
    exact ⟨c, h1.trans e, e⟩
  have hnX : ∀ a ∈ X, a ≠ L' := fun a m z => by obtain ⟨o, e⟩ := C.chh a m; rw [z, hL] at e; cases e
  have get : ∀ y l, LSt.get ((x, .val e) :: cap) y = some l → (y = x ∧ l = .val e) ∨ (cap.get y = some l) := by
    intro y l q
    exact oE (x := some (LV.val e)) (y := cap.get y) q (fun h q => .inl ⟨h.symm, (Option.some.inj q).symm⟩) fun _ q => .inr q
  refine ⟨B.kind, rfl, rfl, hctx, ?_, C.gl, (fun _ _ _ q => nomatch q), (fun _ _ _ _ q => nomatch q), ?_, C.bi, C.bb, ?_, ?_, ?_⟩
  · intro y l q
    rcases get y l q with ⟨rfl, rfl⟩ | q
    · obtain ⟨hloc, _⟩ := B.vars y (.head _)
      exact ⟨B.nodebug _ (mem_names_of_lookup hloc), w, .inl ⟨(kind y).trans hloc, _, hns, by simp⟩, flat_dv hfl hw⟩
    · rcases freeOf_get hc y l q with ⟨hm, hl, hg, hcp⟩ | ⟨hm, rfl⟩
      · obtain ⟨hd, hN⟩ := C.nm y l hl
        obtain ⟨c, e1, e2⟩ := capd y l hm hl hg hcp
        have hky : (envX qual sc L' f (.ref c') (closFrom env sc.names [])).kindOf y = some .free := (kind y).trans (B.one _ hm)
        refine ⟨hd, ?_⟩
        have conv : ∀ v, Bnd env h y v → (∃ c, env.cells.lookup y = some c ∧ (env.kindOf y = some .cell ∨ env.kindOf y = some .free)) → Bnd (envX qual sc L' f (.ref c') (closFrom env sc.names [])) h' y v := by
          intro v b hcc
          refine .inr (.inr ⟨⟨hky, B.nocd _ hm⟩, c, e1, ?_⟩)
          obtain ⟨_, _, hcc⟩ := hcc
          rcases b with ⟨e, _⟩ | ⟨e, c', l', q⟩ | ⟨⟨e, ec⟩, c', l', q⟩
          · rcases hcc with hk | hk <;> rw [e] at hk <;> cases hk
          · rw [e2] at l'; cases l'; exact q.keeps k
          · rw [e2] at l'; cases l'; exact q.keeps k
        cases l with
        | glo => exact absurd rfl hg
        | fn g => exact absurd q (noFn_get hnf y g)
        | _ =>
          obtain ⟨v, b, r⟩ := hN
          exact ⟨v, conv v b (C.cap y _ hl hg hcp), LRel.more (N := [L']) k (fun a m => by rw [List.mem_singleton.mp m]; exact hL) r⟩
      · exact ⟨B.nodebug _ hm, (kind y).trans (B.one _ hm)⟩
  · intro v _ h₁ _ q g _ A₁ h₂ _ _ ds r vs hr
    cases ds with
    | nil => exact noE hr
    | cons d ds => cases ds with
      | cons _ _ => cases d <;> exact noE hr
      | nil => cases d <;> exact noE hr
  · intro a m
    rcases List.mem_cons.mp m with rfl | m
    · obtain ⟨o, _, _, ho, _⟩ := hns
      exact ⟨o, ho⟩
    · obtain ⟨o, e⟩ := C.chh a m
      exact ⟨o, k _ _ e⟩
  · intro y l q hg hcp
    rcases get y l q with ⟨rfl, rfl⟩ | q
    · have := (B.vars y (.head _)).2
      rw [show O.capt y = true from hcp] at this; cases this
    · rcases freeOf_get hc y l q with ⟨hm, hl, _, _⟩ | ⟨hm, rfl⟩
      · obtain ⟨c, e1, e2⟩ := capd y l hm hl hg hcp
        exact ⟨c, e1, .inr ((kind y).trans (B.one _ hm))⟩
      · exact absurd rfl hg
  · intro y g q
    rcases get y _ q with ⟨_, q⟩ | q
    · cases q
    · exact absurd q (noFn_get hnf y g)
theorem bind_one {name qual : Str} {a : Arg} {body : Expr} {sc : Scope} {cl : List (Str × Addr)} {pm cd ctv w : Value} : bindArgs (kla_fn name qual ⟨[], [a], none, [], [], none, []⟩ body sc cl pm cd ctv) ⟨[w], []⟩ = pure [(a.arg, w)] := by
  have e : notAStandIn Value.none = pure () := rfl
  simp [bindArgs, seqItems?, e]
theorem ctx_in {fd : Env} (c : CtxOk G A 2 100 h) : CtxOk G (A.deeper fd) 1 97 h :=
  ⟨c.g, c.b, c.nl, by have := c.depth; show A.depth + 1 + 1 < _; omega, by have := c.units; show A.units + 3 + 97 < _; omega, c.hand⟩
theorem lam_key (F : EC G O d u A env X st h) {a : Arg} {body : Expr} {sc : Scope} {cap : LSt} (B : BlockFacts O.capt sc [a.arg]) (hc : freeOf O.capt st sc.names = some cap) (hnf : noFn cap = true) (hco : sc.isCoroutine = false) (hgen : sc.isGenerator = false)
    (k : Kp h h') {f c' : Addr} {name qual : Str} {pm ctv : Value} (ho : h'.get? f = some (kla_obj name qual ⟨[], [a], none, [], [], none, []⟩ body sc (closFrom env sc.names []) pm c' ctv)) (hcd : h'.CodeRec (.ref c') qual) :
    IsKey G (.ref f) (lamV O cap a.arg body) h' := by
  refine ⟨⟨f, _, _, rfl, ho, rfl⟩, fun A₁ h₁ k₁ ctx e r w hr hw => ?_⟩
  refine iE (P := Ex G A₁ (call (.ref f) [w] []) h₁ fun h' v => DV (AL h') v r) hr fun hfl hr => ?_
  intro s Q E es q
  subst es
  refine wpAny_call ?_
  refine kla_callFunE (by have := ctx.depth; omega) (k₁ _ _ ho) rfl hco hgen rfl (hcd.keeps k₁) ?_
  rw [bind_one]
  refine wpAny_pure (wpAny_newFunctionEnv B.nocell (fun y hy => ?_) (fun h₂ hns hsb => ⟨ctx.nl.fresh _ hsb, ?_⟩) B.kind)
  · rw [List.mem_singleton.mp hy]; exact (B.vars a.arg (.head _)).1
  have k₂ : Kp s.heap h₂ := fun b o e => hsb.extBut b o (Nat.ne_of_lt (Heap.lt_size e)) (Heap.get?_push_of_some _ e)
  have hL : h.get? s.heap.objs.size = none := none_of_kp (k.trans k₁) (get?_size _)
  have C₂ := F.lam (f := f) (c' := c') (qual := qual) B hc hnf ((k.trans k₁).trans k₂) hL hns (ctx_in (ctx.keeps k₂) (fd := envX qual sc s.heap.objs.size f (.ref c') (closFrom env sc.names []))) hfl hw
  show codeAny _ _ (.expr body (envX qual sc s.heap.objs.size f (.ref c') (closFrom env sc.names []))) _ _
  refine kla_codeExpr (evV_ok (evAt_ok (O := bare O) 20) C₂ (by omega) hr _ _ _ rfl fun v h₃ tk₃ k₃ r₃ => ?_)
  exact q v h₃ tk₃ (k₂.trans k₃) (DV.mono FZ.al r₃)
end
end Mine
end

section
open PySem PySem.W PyProof.Rows Builtin.Str Builtin
namespace Mine
section
variable {G : Gr} {O : Orc} {I : Itp} {d u : Nat} {A : Around} {env : Env} {b₀ : Heap} {T : Option (Addr × Addr × Str)} {Rs Z Ch : List Addr} {st st' : LSt} {h h' : Heap}
theorem among_snoc {pos : Pos} {a b : Int} {c cv : Value} (l : List Value) (ht : TriplesOk l) (e : codeAmong pos (l ++ [rawInt a, rawInt b, c]) = some cv) : codeAmong pos l = some cv ∨ cv = c := by
  fun_induction TriplesOk l with
  | case1 => exact iE (x := some c) e fun _ e => .inr (Option.some.inj e).symm
  | case2 a' t b' u x rest ih => exact oE (x := some x) e (fun hc e => .inl ((if_pos hc).trans e)) fun hc e => (ih ht e).imp (if_neg hc).trans id
  | case3 l h1 h2 => exact ht.elim
theorem FS.chgP (F : FS G O d u A env b₀ T Rs Z Ch st h) {P c : Addr} {q : Str} (hT : T = some (P, c, q)) (k : ∀ b o, b ≠ P → h.get? b = some o → h'.get? b = some o)
    (ht : ∃ ps, h'.get? P = some (tabObj ps) ∧ TriplesOk ps.toList ∧ ∀ pos cv, codeAmong pos ps.toList = some cv → ∃ c', cv = .ref c' ∧ h'.CodeRec (.ref c') q ∧ c' ∉ Ch ++ Z) : FS G O d u A env b₀ T Rs Z Ch st h' := by
  obtain ⟨hPR, hPl, hPc, h4, h5, h6, h7, _⟩ := F.tab P c q hT
  have hlive : ∃ o, h'.get? P = some o := ht.elim fun ps x => ⟨_, x.1⟩
  subst hT
  have F₁ : FS G { O with lam := false } d u A env b₀ none Rs Z Ch st h := { F with
    base := { F.base with ins := fun z => nomatch z }
    tl := fun z => nomatch z
    tab := fun _ _ _ z => nomatch z }
  have F₂ := F₁.chg (h' := h') (List.mem_append_left _ (F.rs P hPR)) k hlive hPl hPc (fun _ _ _ z => nomatch z) fun x l q hh b => F.sep x l P q hh b hPR
  exact { F₂ with
    base := F.base
    tl := F.tl
    lk := F.lk
    cap := F.cap
    tab := fun P' c' q' e => by
      cases e
      exact ⟨hPR, hPl, hPc, h4, h5, h6, h7, ht⟩ }
theorem lam_ok (F : FS G O d u A env b₀ T Rs Z Ch st h) {e : Expr} {g : Dat → Option Dat} (q : lamF O st e = some g) {s : Shared} {Q : Value → Shared → Prop} {E : Value → Shared → Prop} (hs : s.heap = h)
    (fin : ∀ f h' tk' P, P ∈ Rs → (∃ ps, h.get? P = some (tabObj ps)) → (∀ b o, b ≠ P → h.get? b = some o → h'.get? b = some o) → FS G O d u A env b₀ T Rs Z Ch st h' → IsKey G (.ref f) g h' → Q (.ref f) { s with heap := h', toks := tk' }) : wpAny G.M A (eval e env) Q E s := by
  replace q : pick e none (lam := lamG O st) = some g := q
  refine pLam (M := fun e => wpAny G.M A (eval e env) Q E s) q fun ps body sc pos q => bE q fun x hx q => iE q fun hb q => bE q fun cap hcap q => iE q fun hnf q => argOf_E (M := fun ps => wpAny G.M A (eval (.Lambda ps body sc pos) env) Q E s) hx fun an ap => ?_
  cases q
  simp only [Bool.and_eq_true, Bool.not_eq_true'] at hb
  obtain ⟨⟨⟨hlam, hb⟩, hco⟩, hgen⟩ := hb
  have B := blockFacts hb
  obtain ⟨P, c, hT⟩ := F.tl hlam
  obtain ⟨hPR, hPl, hPc, hcode, hhd, hbi, hgP, ps, hP, htr, hcs⟩ := F.tab P c _ hT
  have hfree := freeOf_free hcap
  have hcl : ∀ p ∈ sc.names, p.2 = .free → ∃ c, env.cells.lookup p.1 = some c := fun p hp hk => by
    obtain ⟨l, hl, hg, hcp⟩ := hfree p hp hk
    obtain ⟨c, e, _⟩ := F.ec.cap p.1 l hl hg hcp
    exact ⟨c, e⟩
  subst hs
  have hbi' : s.heap.BuiltinsAt G.mg P := by
    obtain ⟨bm, o, e1, e2, e3, e4, e5, r⟩ := hbi
    exact ⟨bm, o, e1, e2, e3, e4, F.kp _ _ e5, r⟩
  refine kla_eval rfl ?_
  cases hf : codeAmong pos ps.toList with
  | none =>
    refine kla_makeFunction (closure_eq hcl) F.hg F.ec.ctx.g hcode (hhd.keeps F.kp) hP htr hf hgP hbi' fun c' ctv h₁ tk hx hge hlt hrec htb => ?_
    have k : ∀ b o, b ≠ P → s.heap.get? b = some o → (h₁.push (kla_obj "<lambda>" (env.qual ++ "<lambda>") ⟨[], [⟨x, an, ap⟩], none, [], [], none, []⟩ body sc (closFrom env sc.names []) ((G.mg "__name__").getD .none) c' ctv)).get? b = some o := fun b o hb e => Heap.get?_push_of_some _ (hx b o hb e)
    have F₁ := F.chgP hT k ⟨_, Heap.get?_push_of_some _ htb, by
      rw [Array.toList_append]; exact TriplesOk_snoc _ _ _ _ htr, fun pos' cv hcv => by
      rw [Array.toList_append] at hcv
      rcases among_snoc _ htr hcv with hcv | rfl
      · obtain ⟨c'', e1, e2, e3⟩ := hcs pos' cv hcv
        refine ⟨c'', e1, e2.at fun o ho => k _ _ (fun z => e3 (by rw [z]; exact List.mem_append_left _ (F.rs P hPR))) ho, e3⟩
      · refine ⟨c', rfl, hrec.push _, fun m => ?_⟩
        obtain ⟨o, e⟩ := F.live c' m
        exact absurd (Heap.lt_size e) (Nat.not_lt.mpr hge)⟩
    exact fin _ _ tk P hPR ⟨_, hP⟩ k F₁ (lam_key F₁.ec B hcap hnf hco hgen Kp.rfl (Heap.get?_push_size _ rfl) (hrec.push _))
  | some cv =>
    obtain ⟨c', rfl, hrec, hc'⟩ := hcs pos cv hf
    refine kla_makeFunctionHit (closure_eq hcl) F.hg F.ec.ctx.g hcode (hhd.keeps F.kp) hP htr hf hbi' fun ctv h₁ tk hk _ => ?_
    have k : Kp s.heap (h₁.push (kla_obj "<lambda>" (env.qual ++ "<lambda>") ⟨[], [⟨x, an, ap⟩], none, [], [], none, []⟩ body sc (closFrom env sc.names []) ((G.mg "__name__").getD .none) c' ctv)) := fun b o e => Heap.get?_push_of_some _ (hk b o e)
    exact fin _ _ tk P hPR ⟨_, hP⟩ (fun b o _ e => k b o e) (F.grow k) (lam_key F.ec B hcap hnf hco hgen k (Heap.get?_push_size _ rfl) (hrec.keeps k))
end
end Mine
end

section
open PySem PySem.W PyProof.Rows Builtin.Str Builtin
namespace Mine
section
variable {G : Gr} {O : Orc} {I : Itp} {d u : Nat} {A : Around} {env : Env} {b₀ : Heap} {T : Option (Addr × Addr × Str)} {Rs Z Ch : List Addr} {st st' : LSt} {h h' : Heap}
theorem nx_of {P : Addr} (F : FS G O d u A env b₀ T Rs Z Ch st h) (hP : P ∈ Rs) (k : ∀ b o, b ≠ P → h.get? b = some o → h'.get? b = some o) : Nx Ch h Ch h' := .chg (F.rs P hP) k
theorem DL.chgP {P : Addr} {ps : Array Value} (F : FS G O d u A env b₀ T Rs Z Ch st h) (hP : P ∈ Rs) (hp : h.get? P = some (tabObj ps)) (k : ∀ b o, b ≠ P → h.get? b = some o → h'.get? b = some o) {v : Value} {e : Dat} (x : DL h (Ch ++ Z) v e) : DL h' (Ch ++ Z) v e := by
  have hX : P ∈ Ch ++ Z := List.mem_append_left _ (F.rs P hP)
  have hz : ∀ a o, FZ h (Ch ++ Z) a o → FZ h' (Ch ++ Z) a o := fun a o y => ⟨k a o (fun e => y.2 (by rw [e]; exact hX)) y.1, y.2⟩
  cases e with
  | list ds =>
    obtain ⟨a, vs, n, rfl, g, r⟩ := x
    refine ⟨a, vs, n, rfl, k a _ (fun z => ?_) g, r.mono hz⟩
    rw [z, hp] at g
    have := Option.some.inj g
    injection this with hc
    cases hc
  | _ => exact DV.mono hz x
theorem lam_args (F : FS G O d u A env b₀ T Rs Z Ch st h) {es : List Expr} {kn : Str} {l : Expr} {p'' pos : Pos} {g : Dat → Option Dat} {R : Heap → List Value → Prop} (hp : es.all plainE = true) (hne : es ≠ []) (hargs : ∀ h₁, Kp h h₁ → Ex G A (spliced (backTo pos (starEach es env))) h₁ R)
    (hR : ∀ h₁ h₂ P ps vs, FS G O d u A env b₀ T Rs Z Ch st h₁ → P ∈ Rs → h₁.get? P = some (tabObj ps) → (∀ b o, b ≠ P → h₁.get? b = some o → h₂.get? b = some o) → R h₁ vs → R h₂ vs) (hg : lamF O st l = some g) {v : Value} {s : Shared} {Q : Args → Shared → Prop} {E : Value → Shared → Prop} (k : Kp h s.heap)
    (q : ∀ vs f h₃ tk₃, FS G O d u A env b₀ T Rs Z Ch st h₃ → Nx Ch h Ch h₃ → R h₃ vs → IsKey G (.ref f) g h₃ → Q ⟨vs, [(kn, .ref f)]⟩ { s with heap := h₃, toks := tk₃ }) :
    wpAny G.M A (evalArgs v true (backTo pos (starEach es env)) (backToKw pos (keywordEach [⟨some kn, l, p''⟩] env))) Q E s := by
  cases es with
  | nil => exact absurd rfl hne
  | cons e es =>
    rw [List.all_cons, Bool.and_eq_true] at hp
    have fin : wpAny G.M A (spliced (backTo pos (starEach (e :: es) env))) (fun vs s₁ => wpAny G.M A (evalAll ((backToKw pos (keywordEach [⟨some kn, l, p''⟩] env)).map (·.2))) (fun ks s₂ => Q ⟨vs, ((backToKw pos (keywordEach [⟨some kn, l, p''⟩] env)).filterMap (·.1)).zip ks⟩ s₂) E s₁) E s := by
      refine hargs _ k s _ E rfl fun vs h₂ tk₂ k₂ r₂ => ?_
      have F₂ := F.grow (k.trans k₂)
      refine wpAny_evalAll_cons (wpAny_bind (lam_ok F₂ hg rfl fun f h₃ tk₃ P hPR ⟨ps, hps⟩ kP F₃ ik => wpAny_bind (wpAny_standAt (wpAny_pure (wpAny_evalAll_nil ?_)))))
      exact q vs f h₃ tk₃ F₃ ((Nx.kp (k.trans k₂)).trans (nx_of F₂ hPR kP)) (hR _ _ P ps vs F₂ hPR hps kP r₂) ik
    rw [starEach_cons hp.1] at fin ⊢
    exact evalArgs_kw rfl fin
theorem call_lam (F : FS G O d u A env b₀ T Rs Z Ch st h) {f : Str} {p : Pos} {es : List Expr} {kn : Str} {l : Expr} {p'' pos : Pos} {g : Dat → Option Dat} {R : Heap → List Value → Prop} {v : Value} (hf : Ex G A (eval (.Name f p) env) h fun _ v' => v' = v) (hv : FnOk v b₀) (hp : es.all plainE = true) (hne : es ≠ [])
    (hargs : ∀ h₁, Kp h h₁ → Ex G A (spliced (backTo pos (starEach es env))) h₁ R)
    (hR : ∀ h₁ h₂ P ps vs, FS G O d u A env b₀ T Rs Z Ch st h₁ → P ∈ Rs → h₁.get? P = some (tabObj ps) → (∀ b o, b ≠ P → h₁.get? b = some o → h₂.get? b = some o) → R h₁ vs → R h₂ vs) (hg : lamF O st l = some g) {s : Shared} {Q : Value → Shared → Prop} {E : Value → Shared → Prop} (hs : s.heap = h)
    (q : ∀ vs f h₃ tk₃, FS G O d u A env b₀ T Rs Z Ch st h₃ → Nx Ch h Ch h₃ → R h₃ vs → IsKey G (.ref f) g h₃ → wpAny G.M A (call v vs [(kn, .ref f)]) Q E { s with heap := h₃, toks := tk₃ }) :
    wpAny G.M A (eval (.Call (.Name f p) es [⟨some kn, l, p''⟩] pos) env) Q E s := by
  obtain ⟨a, o, fd, rfl, ho, hfd⟩ := hv
  refine wpAny_Call_Name_kw (hf s _ E hs fun v' h₁ tk₁ k₁ r₁ => ?_)
  subst r₁
  refine callWith_function_kw (o := o) (fd := fd) (lam_args F hp hne hargs hR hg k₁ fun vs f h₃ tk₃ F₃ nx₃ r₃ ik => ⟨⟨F₃.kp _ _ ho, hfd⟩, ?_⟩)
  exact q vs f h₃ tk₃ F₃ nx₃ r₃ ik
theorem lamAssign_ok (K : EvOk G O I) (F : FS G O d u A env b₀ T Rs Z Ch st h) (hu : 66 ≤ u) {y f : Str} {py p p'' q' pos : Pos} {es : List Expr} {ds : List Dat} {l : Expr} {g : Dat → Option Dat} {k : Int} (hy : O.loc y = true) (hgl : isGlo st f = true) (hne : es ≠ []) (hds : argsD I st es = some ds) (hg : lamF O st l = some g) (hk : O.fk f ds g = some (.int k)) :
    SO G O d u A env b₀ T Rs Z (exec (.Assign [.Name y py] (.Call (.Name f p) es [⟨some (Str.ofString "key"), l, p''⟩] q') pos) env) Ch h .nx (st.put y (.val (.int k))) := by
  intro s Q E es' q
  have hf := glo_eq hgl
  have hp := argsD_p hds
  obtain ⟨hd, hkind⟩ := F.ec.nm f _ hf
  obtain ⟨v, hm, hfn, hkt⟩ := F.base.fks f ds g _ hk
  refine wpAny_Assign_Name (call_lam F (R := fun h₁ vs => All2 (DL h₁ (Ch ++ Z)) vs ds) (name_glo F.ec hkind hm hd) hfn hp hne (fun h₁ k₁ => argsD_ok K (F.ec.keeps k₁) hu hds) (fun h₁ h₂ P ps vs F₁ hP hps kP r => r.imp fun _ _ x => DL.chgP F₁ hP hps kP x) hg es' fun vs fl h₃ tk₃ F₃ nx₃ r₃ ik => ?_) rfl
  refine hkt h₃ F₃.kp _ g ik A h₃ Kp.rfl F₃.ec.ctx ds _ vs hk (r₃.imp fun _ _ x => DL.al x).dvs _ _ E rfl fun w h₄ tk₄ k₄ r₄ => ?_
  refine DV.intE (M := fun w => wpAny G.M A (storeName env y w) (fun _ => Q .next) E { s with heap := h₄, toks := tk₄ }) r₄ fun t => ?_
  refine (F₃.grow k₄).bind hy (l := .val (.int k)) (BV.val (.int _ _)) rfl fun h₅ tk₅ F₅ nx₅ _ _ _ => ?_
  exact q .next Ch h₅ tk₅ ((nx₃.trans (.kp k₄)).trans nx₅) F₅ rfl
end
end Mine
end

section
open PySem PySem.W PyProof.Rows Builtin.Str Builtin
namespace Mine
section
variable {G : Gr} {O : Orc} {I : Itp} {d u : Nat} {A : Around} {env : Env} {b₀ : Heap} {T : Option (Addr × Addr × Str)} {Rs Z Ch : List Addr} {st st' : LSt} {h h' : Heap}
theorem lamSorted_ok (K : EvOk G O I) (K2 : ExsOk G O I) (F : FS G O d u A env b₀ T Rs Z Ch st h) (hu : 66 ≤ u) {p p'' q' cp pos : Pos} {el e l : Expr} {b o : List Stmt} {a : Dat} {ds es : List Dat} {g : Dat → Option Dat} {c : Bool} {fl : Flw}
    (hgl : isGlo st (Str.ofString "sorted") = true) (hp : plainE e = true) (ha : evD I st el = some a) (he : evD I st e = some (.list ds)) (hg : lamF O st l = some g) (hs : O.sorted ds g = some es) (hc : cmpop .NotEq a (.list es) = some c) (q : (if c then I.exs st b else I.exs st o) = some (fl, st')) :
    SO G O d u A env b₀ T Rs Z (exec (.If (.Compare el [.NotEq] [.Call (.Name (Str.ofString "sorted") p) [e] [⟨some (Str.ofString "key"), l, p''⟩] q'] cp) b o pos) env) Ch h fl st' := by
  intro s Q E es' qf
  have hf := glo_eq hgl
  obtain ⟨hd, hkind⟩ := F.ec.nm _ _ hf
  have hpa : [e].all plainE = true := by simp [hp]
  refine wpAny_If (wpAny_isTrue_Compare1 (evD_ok K F.ec hu ha s _ E es' fun va h₁ tk₁ k₁ ra => ?_) rfl)
  have F₁ := F.grow k₁
  refine wpAny_Call_Name_kw (name_bi F₁.ec hkind (v := .builtin "sorted") (by decide) (by decide +kernel) hd _ _ E rfl fun v' h₂ tk₂ k₂ r₂ => ?_)
  subst r₂
  refine callWith_builtin_kwB (backTo_noStar hpa) rfl (lam_args (F₁.grow k₂) (R := fun h₁ vs => (∃ v, vs = [v] ∧ DL h₁ (Ch ++ Z) v (.list ds)) ∧ DL h₁ (Ch ++ Z) va a) hpa (by simp) (fun h₃ k₃ => ?_) (fun h₁ h₂ P ps vs F₁ hP hps kP r => ?_) hg Kp.rfl fun vs f h₃ tk₃ F₃ nx₃ r₃ ik => ?_)
  · have := one_item (h := h₃) (pos := q') hp (fun h₄ k₄ => evD_ok K (((F₁.grow k₂).grow k₃).ec.keeps k₄) hu he) h₃ Kp.rfl
    exact this.weak fun h₄ vs k₄ x => ⟨x, DL.keeps ((k₂.trans k₃).trans k₄) ra⟩
  · obtain ⟨⟨v, e1, x⟩, y⟩ := r
    exact ⟨⟨v, e1, DL.chgP F₁ hP hps kP x⟩, DL.chgP F₁ hP hps kP y⟩
  · obtain ⟨⟨w, rfl, x⟩, y⟩ := r₃
    refine F₃.base.so _ rfl h₃ F₃.kp _ g ik A h₃ Kp.rfl F₃.ec.ctx [.list ds] (.list es) [w] (by simp [hs]) (.cons (DL.al x) .nil) _ _ E rfl fun r h₄ tk₄ k₄ r₄ => ?_
    have F₄ := F₃.grow k₄
    have hr : DL h₄ (Ch ++ Z) r (.list es) := DL.of (DV.mono (fun b o z => ⟨z.1, fun m => by
      obtain ⟨o', e'⟩ := F₃.live b m
      rw [e'] at z; cases z.2⟩) r₄)
    refine cmp_ok F₄.ec.ctx hu (DL.keeps k₄ y) hr hc _ _ E rfl fun bv h₅ tk₅ k₅ r₅ => ?_
    refine DV.boolE (M := fun v => wpAny G.M A (truthy v) _ E { s with heap := h₅, toks := tk₅ }) r₅ ?_
    have nxA : Nx Ch h Ch h₅ := (((Nx.kp k₁).trans (.kp k₂)).trans nx₃).trans (.kp (k₄.trans k₅))
    have F₅ := F₄.grow k₅
    refine wpAny_truthy_bool ?_
    cases c with
    | true => exact K2 F₅ hu b fl st' q _ Q E rfl fun f Ch' h' tk' nx F' fo => qf f Ch' h' tk' (nxA.trans nx) F' fo
    | false => exact K2 F₅ hu o fl st' q _ Q E rfl fun f Ch' h' tk' nx F' fo => qf f Ch' h' tk' (nxA.trans nx) F' fo
end
end Mine
end

section
open PySem PySem.W PyProof.Rows Builtin.Str Builtin
namespace Mine
section
variable {G : Gr} {O : Orc} {I : Itp} {d u : Nat} {A : Around} {env : Env} {b₀ : Heap} {T : Option (Addr × Addr × Str)} {Rs Z Ch : List Addr} {st st' : LSt} {h h' : Heap}
theorem lamF_lam {l : Expr} {g : Dat → Option Dat} (hg : lamF O st l = some g) : O.lam = true := pLam (M := fun _ => O.lam = true) hg fun _ _ _ _ q => bE q fun _ _ q => iE q fun hb _ => (Bool.and_eq_true_iff.mp (Bool.and_eq_true_iff.mp (Bool.and_eq_true_iff.mp hb).1).1).1
theorem Bnd.chgP {P : Addr} {ps : Array Value} (F : FS G O d u A env b₀ T Rs Z Ch st h) (hp : h.get? P = some (tabObj ps)) (k : ∀ b o, b ≠ P → h.get? b = some o → h'.get? b = some o) {x : Str} {v : Value} (b : Bnd env h x v) : Bnd env h' x v := by
  refine Bnd.chg F k (fun z => ?_) (fun y c e1 e2 z => ?_) b
  · obtain ⟨m, o, es, ep, g, hd, _⟩ := F.loc.2
    rw [← z, hp] at g
    cases g
    cases hd
  · obtain ⟨_, _, o, ob, g, hd⟩ := F.cel y c e1 e2
    rw [z, hp] at g
    cases g
    cases hd
theorem lamInsort_ok (K : EvOk G O I) (F : FS G O d u A env b₀ T Rs Z Ch st h) (hu : 66 ≤ u) {x : Str} {p px p'' q' pos : Pos} {e e₁ e₂ l : Expr} {ds : List Dat} {r kd : Dat} {lo hi k : Int} {g : Dat → Option Dat}
    (hx : st.get x = some (.own ds)) (hgl : isGlo st (Str.ofString "insort_left") = true) (hp : [e, e₁, e₂].all plainE = true) (he : evV I st e = some r) (h1 : evI I st e₁ = some lo) (h2 : evI I st e₂ = some hi) (hg : lamF O st l = some g) (hkd : g r = some kd) (hfl : flatD kd = true)
    (hk : O.fk (Str.ofString "bisect_left") [.list ds, kd, .int lo, .int hi] g = some (.int k)) (hlen : ds.length ≤ 4095) (h0 : 0 ≤ k) (hkl : k ≤ ds.length) :
    SO G O d u A env b₀ T Rs Z (exec (.Expr (.Call (.Name (Str.ofString "insort_left") p) [.Name x px, e, e₁, e₂] [⟨some (Str.ofString "key"), l, p''⟩] q') pos) env) Ch h .nx (st.put x (.own (insAt ds k r))) := by
  intro s Q E es' q
  obtain ⟨hd, hkind⟩ := F.ec.nm _ _ (glo_eq hgl)
  obtain ⟨v, hm, hfn, hins⟩ := F.base.ins (lamF_lam hg)
  obtain ⟨hdx, a, vs, n, b, ha, g0, rr⟩ := F.own hx
  have hp3 : plainE e = true ∧ plainE e₁ = true ∧ plainE e₂ = true := by simpa using hp
  refine wpAny_Expr (call_lam F (R := fun h₁ ws => ∃ w t1 t2, ws = [.ref a, w, .int lo t1, .int hi t2] ∧ DV (FZ h₁ (Ch ++ Z)) w r ∧ Bnd env h₁ x (.ref a)) (name_glo F.ec hkind hm hd) hfn (by show (true && (plainE e && (plainE e₁ && (plainE e₂ && true)))) = true; rw [hp3.1, hp3.2.1, hp3.2.2]; rfl) (by simp) (fun h₁ k₁ => ?_) (fun h₁ h₂ P ps ws F₁ hP hps kP x => ?_) hg es' fun ws fl h₃ tk₃ F₃ nx₃ r₃ ik => ?_) (not_int F) rfl
  · intro s Q E es q
    refine wpAny_items_cons (name_bnd (F.ec.keeps k₁) (b.keeps k₁) hdx s _ E es fun w0 h₂ tk₂ k₂ r₂ => ?_) rfl
    subst r₂
    refine wpAny_items_cons (evV_ok K (F.ec.keeps (k₁.trans k₂)) hu he _ _ E rfl fun w h₃ tk₃ k₃ r₃ => ?_) (starEach_cons hp3.1)
    refine wpAny_items_cons (evI_ok K (F.ec.keeps ((k₁.trans k₂).trans k₃)) hu h1 _ _ E rfl fun w1 h₄ tk₄ k₄ ⟨t1, r₄⟩ => ?_) (starEach_cons hp3.2.1)
    refine wpAny_items_cons (evI_ok K (F.ec.keeps (((k₁.trans k₂).trans k₃).trans k₄)) hu h2 _ _ E rfl fun w2 h₅ tk₅ k₅ ⟨t2, r₅⟩ => ?_) (starEach_cons hp3.2.2)
    subst r₄; subst r₅
    exact wpAny_items_nil (q _ h₅ tk₅ (((k₂.trans k₃).trans k₄).trans k₅) ⟨w, t1, t2, rfl, DV.mono (FZ.mono (k₄.trans k₅)) r₃, b.keeps ((((k₁.trans k₂).trans k₃).trans k₄).trans k₅)⟩)
  · obtain ⟨w, t1, t2, e1, y, bx⟩ := x
    have hX : P ∈ Ch ++ Z := List.mem_append_left _ (F₁.rs P hP)
    exact ⟨w, t1, t2, e1, DV.mono (fun a o y => ⟨kP a o (fun e => y.2 (by rw [e]; exact hX)) y.1, y.2⟩) y, Bnd.chgP F₁ hps kP bx⟩
  · obtain ⟨w, t1, t2, rfl, y, bx⟩ := r₃
    obtain ⟨hdx₃, a', vs₃, n₃, b₃, ha₃, g₃, rr₃⟩ := F₃.own hx
    have haa : a' = a := by
      have := b₃.uniq bx
      cases this; rfl
    subst haa
    refine hins A h₃ F₃.kp F₃.ec.ctx a' vs₃ n₃ ds w r lo hi t1 t2 _ g kd k g₃ (F₃.new _ (List.mem_append_left _ ha₃)) (rr₃.mono FZ.al) (DV.mono FZ.al y) ik hkd hfl hk hlen h0 hkl _ _ E rfl fun h₄ n₄ tk₄ k₄ g₄ => ?_
    have hX : a' ∈ Ch ++ Z := List.mem_append_left _ ha₃
    have hz : ∀ c o, FZ h₃ (Ch ++ Z) c o → FZ h₄ (Ch ++ Z) c o := fun c o y => ⟨k₄ c o (fun e => y.2 (by rw [e]; exact hX)) y.1, y.2⟩
    have F₄ := F₃.mut hx rfl b₃ k₄ ⟨_, g₄⟩ (l' := .own (insAt ds k r)) ⟨a', _, _, rfl, ha₃, g₄, by
      unfold insAt
      rw [clip_in h0 hkl]
      exact (rr₃.mono hz).ins (DV.mono hz y)⟩ (fun _ z => nomatch z) (fun z => nomatch z)
    exact q .next Ch h₄ tk₄ (nx₃.trans (.chg ha₃ k₄)) F₄ rfl
end
end Mine
end

section
open PySem PySem.W PyProof.Rows Builtin.Str Builtin
namespace Mine
section
variable {G : Gr} {O : Orc} {I : Itp} {d u : Nat} {A : Around} {env : Env} {b₀ : Heap} {T : Option (Addr × Addr × Str)} {Rs Z Ch : List Addr} {st st' : LSt} {h h' : Heap}
noncomputable def XO (G : Gr) (O : Orc) (d u : Nat) (A : Around) (env : Env) (b₀ : Heap) (T : Option (Addr × Addr × Str)) (Rs Z Ch : List Addr) (h : Heap) (s : Stmt) (r : Flw × LSt) : Prop := SO G O d u A env b₀ T Rs Z (exec s env) Ch h r.1 r.2
section
variable (K : EvOk G O I) (F : FS G O d u A env b₀ T Rs Z Ch st h) (hu : 66 ≤ u) {r : Flw × LSt} {e : Expr} {pos : Pos}
include K F hu
theorem asgN_ok {y : Str} {py : Pos} (q : asgN O I st y e = some r) : XO G O d u A env b₀ T Rs Z Ch h (.Assign [.Name y py] e pos) r := mE (M := XO G O d u A env b₀ T Rs Z Ch h (.Assign [.Name y py] e pos)) q fun _ hb => assign_ok K F hu hb
theorem asgDict_ok {y : Str} {py dp : Pos} {k₁ v₁ k₂ v₂ : Expr} (q : asgDict O I st y k₁ v₁ k₂ v₂ = some r) : XO G O d u A env b₀ T Rs Z Ch h (.Assign [.Name y py] (.Dict [some k₁, some k₂] [v₁, v₂] dp) pos) r :=
  bE q fun _ e1 q => bE q fun _ e2 q => bE q fun _ e3 q => bE q fun _ e4 q => nE q fun hc q => sE (M := XO G O d u A env b₀ T Rs Z Ch h (.Assign [.Name y py] (.Dict [some k₁, some k₂] [v₁, v₂] dp) pos)) q
    (dictS_ok K F hu (Bool.of_not_eq_false fun z => hc (.inr z)) e1 (str_eq e2) e3 (str_eq e4) fun z => hc (.inl z))
theorem asgLam_ok {y f : Str} {py p p' p'' : Pos} {as : List Expr} {l : Expr} (q : asgLam O I st y f as l = some r) : XO G O d u A env b₀ T Rs Z Ch h (.Assign [.Name y py] (.Call (.Name f p) as [⟨some (Str.ofString "key"), l, p'⟩] p'') pos) r :=
  iE q fun hc q => bE q fun _ hds q => bE q fun _ hg q => mE (M := XO G O d u A env b₀ T Rs Z Ch h (.Assign [.Name y py] (.Call (.Name f p) as [⟨some (Str.ofString "key"), l, p'⟩] p'') pos)) q fun _ hk =>
    lamAssign_ok K F hu hc.1 hc.2.1 (fun z => by rw [z] at hc; cases hc.2.2) hds hg (int_eq hk)
theorem asg1_ok {y : Str} {py : Pos} (q : asg1 O I st y e = some r) : XO G O d u A env b₀ T Rs Z Ch h (.Assign [.Name y py] e pos) r :=
  oM q (fun c hc q => oE q (fun hl q => methOf_E (M := fun e => XO G O d u A env b₀ T Rs Z Ch h (.Assign [.Name y py] e pos) r) hc (by
      rw [List.isEmpty_iff.mp hl]
      exact iE q fun hm q => bE q fun ds hx q => bE q fun dd hd q => by
        rw [hm.1]
        exact iS (M := XO G O d u A env b₀ T Rs Z Ch h (.Assign [.Name y py] (.Call (.Attribute (.Name c.1 c.2.1) (Str.ofString "pop") c.2.2.2.1) [] [] c.2.2.2.2.2) pos)) q fun hl => pop_ok F (own_eq hx) hm.2.1 hm.2.2 hd hl)) fun _ q => asgN_ok K F hu q)
    fun _ q => oM q (fun c hc q => dictOf_E (M := fun e => XO G O d u A env b₀ T Rs Z Ch h (.Assign [.Name y py] e pos) r) hc fun p => asgDict_ok K F hu q)
    fun _ q => oM q (fun c hc q => keyOf_E (M := fun e => XO G O d u A env b₀ T Rs Z Ch h (.Assign [.Name y py] e pos) r) hc fun p p' p'' _ => asgLam_ok K F hu q) fun _ q => asgN_ok K F hu q
theorem asgItem_ok {x : Str} {i : Expr} {xp p : Pos} (q : asgItem I st x i e = some r) : XO G O d u A env b₀ T Rs Z Ch h (.Assign [.Subscript (.Name x xp) i p] e pos) r :=
  bE q fun dd he q => bE q fun l hl q => by
    cases l with
    | own ds => exact bE q fun k hk q => iE q fun h0 q => bE q fun j hj q => sE (M := XO G O d u A env b₀ T Rs Z Ch h (.Assign [.Subscript (.Name x xp) i p] e pos)) q (setS_ok K F hu hl he hk hj h0)
    | dct es =>
      exact bE q fun k hk q => bE q fun y hy q => iS (M := XO G O d u A env b₀ T Rs Z Ch h (.Assign [.Subscript (.Name x xp) i p] e pos)) q fun hc => by
        have hc := Bool.and_eq_true_iff.mp hc
        refine setD_ok K F hu hl (str_eq ?_) hk (Option.isNone_iff_eq_none.mp hc.1) (of_decide_eq_true hc.2)
        rw [he]
        exact hy
    | _ => exact noE q
theorem asg2_ok {x y : Str} {px py tp ep : Pos} {e₁ e₂ : Expr} {n n' : Nat} (q : asg2 O I st x y e₁ e₂ = some r) : XO G O d u A env b₀ T Rs Z Ch h (.Assign [.Tuple [.Name x px, .Name y py] n tp] (.Tuple [e₁, e₂] n' ep) pos) r :=
  nE q fun hc q => bE q fun _ h1 q => bE q fun _ h2 q => sE (M := XO G O d u A env b₀ T Rs Z Ch h (.Assign [.Tuple [.Name x px, .Name y py] n tp] (.Tuple [e₁, e₂] n' ep) pos)) q (by
    rw [not_or, Decidable.not_not] at hc
    exact tupAssign_ok K F hu (.cons (.cons .nil)) (.cons h1 (.cons h2 .nil)) hc.2.1 (List.nodup_cons.mpr ⟨fun m => hc.1 (List.mem_singleton.mp m), List.pairwise_singleton _ _⟩) hc.2.2 (Nat.le_succ 2))
theorem asg3_ok {x y z : Str} {px py pz tp ep : Pos} {e₁ e₂ e₃ : Expr} {n n' : Nat} (q : asg3 O I st x y z e₁ e₂ e₃ = some r) : XO G O d u A env b₀ T Rs Z Ch h (.Assign [.Tuple [.Name x px, .Name y py, .Name z pz] n tp] (.Tuple [e₁, e₂, e₃] n' ep) pos) r :=
  nE q fun hc q => bE q fun _ h1 q => bE q fun _ h2 q => bE q fun _ h3 q => sE (M := XO G O d u A env b₀ T Rs Z Ch h (.Assign [.Tuple [.Name x px, .Name y py, .Name z pz] n tp] (.Tuple [e₁, e₂, e₃] n' ep) pos)) q (by
    rw [not_or, not_or, not_or, Decidable.not_not] at hc
    exact tupAssign_ok K F hu (.cons (.cons (.cons .nil))) (.cons h1 (.cons h2 (.cons h3 .nil))) hc.2.2.2.1
      (List.nodup_cons.mpr ⟨fun m => (List.mem_cons.mp m).elim hc.1 fun m => hc.2.1 (List.mem_singleton.mp m), List.nodup_cons.mpr ⟨fun m => hc.2.2.1 (List.mem_singleton.mp m), List.pairwise_singleton _ _⟩⟩) hc.2.2.2.2 (Nat.le_refl 3))
theorem asgT_ok {ts es : List Expr} {n n' : Nat} {tp ep : Pos} (q : asgT O I st ts es = some r) : XO G O d u A env b₀ T Rs Z Ch h (.Assign [.Tuple ts n tp] (.Tuple es n' ep) pos) r := by
  cases ts with
  | nil => exact noE q
  | cons a ts => cases ts with
    | nil => exact noE q
    | cons b ts => cases ts with
      | nil => cases es with
        | nil => exact noE q
        | cons e₁ es => cases es with
          | nil => exact noE q
          | cons e₂ es => cases es with
            | nil => exact bE q fun x hx q => bE q fun y hy q => nmOf_E (M := fun a => XO G O d u A env b₀ T Rs Z Ch h (.Assign [.Tuple [a, b] n tp] (.Tuple [e₁, e₂] n' ep) pos) r) hx fun px => nmOf_E (M := fun a => XO G O d u A env b₀ T Rs Z Ch h (.Assign [.Tuple [.Name x px, a] n tp] (.Tuple [e₁, e₂] n' ep) pos) r) hy fun _ => asg2_ok K F hu q
            | cons _ _ => exact noE q
      | cons c ts => cases ts with
        | nil => cases es with
          | nil => exact noE q
          | cons e₁ es => cases es with
            | nil => exact noE q
            | cons e₂ es => cases es with
              | nil => exact noE q
              | cons e₃ es => cases es with
                | nil => exact bE q fun x hx q => bE q fun y hy q => bE q fun z hz q => nmOf_E (M := fun a => XO G O d u A env b₀ T Rs Z Ch h (.Assign [.Tuple [a, b, c] n tp] (.Tuple [e₁, e₂, e₃] n' ep) pos) r) hx fun px => nmOf_E (M := fun a => XO G O d u A env b₀ T Rs Z Ch h (.Assign [.Tuple [.Name x px, a, c] n tp] (.Tuple [e₁, e₂, e₃] n' ep) pos) r) hy fun py =>
                    nmOf_E (M := fun a => XO G O d u A env b₀ T Rs Z Ch h (.Assign [.Tuple [.Name x px, .Name y py, a] n tp] (.Tuple [e₁, e₂, e₃] n' ep) pos) r) hz fun _ => asg3_ok K F hu q
                | cons _ _ => exact noE q
        | cons _ _ => exact noE q
theorem exAsg_ok {ts : List Expr} (q : exAsg O I st e ts = some r) : XO G O d u A env b₀ T Rs Z Ch h (.Assign ts e pos) r :=
  one_E (M := fun ts => XO G O d u A env b₀ T Rs Z Ch h (.Assign ts e pos) r) q fun _ q => oM q (fun _ hy q => nmOf_E (M := fun t => XO G O d u A env b₀ T Rs Z Ch h (.Assign [t] e pos) r) hy fun _ => asg1_ok K F hu q)
    fun _ q => oM q (fun ts hts q => bE q fun _ hes q => tupOf_E (M := fun t => XO G O d u A env b₀ T Rs Z Ch h (.Assign [t] e pos) r) hts fun _ _ => tupOf_E (M := fun e => XO G O d u A env b₀ T Rs Z Ch h (.Assign [.Tuple ts _ _] e pos) r) hes fun _ _ => asgT_ok K F hu q)
    fun _ q => bE q fun c hc q => subOf_E (M := fun t => XO G O d u A env b₀ T Rs Z Ch h (.Assign [t] e pos) r) hc fun _ _ => asgItem_ok K F hu q
theorem exAug_ok {x : Str} {op : Operator} {xp : Pos} (q : exAug O I st x op e = some r) : XO G O d u A env b₀ T Rs Z Ch h (.AugAssign (.Name x xp) op e pos) r :=
  nE q fun hx q => bE q fun l hl q => by
    cases l with
    | val a => exact bE q fun b hb q => mE (M := XO G O d u A env b₀ T Rs Z Ch h (.AugAssign (.Name x xp) op e pos)) q fun dd hd => augV_ok K F hu (Bool.of_not_eq_false hx) hl hb hd
    | own ds => cases op with
      | Add => exact bE q fun b hb q => by
                 cases b with
                 | list es => exact iS (M := XO G O d u A env b₀ T Rs Z Ch h (.AugAssign (.Name x xp) .Add e pos)) q fun hn => augL_ok K F hu (Bool.of_not_eq_false hx) hl hb hn
                 | _ => exact noE q
      | _ => exact noE q
    | _ => exact noE q
theorem chgL_ok {x m : Str} {ds : List Dat} {as : List Expr} {xp ap p : Pos} (hx : st.get x = some (.own ds)) (hm : methOk (.Name x xp) ap p as = true) (hp : as.all plainE = true) (q : chgL I st x m ds as = some r) : XO G O d u A env b₀ T Rs Z Ch h (.Expr (.Call (.Attribute (.Name x xp) m ap) as [] p) pos) r := by
  cases as with
  | nil => exact noE q
  | cons a as => cases as with
    | nil => exact bE q fun dd hd q => iE q fun hc q => by
               rw [hc.1]
               exact sE (M := XO G O d u A env b₀ T Rs Z Ch h (.Expr (.Call (.Attribute (.Name x xp) (Str.ofString "append") ap) [a] [] p) pos)) q (appendS_ok K F hu hx hm (Bool.and_eq_true_iff.mp hp).1 (ev_evV (st_eq hd)) hc.2)
    | cons b as => cases as with
      | nil => exact bE q fun k hk q => bE q fun dd hd q => iE q fun hc q => by
                 rw [hc.1]
                 have hp := Bool.and_eq_true_iff.mp hp
                 exact sE (M := XO G O d u A env b₀ T Rs Z Ch h (.Expr (.Call (.Attribute (.Name x xp) (Str.ofString "insert") ap) [a, b] [] p) pos)) q (insertS_ok K F hu hx hm hp.1 (Bool.and_eq_true_iff.mp hp.2).1 hk hd hc.2.1 hc.2.2.1 hc.2.2.2)
      | cons _ _ => exact noE q
theorem exIns_ok {f : Str} {l : Expr} {as : List Expr} {p p' p'' : Pos} (q : exIns O I st f l as = some r) : XO G O d u A env b₀ T Rs Z Ch h (.Expr (.Call (.Name f p) as [⟨some (Str.ofString "key"), l, p'⟩] p'') pos) r := by
  cases as with
  | nil => exact noE q
  | cons a as => cases as with
    | nil => exact noE q
    | cons a₂ as => cases as with
      | nil => exact noE q
      | cons a₃ as => cases as with
        | nil => exact noE q
        | cons a₄ as => cases as with
          | nil =>
            refine bE q fun x hx q => iE q fun hc q => nmOf_E (M := fun a => XO G O d u A env b₀ T Rs Z Ch h (.Expr (.Call (.Name f p) [a, a₂, a₃, a₄] [⟨some (Str.ofString "key"), l, p'⟩] p'') pos) r) hx fun px => ?_
            have hp := hc.2
            rw [hc.1] at hp ⊢
            exact bE q fun ds hx q => bE q fun dd hd q => bE q fun lo hlo q => bE q fun hi hhi q => bE q fun g hg q => bE q fun kd hkd q => nE q fun hfl q => bE q fun k hk q => iE q fun hc q => by
              cases q
              exact lamInsort_ok K F hu (own_eq hx) hp.2 hp.1 hd hlo hhi hg hkd (Bool.of_not_eq_false hfl) (int_eq hk) hc.1 hc.2.1 hc.2.2
          | cons _ _ => exact noE q
theorem exExp_ok (q : exExp O I st e = some r) : XO G O d u A env b₀ T Rs Z Ch h (.Expr e pos) r :=
  oM q (fun _ hc q => iE q fun hm q => bE q fun _ hx q => methOf_E (M := fun e => XO G O d u A env b₀ T Rs Z Ch h (.Expr e pos) r) hc (chgL_ok K F hu (own_eq hx) (Bool.and_eq_true_iff.mp hm).1 (Bool.and_eq_true_iff.mp hm).2 q))
    fun _ q => bE q fun c hc q => keyOf_E (M := fun e => XO G O d u A env b₀ T Rs Z Ch h (.Expr e pos) r) hc fun p p' p'' _ => exIns_ok K F hu q
theorem exDel_ok {ts : List Expr} (q : exDel I st ts = some r) : XO G O d u A env b₀ T Rs Z Ch h (.Delete ts pos) r :=
  one_E (M := fun ts => XO G O d u A env b₀ T Rs Z Ch h (.Delete ts pos) r) q fun t q => bE q fun c hc q => bE q fun ds hx q => bE q fun k hk q => bE q fun j hj q => subOf_E (M := fun t => XO G O d u A env b₀ T Rs Z Ch h (.Delete [t] pos) r) hc fun p p' =>
    sE (M := XO G O d u A env b₀ T Rs Z Ch h (.Delete [.Subscript (.Name c.1 p) c.2 p'] pos)) q (delS_ok K F hu (own_eq hx) hk hj)
theorem exIf_ok (K2 : ExsOk G O I) {b o : List Stmt} (q : (tstX O I st e).bind (fun c => if c then I.exs st b else I.exs st o) = some r) : XO G O d u A env b₀ T Rs Z Ch h (.If e b o pos) r :=
  bE q fun c hc q => oM hc (fun f hf hc => iE hc fun hg hc => bE hc fun a ha hc => bE hc fun es hes hc => by
      cases es with
      | list ds => exact bE hc fun g hg' hc => bE hc fun es hs hc => by
                     refine srtOf_E (M := fun e => XO G O d u A env b₀ T Rs Z Ch h (.If e b o pos) r) hf fun p p' p'' q' _ => ?_
                     have hp := hg.2
                     rw [hg.1] at hp ⊢
                     exact lamSorted_ok K K2 F hu hp.1 hp.2 ha hes hg' hs hc q
      | _ => exact noE hc) fun _ hc => if_ok K K2 F hu hc q
theorem exOne_ok (K2 : ExsOk G O I) (W : WhOk G O I) {s : Stmt} (q : exOne O I st s = some r) : XO G O d u A env b₀ T Rs Z Ch h s r := by
  cases s with
  | Assign ts e p => exact exAsg_ok K F hu q
  | AugAssign t op e p => exact bE q fun x hx q => nmOf_E (M := fun t => XO G O d u A env b₀ T Rs Z Ch h (.AugAssign t op e p) r) hx fun _ => exAug_ok K F hu q
  | Expr e p => exact exExp_ok K F hu q
  | Delete ts p => exact exDel_ok K F hu q
  | If t b o p => exact exIf_ok K F hu K2 q
  | While t b o p =>
    exact iE q fun ho q => by
      rw [List.isEmpty_iff.mp ho]
      exact while_ok W F hu q
  | Return e p =>
    exact bE q fun e he q => by
      rw [he]
      exact mE (M := XO G O d u A env b₀ T Rs Z Ch h (.Return (some e) p)) q fun r hr => ret_ok K F hu hr
  | Assert t m p =>
    exact bE q fun c hc q => iE q fun hh q => by
      rw [hh] at hc
      exact sE (M := XO G O d u A env b₀ T Rs Z Ch h (.Assert t m p)) q (assert_ok K F hu hc)
  | _ => exact noE q
theorem exS_ok (K2 : ExsOk G O I) (W : WhOk G O I) {s : Stmt} (q : exS O I st s = some r) : XO G O d u A env b₀ T Rs Z Ch h s r :=
  oM q (fun c hc q => nE q fun hl q => bE q fun ds hds q => forOf_E (M := fun s => XO G O d u A env b₀ T Rs Z Ch h s r) hc fun p p' => by
      obtain ⟨Ch₁, F₁, nx₁⟩ := frz_ok F c.2.1
      intro s Q E es q'
      exact for_ok K K2 F₁ hu (Bool.of_not_eq_false hl) hds q s Q E es fun f Ch' h' tk' nx F' fo => q' f Ch' h' tk' (nx₁.trans nx) F' fo)
    fun _ q => exOne_ok K F hu K2 W q
end
theorem exsS_ok (K : EvOk G O I) (K2 : ExsOk G O I) (W : WhOk G O I) : ExsOk G O (I.step O) := by
  intro d u A env b₀ T Rs Z Ch st h F hu ss fl st' q
  replace q : exsS O I st ss = some (fl, st') := q
  intro s Q E es q'
  cases ss with
  | nil =>
    cases q
    subst es
    exact wpAny_execs_nil (q' .next Ch s.heap s.toks .rfl F rfl)
  | cons a r =>
    refine bE q fun p h1 q => ?_
    obtain ⟨fl₁, st₁⟩ := p
    refine wpAny_execs_cons (exS_ok K F hu K2 W h1 s _ E es fun f Ch₁ h₁ tk₁ nx₁ F₁ fo => ?_)
    cases fl₁ with
    | nx =>
      cases fo
      exact K2 F₁ hu r fl st' q _ Q E rfl fun f Ch₂ h₂ tk₂ nx₂ F₂ fo => q' f Ch₂ h₂ tk₂ (nx₁.trans nx₂) F₂ fo
    | ret v =>
      cases q
      obtain ⟨v', rfl, rt⟩ := fo
      exact q' (.ret v') Ch₁ h₁ tk₁ nx₁ F₁ ⟨v', rfl, rt⟩
theorem whS_ok {n : Nat} (H : ∀ m, m < n → EvOk G O (Itp.at O m) ∧ ExsOk G O (Itp.at O m)) : WhOk G O (Itp.at O n) := by
  intro d u A env b₀ T Rs Z Ch st h F hu t b fl st' q s R es fin
  refine codeAny_whileLoop (fun k s' => ∃ Ch₁ st₁ h₁ tk₁, s' = { s with heap := h₁, toks := tk₁ } ∧ k ≤ n ∧ FS G O d u A env b₀ T Rs Z Ch₁ st₁ h₁ ∧ Nx Ch h Ch₁ h₁ ∧ (Itp.at O k).wh st₁ t b = some (fl, st')) ?_ n ⟨Ch, st, h, s.toks, by rw [← es], Nat.le_refl _, F, .rfl, q⟩
  rintro k s' ⟨Ch₁, st₁, h₁, tk₁, rfl, hk, F₁, nx₁, hq⟩
  cases k with
  | zero => cases hq
  | succ k =>
    obtain ⟨K, K2⟩ := H k (by omega)
    replace hq : whS (Itp.at O k) st₁ t b = some (fl, st') := hq
    refine bE hq fun c hc hq => ?_
    refine tst_ok K F₁.ec hu hc _ _ _ rfl fun c' h₂ tk₂ k₂ r₂ => ?_
    subst r₂
    have F₂ := F₁.grow k₂
    cases c' with
    | true =>
      refine bE hq fun p h1 hq => ?_
      obtain ⟨fl₁, st₂⟩ := p
      refine K2 F₂ hu b fl₁ st₂ h1 _ _ _ rfl fun f Ch₃ h₃ tk₃ nx₃ F₃ fo => ?_
      have nxA := (nx₁.trans (.kp k₂)).trans nx₃
      cases fl₁ with
      | nx =>
        cases fo
        exact ⟨k, Nat.lt_succ_self _, Ch₃, st₂, h₃, tk₃, rfl, by omega, F₃, nxA, hq⟩
      | ret v =>
        cases hq
        obtain ⟨v', rfl, rt⟩ := fo
        exact fin (.ret v') Ch₃ h₃ tk₃ nxA F₃ ⟨v', rfl, rt⟩
    | false =>
      cases hq
      exact wpAny_execs_nil (fin .next Ch₁ h₂ tk₂ (nx₁.trans (.kp k₂)) F₂ rfl)
theorem sound (n : Nat) : EvOk G O (Itp.at O n) ∧ ExsOk G O (Itp.at O n) ∧ WhOk G O (Itp.at O n) := by
  induction n using Nat.strongRecOn with
  | _ n ih =>
    have W : WhOk G O (Itp.at O n) := whS_ok fun m hm => ⟨(ih m hm).1, (ih m hm).2.1⟩
    cases n with
    | zero => exact ⟨(fun _ _ _ _ q => nomatch q), (fun _ _ _ _ _ q => nomatch q), W⟩
    | succ n =>
      obtain ⟨K, K2, W'⟩ := ih n (Nat.lt_succ_self _)
      exact ⟨evS_ok K, exsS_ok K K2 W', W⟩
end
end Mine
end

section
open PySem PySem.W PyProof.Rows Builtin.Str Builtin
namespace Mine
noncomputable def ArgRel (G : Gr) (h : Heap) (b : Str × Value) (p : Str × LV) : Prop :=
  b.1 = p.1 ∧ ((∃ e, p.2 = .val e ∧ DV (AL h) b.2 e) ∨ ∃ g, p.2 = .fn g ∧ IsKey G b.2 g h)
structure ScOk (O : Orc) (sc : Scope) (xs gs : List Str) : Prop where
  kind : sc.kind = .function
  co : sc.isCoroutine = false
  gen : sc.isGenerator = false
  nocell : ∀ p ∈ sc.names, p.2 = .local ∨ p.2 = .globalImplicit
  loc : ∀ x, O.loc x = true → sc.names.lookup x = some .local ∧ (x == ("__debug__" : Str)) = false
  capt : ∀ x, O.capt x = false
  lam : O.lam = false
  pars : ∀ x ∈ xs, sc.names.lookup x = some .local ∧ (x == ("__debug__" : Str)) = false
  glob : ∀ x ∈ gs, sc.names.lookup x = some .globalImplicit ∧ (x == ("__debug__" : Str)) = false
  nodup : xs.Nodup
structure Fns (G : Gr) (O : Orc) (d u : Nat) (h : Heap) : Prop where
  gl : ∀ x e, O.glob x = some e → ∃ v, G.mg x = some v ∧ DV (fun _ _ => False) v e
  fns : ∀ f ds e, O.fn f ds = some e → ∃ v, G.mg f = some v ∧ FnOk v h ∧ Callable G d u v [] (O.fn f) h
  fks : ∀ f ds g e, O.fk f ds g = some e → ∃ v, G.mg f = some v ∧ FnOk v h ∧ KeyTaker G d u v (O.fk f) h
  so : ∀ v, v = Value.builtin "sorted" → ∀ h₁, Kp h h₁ → ∀ q g, IsKey G q g h₁ → Callable G d u v [(Str.ofString "key", q)] (fun | [.list ds] => (O.sorted ds g).map .list | _ => none) h₁
  bi : ∀ x ∈ biNames, G.mg x = none
  bb : ∀ x ∈ biNames, G.mb x = bootBuiltins x
  ins : O.lam = true → ∃ v, G.mg (Str.ofString "insort_left") = some v ∧ FnOk v h ∧ InsOk G O d u v h
section
variable {G : Gr} {O : Orc} {d u : Nat} {A : Around} {h h' : Heap}
theorem Fns.keeps (x : Fns G O d u h) (k : Kp h h') : Fns G O d u h' where
  gl := x.gl
  fns := fun f ds e q => by obtain ⟨v, a, b, c⟩ := x.fns f ds e q; exact ⟨v, a, b.keeps k, c.keeps k⟩
  fks := fun f ds g e q => by obtain ⟨v, a, b, c⟩ := x.fks f ds g e q; exact ⟨v, a, b.keeps k, c.keeps k⟩
  so := fun v e h₁ k₁ => x.so v e h₁ (k.trans k₁)
  bi := x.bi
  bb := x.bb
  ins := fun hl => by
    obtain ⟨v, a, b, c⟩ := x.ins hl
    refine ⟨v, a, b.keeps k, ?_⟩
    intro A h₁ k₁ ctx a vs n ds w e lo hi t1 t2 q g kd kk h1 h2
    exact c A h₁ (k.trans k₁) ctx a vs n ds w e lo hi t1 t2 q g kd kk h1 (none_of_kp k h2)
theorem Fns.base (x : Fns G O d u h) (c : CtxOk G A d u h) : Base G O d u A h := ⟨c, x.gl, x.fns, x.fks, x.so, x.bi, x.bb, x.ins⟩
theorem flat_dvs {P P' : Addr → Obj → Prop} : ∀ {vs : List Value} {ds : List Dat}, ds.all flatD = true → DVs P vs ds → DVs P' vs ds
  | _, _, _, .nil => .nil
  | _, _, hf, .cons x r => by
    rw [List.all_cons, Bool.and_eq_true] at hf
    exact .cons (flat_dv hf.1 x) (flat_dvs hf.2 r)
theorem get_app (a b : LSt) (x : Str) (l : LV) : LSt.get (a ++ b) x = some l → LSt.get a x = some l ∨ (LSt.get a x = none ∧ LSt.get b x = some l) := LSt.get_app a b x l
theorem get_mem : ∀ {a : LSt} {x l}, LSt.get a x = some l → (x, l) ∈ a
  | p :: r, x, l, e => by
    have e : (if p.1 = x then some p.2 else LSt.get r x) = some l := e
    split at e
    · rename_i h; cases e; rw [← h]; exact .head _
    · exact .tail _ (get_mem e)
end
end Mine
end

section
open PySem PySem.W PyProof.Rows Builtin.Str Builtin
namespace Mine
section
variable {G : Gr} {O : Orc} {d u : Nat} {A : Around} {h h' : Heap}
theorem lookup_of_nodup {α : Type} : ∀ {l : List (Str × α)} {x : Str} {v : α}, (l.map (·.1)).Nodup → (x, v) ∈ l → l.lookup x = some v
  | p :: r, x, v, nd, m => by
    rw [List.map_cons, List.nodup_cons] at nd
    rcases List.mem_cons.mp m with rfl | m
    · simp [List.lookup]
    · have : (x == p.1) = false := by
        simp only [beq_eq_false_iff_ne, ne_eq]
        rintro rfl
        exact nd.1 (List.mem_map.mpr ⟨_, m, rfl⟩)
      simp only [List.lookup, this]
      exact lookup_of_nodup nd.2 m
theorem lookup_rev {l : List (Str × Value)} {x : Str} {v : Value} (nd : (l.map (·.1)).Nodup) (m : (x, v) ∈ l) : l.reverse.lookup x = some v :=
  lookup_of_nodup (by rw [List.map_reverse]; exact (List.reverse_perm _).nodup_iff.mpr nd) (List.mem_reverse.mpr m)
theorem args_get : ∀ {binds : List (Str × Value)} {ps : LSt}, All2 (ArgRel G h) binds ps → ∀ x l, (x, l) ∈ ps → ∃ v, (x, v) ∈ binds ∧ ((∃ e, l = .val e ∧ DV (AL h) v e) ∨ ∃ g, l = .fn g ∧ IsKey G v g h)
  | _, _, .nil, _, _, m => nomatch m
  | b :: bs, p :: ps, .cons r rs, x, l, m => by
    rcases List.mem_cons.mp m with e | m
    · obtain ⟨rn, rv⟩ := r
      obtain ⟨bx, bv⟩ := b
      simp only at rn rv
      subst e
      subst rn
      exact ⟨bv, .head _, rv⟩
    · obtain ⟨v, hv, q⟩ := args_get rs x l m
      exact ⟨v, .tail _ hv, q⟩
theorem args_names : ∀ {binds : List (Str × Value)} {ps : LSt}, All2 (ArgRel G h) binds ps → binds.map (·.1) = ps.map (·.1)
  | _, _, .nil => rfl
  | _ :: _, _ :: _, .cons r rs => by rw [List.map_cons, List.map_cons, args_names rs, r.1]
theorem fn_frame {fd : FuncData} {L a : Addr} {xs gs : List Str} {binds : List (Str × Value)} {ps : LSt} (Fn : Fns G O d u h) (hsc : ScOk O fd.scope xs gs) (hg : fd.globals = mainGlobals) (hbu : fd.builtins = builtinsNs)
    (ctx : CtxOk G A d u h) (hab : All2 (ArgRel G h) binds ps) (hx : ps.map (·.1) = xs) (hfn : (∀ p ∈ ps, ∀ f, p.2 ≠ .fn f) ∨ (2 ≤ d ∧ 100 ≤ u)) (k : Kp h h') (hL : h.get? L = none) (hns : h'.Ns L (fun x => binds.reverse.lookup x)) :
    FS G O d u A (callEnv fd L a) h none [L] [] [L] (ps ++ gs.map (·, LV.glo)) h' := by
  have nd : (binds.map (·.1)).Nodup := by rw [args_names hab, hx]; exact hsc.nodup
  have kind : ∀ x, (callEnv fd L a).kindOf x = fd.scope.names.lookup x := fun x => rfl
  have hnoc : ∀ x, (callEnv fd L a).kindOf x ≠ some .cell := fun x e => by
    have := mem_names_of_lookup ((kind x).symm.trans e)
    rcases hsc.nocell _ this with q | q <;> cases q
  have hnof : ∀ x, (callEnv fd L a).kindOf x ≠ some .free := fun x e => by
    have := mem_names_of_lookup ((kind x).symm.trans e)
    rcases hsc.nocell _ this with q | q <;> cases q
  have liveL : ∃ o, h'.get? L = some o := by obtain ⟨o, _, _, g, _⟩ := hns; exact ⟨o, g⟩
  have globs : ∀ {x l}, LSt.get (gs.map (·, LV.glo)) x = some l → x ∈ gs ∧ l = .glo := fun e => by
    obtain ⟨y, hy, e⟩ := List.mem_map.mp (get_mem e)
    cases e
    exact ⟨hy, rfl⟩
  have noheap : ∀ x l, LSt.get (ps ++ gs.map (·, LV.glo)) x = some l → l.heap = false := fun x l e => by
    rcases get_app _ _ _ _ e with e | ⟨_, e⟩
    · obtain ⟨v, _, ⟨e, rfl, _⟩ | ⟨g, rfl, _⟩⟩ := args_get hab x l (get_mem e) <;> rfl
    · rw [(globs e).2]; rfl
  exact
  { hk := hsc.kind, hg := hg, hb := hbu, base := Fn.base ctx, kp := k
    new := fun b m => by
      have : b = L := by simpa using m
      rw [this]; exact hL
    live := fun b m => by
      have : b = L := by simpa using m
      rw [this]; exact liveL
    zc := fun _ m => nomatch m
    nm := fun x l e => by
      rcases get_app _ _ _ _ e with e | ⟨_, e⟩
      · obtain ⟨v, hv, hl⟩ := args_get hab x l (get_mem e)
        have hxx : x ∈ xs := by rw [← hx]; exact List.mem_map.mpr ⟨_, get_mem e, rfl⟩
        obtain ⟨hloc, hdb⟩ := hsc.pars x hxx
        have bnd : Bnd (callEnv fd L a) h' x v := .inl ⟨(kind x).trans hloc, _, hns, lookup_rev nd hv⟩
        refine ⟨hdb, ?_⟩
        rcases hl with ⟨e, rfl, dv⟩ | ⟨g, rfl, ik⟩
        · refine ⟨v, bnd, DV.mono (fun b o y => ⟨k b o y, fun m => ?_⟩) dv⟩
          have : b = L := by simpa using m
          rw [this] at y
          rw [show h.get? L = some o from y] at hL
          cases hL
        · exact ⟨v, bnd, ik⟩
      · obtain ⟨hy, rfl⟩ := globs e
        obtain ⟨hgl, hdb⟩ := hsc.glob x hy
        exact ⟨hdb, (kind x).trans hgl⟩
    cap := fun x l _ _ hc => by rw [hsc.capt x] at hc; cases hc
    kd := fun x f e => by
      rcases hfn with hfn | hfn
      · rcases get_app _ _ _ _ e with e | ⟨_, e⟩
        · exact absurd rfl (hfn _ (get_mem e) f)
        · cases (globs e).2
      · exact hfn
    rs := fun _ m => m
    loc := ⟨.head _, _, hns⟩
    cel := fun x c e => absurd e (hnoc x)
    celi := fun x y c e => absurd e (hnoc x)
    lk := fun x hl => ⟨(hsc.loc x hl).2, .inl ⟨(kind x).trans (hsc.loc x hl).1, hsc.capt x⟩⟩
    nofree := hnof
    tl := fun hl => by rw [hsc.lam] at hl; cases hl
    sep := fun x l b e hh => by rw [noheap x l e] at hh; cases hh
    dis := fun x y l m v e hh => by rw [noheap x l e] at hh; cases hh
    tab := fun _ _ _ e => nomatch e }
end
end Mine
end

section
open PySem PySem.W PyProof.Rows Builtin.Str Builtin
namespace Mine
section
variable {G : Gr} {O : Orc} {d u : Nat} {A : Around} {h h' : Heap}
theorem ctx_deeper {fd : Env} (c : CtxOk G A (d + 1) (u + 3) h) : CtxOk G (A.deeper fd) d u h :=
  ⟨c.g, c.b, c.nl, by have := c.depth; show A.depth + 1 + d < _; omega, by have := c.units; show A.units + 3 + u < _; omega, c.hand⟩
structure FnAt (O : Orc) (h : Heap) (a : Addr) (fd : FuncData) (body : List Stmt) (xs gs : List Str) : Prop where
  ob : ∃ o, h.get? a = some o ∧ o.data = .func fd
  sc : ScOk O fd.scope xs gs
  g : fd.globals = mainGlobals
  b : fd.builtins = builtinsNs
  body : fd.body = .stmts body
  cd : h.CodeRec fd.code fd.qualname
theorem FnAt.keeps {a : Addr} {fd : FuncData} {body : List Stmt} {xs gs : List Str} (x : FnAt O h a fd body xs gs) (k : Kp h h') : FnAt O h' a fd body xs gs :=
  ⟨by obtain ⟨o, e, q⟩ := x.ob; exact ⟨o, k _ _ e, q⟩, x.sc, x.g, x.b, x.body, x.cd.keeps k⟩
theorem fn_call {a : Addr} {fd : FuncData} {body : List Stmt} {xs gs : List Str} {args : Args} {binds : List (Str × Value)} {ps : LSt} {n : Nat} {r : Dat} (Fn : Fns G O d u h) (at_ : FnAt O h a fd body xs gs) (ctx : CtxOk G A (d + 1) (u + 3) h)
    (hbind : ∀ s : Shared, s.heap = h → BindsTo s fd args binds) (hab : All2 (ArgRel G h) binds ps) (hx : ps.map (·.1) = xs) (hfn : (∀ p ∈ ps, ∀ f, p.2 ≠ .fn f) ∨ (2 ≤ d ∧ 100 ≤ u)) (hu : 66 ≤ u)
    (hr : outOf ((Itp.at O n).exs (ps ++ gs.map (·, LV.glo)) body) = some r) :
    Ex G A (call (.ref a) args.pos args.kw) h fun h' v => DV (fun b o => h'.get? b = some o ∧ h.get? b = none) v r := by
  obtain ⟨o, ho, hdata⟩ := at_.ob
  intro s Q E es q
  subst es
  refine wpAny_call (codeAny_call_def (args := args) (by have := ctx.depth; omega) ho hdata ctx.nl at_.cd at_.body (hbind s rfl) (fun x hx' e => ?_) (fun y hy => ?_) (fun h₀ hns k => ?_) at_.sc.co at_.sc.gen at_.sc.kind)
  · rcases at_.sc.nocell x hx' with z | z <;> rw [e] at z <;> cases z
  · have : y.1 ∈ xs := by rw [← hx, ← args_names hab]; exact List.mem_map.mpr ⟨_, hy, rfl⟩
    exact (at_.sc.pars _ this).1
  · have F := fn_frame (A := A.deeper (callEnv fd s.heap.objs.size a)) (a := a) Fn at_.sc at_.g at_.b (ctx_deeper ctx) hab hx hfn k (get?_size _) hns
    unfold outOf at hr
    obtain ⟨⟨fl, st'⟩, hex, hr⟩ := Option.bind_eq_some_iff.mp hr
    refine (sound n).2.1 F hu body fl st' hex _ _ _ rfl fun f Ch' h' tk' nx F' fo => ?_
    have kp : Kp s.heap h' := F'.kp
    cases fl with
    | nx =>
      cases fo
      cases hr
      exact q _ h' tk' kp .none
    | ret rv =>
      obtain ⟨v, rfl, rt⟩ := fo
      cases rv with
      | st e =>
        obtain ⟨hf, hr⟩ := Option.ite_none_right_eq_some.mp hr
        cases hr
        exact q v h' tk' kp (flat_dv hf rt)
      | cur x ds =>
        obtain ⟨hf, hr⟩ := Option.ite_none_right_eq_some.mp hr
        cases hr
        obtain ⟨b, vs, m, rfl, hb, g, rr⟩ := rt
        exact q _ h' tk' kp (.list ⟨g, hb⟩ (flat_dvs hf rr))
      | fn g => cases hr
end
end Mine
end

section
open PySem PySem.W PyProof.Rows Builtin.Str Builtin
namespace Mine
noncomputable def fdOf (P : Params) (a : Addr) : Option FuncData := match (H.hf P).lookup a with
  | some o => match o.data with
    | .func fd => some fd
    | _ => none
  | none => none
theorem fdOf_at {P : Params} {a : Addr} {fd : FuncData} {h : Heap} (X : (H.hf P).In h) (e : fdOf P a = some fd) : ∃ o, h.get? a = some o ∧ o.data = .func fd := by
  unfold fdOf at e
  split at e
  · rename_i o ho
    split at e
    · rename_i hd'
      cases e
      exact ⟨o, X a o ho, hd'⟩
    · cases e
  · cases e
noncomputable def bodyOf (fd : FuncData) : List Stmt := match fd.body with
  | .stmts b => b
  | _ => []
theorem code_of {P : Params} {c : Addr} {q : Str} {h : Heap} (X : (H.hf P).In h) (e : (match (H.hf P).lookup c with | some o => (match o.data with | .fields vs => (match vs[1]? with | some (Value.str x _) => decide (x = q) | _ => false) | _ => false) | none => false) = true) : h.CodeRec (.ref c) q := by
  split at e
  · rename_i o ho
    split at e
    · rename_i vs hv
      split at e
      · rename_i x t hx
        exact ⟨c, o, vs, t, rfl, X c o ho, hv, by rw [hx, of_decide_eq_true e]⟩
      · cases e
    · cases e
  · cases e
end Mine
end

section
open PySem PySem.W PyProof.Rows Builtin.Str Builtin
namespace Mine
noncomputable def mgOf (P : Params) (x : Str) : Option Value := match (H.hf P).lookup mainGlobals with
  | some o => match o.data with
    | .dict es _ => nsFind es x
    | _ => none
  | none => none
theorem mg_at {P : Params} {h : Heap} {mg : Str → Option Value} (X : (H.hf P).In h) (N : h.Ns mainGlobals mg) (x : Str) : mg x = mgOf P x := by
  obtain ⟨o, es, ep, ho, hd', _, hf⟩ := N
  have hs : ((H.hf P).lookup mainGlobals).isSome = true := rfl
  unfold mgOf
  cases e : (H.hf P).lookup mainGlobals with
  | none => rw [e] at hs; cases hs
  | some o' =>
    have := X _ _ e
    rw [ho] at this
    cases this
    dsimp only
    rw [hd']
    exact (hf x).symm
structure Mod (G : Gr) (P : Params) (h : Heap) : Prop where
  X : (H.hf P).In h
  N : h.Ns mainGlobals G.mg
  bb : ∀ x ∈ biNames, G.mb x = bootBuiltins x
section
variable {G : Gr} {P : Params} {h h' : Heap}
theorem Mod.keeps (m : Mod G P h) (k : Kp h h') : Mod G P h' := ⟨m.X.keeps k, m.N.keeps k, m.bb⟩
theorem Mod.mg (m : Mod G P h) (x : Str) : G.mg x = mgOf P x := mg_at m.X m.N x
theorem Mod.bi (m : Mod G P h) : ∀ x ∈ biNames, G.mg x = none := by
  intro x hx
  rw [m.mg x]
  simp only [biNames, List.map_cons, List.map_nil, List.mem_cons, List.not_mem_nil, or_false] at hx
  rcases hx with rfl | rfl | rfl | rfl | rfl | rfl <;> rfl
theorem Mod.gl (m : Mod G P h) : ∀ x e, Mine.gl x = some e → ∃ v, G.mg x = some v ∧ DV (fun _ _ => False) v e := by
  intro x e q
  unfold Mine.gl at q
  split at q
  · rename_i hx
    cases q
    exact ⟨.int 256 191, by rw [m.mg, hx]; rfl, .int _ _⟩
  · split at q
    · rename_i hx
      cases q
      exact ⟨.int 0 189, by rw [m.mg, hx]; rfl, .int _ _⟩
    · split at q
      · rename_i hx
        cases q
        exact ⟨.str (Str.ofString "...") 245, by rw [m.mg, hx]; rfl, .str _ _⟩
      · cases q
theorem locs_ok {xs : List Str} {p : Str → Prop} (h : ∀ x ∈ xs, p x) : ∀ x, locs xs x = true → p x := by
  intro x hx
  unfold locs at hx
  obtain ⟨y, hy, e⟩ := List.any_eq_true.mp hx
  rw [of_decide_eq_true e]
  exact h y hy
structure Good (P : Params) (F : Fnn) (a : Addr) (fd : FuncData) : Prop where
  e : fdOf P a = some fd
  sc : ScOk F.O fd.scope F.pars F.glos
  g : fd.globals = mainGlobals
  b : fd.builtins = builtinsNs
  body : fd.body = .stmts (bodyN F.ix)
  cd : ∀ h, (H.hf P).In h → h.CodeRec fd.code fd.qualname
theorem Good.at {F : Fnn} {a : Addr} {fd : FuncData} (x : Good P F a fd) (m : Mod G P h) : FnAt F.O h a fd (bodyN F.ix) F.pars F.glos :=
  ⟨fdOf_at m.X x.e, x.sc, x.g, x.b, x.body, x.cd _ m.X⟩
theorem zipn_names : ∀ {xs : List Str} {ls : List LV}, ls.length = xs.length → (xs.zip ls).map (·.1) = xs
  | [], [], _ => rfl
  | x :: xs, l :: ls, e => by rw [List.zip_cons_cons, List.map_cons, zipn_names (by simpa using e)]
theorem zip_mem : ∀ {xs : List Str} {ls : List LV} {p : Str × LV}, p ∈ xs.zip ls → p.2 ∈ ls := fun h => (List.of_mem_zip h).2
theorem call_run {F : Fnn} {a : Addr} {fd : FuncData} {d u n : Nat} {A : Around} (Fn : Fns G F.O d u h) (Gd : Good P F a fd) (m : Mod G P h) (ctx : CtxOk G A (d + 1) (u + 3) h) {args : Args} {binds : List (Str × Value)} {ls : List LV} {r : Dat}
    (hbind : ∀ s : Shared, s.heap = h → BindsTo s fd args binds) (hab : All2 (ArgRel G h) binds (F.pars.zip ls)) (hlen : ls.length = F.pars.length) (hfn : (∀ l ∈ ls, ∀ f, l ≠ .fn f) ∨ (2 ≤ d ∧ 100 ≤ u)) (hu : 66 ≤ u) (hr : F.run n ls = some r) :
    Ex G A (call (.ref a) args.pos args.kw) h fun h' v => DV (fun b o => h'.get? b = some o ∧ h.get? b = none) v r :=
  fn_call Fn (Gd.at m) ctx hbind hab (zipn_names hlen) (hfn.imp_left fun h p hp f => h _ (zip_mem hp) f) hu hr
theorem args_rel : ∀ {xs : List Str} {vs : List Value} {ds : List Dat}, ds.length = xs.length → DVs (AL h) vs ds → All2 (ArgRel G h) (xs.zip vs) (xs.zip (ds.map .val))
  | [], _, [], _, .nil => .nil
  | x :: xs, _, d :: ds, e, .cons a r => .cons ⟨rfl, .inl ⟨d, rfl, a⟩⟩ (args_rel (by simpa using e) r)
theorem call_sp {F : Fnn} {a : Addr} {fd : FuncData} {d u n : Nat} (Fn : Fns G F.O d u h) (Gd : Good P F a fd) (m : Mod G P h) (hu : 66 ≤ u) (hb : ∀ vs : List Value, vs.length = F.pars.length → ∀ s, BindsTo s fd ⟨vs, []⟩ (F.pars.zip vs)) :
    Callable G (d + 1) (u + 3) (.ref a) [] (F.sp n) h := by
  intro A h₁ k ctx ds r vs hr hv
  obtain ⟨hl, hr⟩ := Option.ite_none_right_eq_some.mp hr
  exact call_run (args := ⟨vs, []⟩) (Fn.keeps k) Gd (m.keeps k) ctx (fun s _ => hb vs (hv.length.trans hl) s) (args_rel hl hv) (by simpa using hl) (.inl fun l hl f => by obtain ⟨d, _, rfl⟩ := List.mem_map.mp hl; exact fun z => nomatch z) hu hr
end
end Mine
end

section
open PySem PySem.W PyProof.Rows Builtin.Str Builtin
namespace Mine
section
variable {G : Gr} {P : Params} {h h' : Heap}
theorem no_fns {d u : Nat} (m : Mod G P h) {muts loc : List String} : Fns G (orc [] muts loc) d u h where
  gl := m.gl
  fns := fun _ _ _ q => nomatch q
  fks := fun _ _ _ _ q => nomatch q
  so := fun v _ h₁ _ q g _ A₁ h₂ _ _ ds r vs hr => by
    dsimp only at hr
    split at hr
    · cases hr
    · cases hr
  bi := m.bi
  bb := m.bb
  ins := fun q => nomatch q
noncomputable def FnC (G : Gr) (d u : Nat) (h : Heap) (f : Str) (g : List Dat → Option Dat) : Prop := ∃ v, G.mg f = some v ∧ FnOk v h ∧ Callable G d u v [] g h
theorem lookup_mem {α : Type} : ∀ {l : List (Str × α)} {f : Str} {g : α}, l.lookup f = some g → (f, g) ∈ l
  | p :: r, f, g, e => by
    unfold List.lookup at e
    split at e
    · rename_i hp
      cases e
      have : f = p.1 := by simpa using hp
      rw [this]
      exact .head _
    · exact .tail _ (lookup_mem e)
theorem fns_of {d u : Nat} {l : List (Str × (List Dat → Option Dat))} (H : ∀ p ∈ l, FnC G d u h p.1 p.2) : ∀ f ds e, fnsOf l f ds = some e → ∃ v, G.mg f = some v ∧ FnOk v h ∧ Callable G d u v [] (fnsOf l f) h := by
  intro f ds e q
  have hf : fnsOf l f = (match l.lookup f with | some g => g | none => fun _ => none) := by
    funext ds
    unfold fnsOf
    cases l.lookup f <;> rfl
  rw [hf]
  unfold fnsOf at q
  cases hl : l.lookup f with
  | none => rw [hl] at q; cases q
  | some g => exact H _ (lookup_mem hl)
theorem some_fns {d u : Nat} (m : Mod G P h) {fn : List (Str × (List Dat → Option Dat))} {muts loc : List String} (H : ∀ p ∈ fn, FnC G d u h p.1 p.2) : Fns G (orc fn muts loc) d u h where
  gl := m.gl
  fns := fns_of H
  fks := fun _ _ _ _ q => nomatch q
  so := fun v _ h₁ _ q g _ A₁ h₂ _ _ ds r vs hr => by
    dsimp only at hr
    split at hr
    · cases hr
    · cases hr
  bi := m.bi
  bb := m.bb
  ins := fun q => nomatch q
theorem Good.fc {F : Fnn} {a : Addr} {fd : FuncData} {f : Str} {d u : Nat} {g : List Dat → Option Dat} (x : Good P F a fd) (m : Mod G P h) (e : mgOf P f = some (.ref a)) (c : Callable G d u (.ref a) [] g h) : FnC G d u h f g :=
  ⟨_, (m.mg f).trans e, by obtain ⟨o, ho, hd'⟩ := fdOf_at m.X x.e; exact ⟨a, o, fd, rfl, ho, hd'⟩, c⟩
theorem FnC.up {d u d' u' : Nat} {f : Str} {g : List Dat → Option Dat} (x : FnC G d u h f g) (hd : d ≤ d') (hu : u ≤ u') : FnC G d' u' h f g := by
  obtain ⟨v, a, b, c⟩ := x; exact ⟨v, a, b, c.up hd hu⟩
theorem good_term : ∃ fd, Good P fTerm 21 fd :=
  ⟨_, rfl, ⟨rfl, rfl, rfl, by decide, locs_ok (by decide), (fun _ => rfl), rfl, by decide, by decide, by decide⟩, rfl, rfl, rfl, fun _ X => code_of X rfl⟩
theorem good_nont : ∃ fd, Good P fNont 28 fd :=
  ⟨_, rfl, ⟨rfl, rfl, rfl, by decide, locs_ok (by decide), (fun _ => rfl), rfl, by decide, by decide, by decide⟩, rfl, rfl, rfl, fun _ X => code_of X rfl⟩
theorem good_eof : ∃ fd, Good P fEof 35 fd :=
  ⟨_, rfl, ⟨rfl, rfl, rfl, by decide, locs_ok (by decide), (fun _ => rfl), rfl, by decide, by decide, by decide⟩, rfl, rfl, rfl, fun _ X => code_of X rfl⟩
theorem good_bis : ∃ fd, Good P fBis 53 fd :=
  ⟨_, rfl, ⟨rfl, rfl, rfl, by decide, locs_ok (by decide), (fun _ => rfl), rfl, by decide, by decide, by decide⟩, rfl, rfl, rfl, fun _ X => code_of X rfl⟩
theorem good_ell : ∃ fd, Good P fEll 60 fd :=
  ⟨_, rfl, ⟨rfl, rfl, rfl, by decide, locs_ok (by decide), (fun _ => rfl), rfl, by decide, by decide, by decide⟩, rfl, rfl, rfl, fun _ X => code_of X rfl⟩
theorem good_join : ∃ fd, Good P fJoin 65 fd :=
  ⟨_, rfl, ⟨rfl, rfl, rfl, by decide, locs_ok (by decide), (fun _ => rfl), rfl, by decide, by decide, by decide⟩, rfl, rfl, rfl, fun _ X => code_of X rfl⟩
theorem good_spel : ∃ fd, Good P fSpel 72 fd :=
  ⟨_, rfl, ⟨rfl, rfl, rfl, by decide, locs_ok (by decide), (fun _ => rfl), rfl, by decide, by decide, by decide⟩, rfl, rfl, rfl, fun _ X => code_of X rfl⟩
theorem good_side : ∃ fd, Good P fSide 79 fd :=
  ⟨_, rfl, ⟨rfl, rfl, rfl, by decide, locs_ok (by decide), (fun _ => rfl), rfl, by decide, by decide, by decide⟩, rfl, rfl, rfl, fun _ X => code_of X rfl⟩
theorem good_along : ∃ fd, Good P fAlong 86 fd :=
  ⟨_, rfl, ⟨rfl, rfl, rfl, by decide, locs_ok (by decide), (fun _ => rfl), rfl, by decide, by decide, by decide⟩, rfl, rfl, rfl, fun _ X => code_of X rfl⟩
theorem len1 {α : Type} {vs : List α} (h : vs.length = 1) : ∃ a, vs = [a] := by
  match vs, h with
  | [a], _ => exact ⟨a, rfl⟩
theorem len2 {α : Type} {vs : List α} (h : vs.length = 2) : ∃ a b, vs = [a, b] := by
  match vs, h with
  | [a, b], _ => exact ⟨a, b, rfl⟩
theorem len3 {α : Type} {vs : List α} (h : vs.length = 3) : ∃ a b c, vs = [a, b, c] := by
  match vs, h with
  | [a, b, c], _ => exact ⟨a, b, c, rfl⟩
theorem len4 {α : Type} {vs : List α} (h : vs.length = 4) : ∃ a b c d, vs = [a, b, c, d] := by
  match vs, h with
  | [a, b, c, d], _ => exact ⟨a, b, c, d, rfl⟩
theorem c_term (m : Mod G P h) : FnC G 2 73 h (Str.ofString "ISTERMINAL") spTerm := by
  obtain ⟨fd, g⟩ := good_term (P := P)
  refine g.fc m rfl (call_sp (d := 1) (u := 70) (no_fns m) g m (by omega) fun vs hl s => ?_)
  obtain ⟨a, rfl⟩ := len1 hl
  have e := g.e; cases e
  exact BindsTo.of_eq rfl
theorem c_nont (m : Mod G P h) : FnC G 2 73 h (Str.ofString "ISNONTERMINAL") spNont := by
  obtain ⟨fd, g⟩ := good_nont (P := P)
  refine g.fc m rfl (call_sp (d := 1) (u := 70) (no_fns m) g m (by omega) fun vs hl s => ?_)
  obtain ⟨a, rfl⟩ := len1 hl
  have e := g.e; cases e
  exact BindsTo.of_eq rfl
theorem c_eof (m : Mod G P h) : FnC G 2 73 h (Str.ofString "ISEOF") spEof := by
  obtain ⟨fd, g⟩ := good_eof (P := P)
  refine g.fc m rfl (call_sp (d := 1) (u := 70) (no_fns m) g m (by omega) fun vs hl s => ?_)
  obtain ⟨a, rfl⟩ := len1 hl
  have e := g.e; cases e
  exact BindsTo.of_eq rfl
theorem c_ell (m : Mod G P h) : FnC G 2 73 h (Str.ofString "_ellipsis_match") spEll := by
  obtain ⟨fd, g⟩ := good_ell (P := P)
  refine g.fc m rfl (call_sp (d := 1) (u := 70) (no_fns m) g m (by omega) fun vs hl s => ?_)
  obtain ⟨a, b, rfl⟩ := len2 hl
  have e := g.e; cases e
  exact BindsTo.of_eq rfl
theorem c_join (m : Mod G P h) : FnC G 2 73 h (Str.ofString "_law_joined") spJoin := by
  obtain ⟨fd, g⟩ := good_join (P := P)
  refine g.fc m rfl (call_sp (d := 1) (u := 70) (no_fns m) g m (by omega) fun vs hl s => ?_)
  obtain ⟨a, b, rfl⟩ := len2 hl
  have e := g.e; cases e
  exact BindsTo.of_eq rfl
theorem c_spel (m : Mod G P h) : FnC G 3 76 h (Str.ofString "_law_spelled") spSpel := by
  obtain ⟨fd, g⟩ := good_spel (P := P)
  refine g.fc m rfl (call_sp (d := 2) (u := 73) (some_fns m fun p hp => ?_) g m (by omega) fun vs hl s => ?_)
  · rcases List.mem_cons.mp hp with rfl | hp
    · exact c_eof m
    · rcases List.mem_cons.mp hp with rfl | hp
      · exact c_term m
      · cases hp
  · obtain ⟨a, b, rfl⟩ := len2 hl
    have e := g.e; cases e
    exact BindsTo.of_eq rfl
theorem c_side (m : Mod G P h) : FnC G 3 76 h (Str.ofString "_law_side") spSide := by
  obtain ⟨fd, g⟩ := good_side (P := P)
  refine g.fc m rfl (call_sp (d := 2) (u := 73) (some_fns m fun p hp => ?_) g m (by omega) fun vs hl s => ?_)
  · rcases List.mem_cons.mp hp with rfl | hp
    · exact c_nont m
    · cases hp
  · obtain ⟨a, b, c, rfl⟩ := len3 hl
    have e := g.e; cases e
    exact BindsTo.of_eq rfl
theorem c_along (m : Mod G P h) : FnC G 4 79 h (Str.ofString "_law_along") spAlong := by
  obtain ⟨fd, g⟩ := good_along (P := P)
  refine g.fc m rfl (call_sp (d := 3) (u := 76) (some_fns m fun p hp => ?_) g m (by omega) fun vs hl s => ?_)
  · rcases List.mem_cons.mp hp with rfl | hp
    · exact c_side m
    · cases hp
  · obtain ⟨a, b, c, d, rfl⟩ := len4 hl
    have e := g.e; cases e
    exact BindsTo.of_eq rfl
end
end Mine
end

section
open PySem PySem.W PyProof.Rows Builtin.Str Builtin
namespace Mine
section
variable {G : Gr} {P : Params} {h h' : Heap}
theorem fnok_bis (m : Mod G P h) : FnOk (.ref 53) h := by
  obtain ⟨fd, g⟩ := good_bis (P := P)
  obtain ⟨o, ho, hd'⟩ := fdOf_at m.X g.e
  exact ⟨53, o, fd, rfl, ho, hd'⟩
theorem c_bis (m : Mod G P h) : FnC G 2 73 h (Str.ofString "bisect_left") spBis := by
  refine ⟨.ref 53, (m.mg _).trans rfl, fnok_bis m, ?_⟩
  intro A h₁ k ctx ds r vs hr hv
  obtain ⟨fd, g⟩ := good_bis (P := P)
  have m₁ := m.keeps k
  unfold spBis at hr
  split at hr
  · rename_i a x
    cases hv with
    | cons ha hv =>
    cases hv with
    | cons hx hv =>
    cases hv
    rename_i va vx
    obtain ⟨t, hb⟩ : ∃ t, ∀ s : Shared, s.heap = h₁ → BindsTo s fd ⟨[va, vx], []⟩ [(Str.ofString "a", va), (Str.ofString "x", vx), (Str.ofString "lo", .int 0 t), (Str.ofString "hi", .none), (Str.ofString "key", .none)] := by
      have e := g.e; cases e
      exact ⟨_, fun s hs => kp_binds (hs ▸ m₁.X) fun S => rfl⟩
    exact call_run (d := 1) (u := 70) (args := ⟨[va, vx], []⟩) (F := fBis) (no_fns m₁) g m₁ ctx hb
      (.cons ⟨rfl, .inl ⟨_, rfl, ha⟩⟩ (.cons ⟨rfl, .inl ⟨_, rfl, hx⟩⟩ (.cons ⟨rfl, .inl ⟨_, rfl, .int _ _⟩⟩ (.cons ⟨rfl, .inl ⟨_, rfl, .none⟩⟩ (.cons ⟨rfl, .inl ⟨_, rfl, .none⟩⟩ .nil))))) rfl (.inl (by simp)) (by omega) hr
  · cases hr
theorem k_bis (m : Mod G P h) : KeyTaker G 3 103 (.ref 53) spBisK h := by
  intro h₀ k₀ q gk ik A h₁ k ctx ds r vs hr hv
  obtain ⟨fd, g⟩ := good_bis (P := P)
  have m₁ := m.keeps (k₀.trans k)
  have ik₁ := ik.keeps k
  dsimp only at hr
  unfold spBisK at hr
  split at hr
  · rename_i a x lo hi g'
    cases hv with
    | cons ha hv =>
    cases hv with
    | cons hx hv =>
    cases hv with
    | cons hlo hv =>
    cases hv with
    | cons hhi hv =>
    cases hv
    rename_i va vx vlo vhi
    have hb : ∀ s : Shared, s.heap = h₁ → BindsTo s fd ⟨[va, vx, vlo, vhi], [(Str.ofString "key", q)]⟩ [(Str.ofString "a", va), (Str.ofString "x", vx), (Str.ofString "lo", vlo), (Str.ofString "hi", vhi), (Str.ofString "key", q)] := by
      have e := g.e; cases e
      exact fun s hs => kp_binds (hs ▸ m₁.X) fun S => rfl
    exact call_run (d := 2) (u := 100) (args := ⟨[va, vx, vlo, vhi], [(Str.ofString "key", q)]⟩) (F := fBis) (no_fns m₁) g m₁ ctx hb
      (.cons ⟨rfl, .inl ⟨_, rfl, ha⟩⟩ (.cons ⟨rfl, .inl ⟨_, rfl, hx⟩⟩ (.cons ⟨rfl, .inl ⟨_, rfl, hlo⟩⟩ (.cons ⟨rfl, .inl ⟨_, rfl, hhi⟩⟩ (.cons ⟨rfl, .inr ⟨_, rfl, ik₁⟩⟩ .nil))))) rfl (.inr (by omega)) (by omega) hr
  · cases hr
end
end Mine
end

section
open PySem PySem.W PyProof.Rows Builtin.Str Builtin
namespace Mine
noncomputable def oIns : Orc := { orc [] [] ["lo"] with fk := fkLaw }
noncomputable def fIns : Fnn := ⟨7, names ["a", "x", "lo", "hi", "key"], names ["bisect_left"], oIns⟩
section
variable {G : Gr} {P : Params} {h h' : Heap}
theorem good_ins : ∃ fd, Good P fIns 44 fd :=
  ⟨_, rfl, ⟨rfl, rfl, rfl, by decide, locs_ok (by decide), (fun _ => rfl), rfl, by decide, by decide, by decide⟩, rfl, rfl, rfl, fun _ X => code_of X rfl⟩
theorem fks_law {d u : Nat} (m : Mod G P h) (hd : 3 ≤ d) (hu : 103 ≤ u) : ∀ f ds g e, fkLaw f ds g = some e → ∃ v, G.mg f = some v ∧ FnOk v h ∧ KeyTaker G d u v (fkLaw f) h := by
  intro f ds g e q
  unfold fkLaw at q
  split at q
  · rename_i hf
    subst hf
    refine ⟨.ref 53, (m.mg _).trans rfl, fnok_bis m, ?_⟩
    have : fkLaw (Str.ofString "bisect_left") = spBisK := by
      funext ds g
      unfold fkLaw
      rw [if_pos rfl]
    rw [this]
    exact fun h₁ k q g ik => (k_bis m h₁ k q g ik).up hd hu
  · cases q
theorem ins_fns {d u : Nat} (m : Mod G P h) (hd : 3 ≤ d) (hu : 103 ≤ u) : Fns G oIns d u h := let z := no_fns (d := d) (u := u) m (muts := []) (loc := ["lo"]); ⟨z.gl, z.fns, fks_law m hd hu, z.so, z.bi, z.bb, fun q => nomatch q⟩
theorem ins_body {O : Orc} {d u n : Nat} {A : Around} {env : Env} {L a : Addr} {st : LSt} {vs : List Value} {nn : Nat} {w : Value} {k : Int} {xa xx xl : Str} {t f : Expr} {b : List Stmt} {es : List Expr} {kw : List Keyword} {p1 p2 p3 p4 p5 p6 p7 p8 p9 p10 : Pos}
    (F : FS G O d u A env h none [L] [] [L] st h') (hu : 66 ≤ u) (hl : O.loc xl = true) (ba : Bnd env h' xa (.ref a)) (bx : Bnd env h' xx w) (hal : xa ≠ xl) (hxl : xx ≠ xl) (hda : (xa == ("__debug__" : Str)) = false) (hdx : (xx == ("__debug__" : Str)) = false)
    (g : h.get? a = some (listOf vs.toArray nn)) (hlen : vs.length ≤ 4096) (h0 : 0 ≤ k) (hk : k ≤ vs.length)
    (ht : tst (Itp.at O n) st t = some false) (he : evV (Itp.at O n) st (.Call f es kw p2) = some (.int k)) (hm : methOk (.Name xa p6) p7 p10 [.Name xl p8, .Name xx p9] = true) {s : Shared} {Q : Flow → Shared → Prop} {E : Value → Shared → Prop} (hs : s.heap = h')
    (q : ∀ h₂ n' tk, (∀ b o, b ≠ a → h.get? b = some o → h₂.get? b = some o) → h₂.get? a = some (listOf (vs.take k.toNat ++ w :: vs.drop k.toNat).toArray n') → Q .next { s with heap := h₂, toks := tk }) :
    wpAny G.M A (execs [.If t b [.Assign [.Name xl p1] (.Call f es kw p2) p3] p4, .Expr (.Call (.Attribute (.Name xa p6) (Str.ofString "insert") p7) [.Name xl p8, .Name xx p9] [] p10) p5] env) Q E s := by
  have K : EvOk G O (Itp.at O n) := (sound n).1
  refine wpAny_execs_cons (wpAny_If (tst_ok K F.ec hu ht s _ E hs fun c h₁ tk₁ k₁ r₁ => ?_))
  subst r₁
  have F₁ := F.grow k₁
  refine wpAny_execs_cons (wpAny_Assign_Name (evV_ok K F₁.ec hu he _ _ E rfl fun v h₂ tk₂ k₂ r₂ => ?_) rfl)
  cases r₂
  refine (F₁.grow k₂).bind hl (l := .val (.int k)) (BV.val (.int _ _)) rfl fun h₃ tk₃ F₃ nx₃ _ hb₃ bl₃ => ?_
  refine wpAny_execs_nil (wpAny_execs_cons ?_)
  have ba₃ := hb₃ _ _ hal ((ba.keeps k₁).keeps k₂)
  have bx₃ := hb₃ _ _ hxl ((bx.keeps k₁).keeps k₂)
  have g₃ := F₃.kp _ _ g
  have hdl := (F.lk xl hl).1
  refine wpAny_Expr (own_call F₃ hda ba₃ ⟨_, _, g₃⟩ PySem.F.slot_list_insert PySem.F.type_list_insert hm rfl (two_items rfl rfl (R := fun _ v => v = .int k _) (R' := fun _ v => v = w) (fun _ _ _ _ x => x) (fun h₄ k₄ => name_bnd (F₃.ec.keeps k₄) (bl₃.keeps k₄) hdl) fun h₄ k₄ => name_bnd (F₃.ec.keeps k₄) (bx₃.keeps k₄) hdx) rfl fun vs₀ h₄ tk₄ k₄ ⟨v, w', e₁, ev, ew⟩ => ?_) (not_int F₃) rfl
  subst e₁; subst ev; subst ew
  refine insert_own (k₄ _ _ g₃) hlen h0 hk fun h₅ n' g₅ hsb => ?_
  exact wpAny_execs_nil (q h₅ n' _ (fun b o hb e => hsb.extBut b o hb (k₄ _ _ (F₃.kp _ _ e))) g₅)
end
end Mine
end

section
open PySem PySem.W PyProof.Rows Builtin.Str Builtin
namespace Mine
section
variable {G : Gr} {P : Params} {h h' : Heap}
section
variable {O : Orc} {I : Itp} {n : Nat} {st : LSt} {f g x : Str} {p p' p'' p3 : Pos} {as : List Expr} {ds : List Dat} {a b c d : Expr} {e r i j k : Dat} {l : LV}
theorem nm_ev (q : st.get x = some l) (hr : lvO O x l = some (.st r)) : evD (Itp.at O (n + 1)) st (.Name x p) = some r := by
  show ((st.get x).bind (lvO O x)).bind RV.dat = _
  rw [q]
  show (lvO O x l).bind RV.dat = _
  rw [hr]
  rfl
theorem key_ev {kf : Dat → Option Dat} (hf : isGlo st f = true) (hg : st.get g = some (.fn kf)) (ha : argsD (Itp.at O n) st as = some ds) (hk : O.fk f ds kf = some r) : evV (Itp.at O (n + 1)) st (.Call (.Name f p) as [⟨some (Str.ofString "key"), .Name g p', p''⟩] p3) = some r := by
  show (callK O (Itp.at O n) st f as (Str.ofString "key", .Name g p')).bind RV.stv = _
  unfold callK
  rw [if_pos ⟨hf, rfl⟩]
  show ((st.get g).bind _).bind _ = _
  rw [hg]
  show ((argsD (Itp.at O n) st as).bind _).bind _ = _
  rw [ha]
  show ((O.fk f ds kf).map RV.st).bind RV.stv = _
  rw [hk]
  rfl
theorem fn_ev {g : Dat → Option Dat} (hf : st.get f = some (.fn g)) (ha : argsD (Itp.at O n) st as = some [e]) (hg : g e = some r) (hr : flatD r = true) : evD (Itp.at O (n + 1)) st (.Call (.Name f p) as [] p') = some r := by
  show ((st.get f).bind (callN O (Itp.at O n) st f as)).bind RV.dat = _
  rw [hf]
  show ((argsD (Itp.at O n) st as).bind (one1 g)).bind RV.dat = _
  rw [ha]
  show ((g e).bind _).bind _ = _
  rw [hg]
  show (if flatD r then some (RV.st r) else none).bind _ = _
  rw [hr]
  rfl
theorem args1 (hp : [a].all plainE = true) (h1 : evD I st a = some e) : argsD I st [a] = some [e] := by
  unfold argsD
  rw [if_pos hp]
  show (evD I st a).bind _ = _
  rw [h1]
  rfl
theorem args4 (hp : [a, b, c, d].all plainE = true) (h1 : evD I st a = some e) (h2 : evD I st b = some i) (h3 : evD I st c = some j) (h4 : evD I st d = some k) : argsD I st [a, b, c, d] = some [e, i, j, k] := by
  unfold argsD
  rw [if_pos hp]
  simp only [mapO, h1, h2, h3, h4, Option.bind_some]
end
theorem ins_ok {O : Orc} (m : Mod G P h) (hO : O.fk (Str.ofString "bisect_left") = spBisK) : InsOk G O 4 106 (.ref 44) h := by
  intro A h₁ k ctx a vs n ds w e lo hi t1 t2 q g kd kk ha hna hv hw ik hge hfl hbis hlen h0 hk s Q E es fin
  subst es
  have m₁ := m.keeps k
  obtain ⟨fd, Gd⟩ := good_ins (P := P)
  have at_ := Gd.at m₁
  obtain ⟨o, ho, hdata⟩ := at_.ob
  rw [hO] at hbis
  have hb : BindsTo s fd ⟨[.ref a, w, .int lo t1, .int hi t2], [(Str.ofString "key", q)]⟩ [(Str.ofString "a", .ref a), (Str.ofString "x", w), (Str.ofString "lo", .int lo t1), (Str.ofString "hi", .int hi t2), (Str.ofString "key", q)] := by
    have e := Gd.e; cases e
    exact kp_binds m₁.X fun S => rfl
  have hab : All2 (ArgRel G s.heap) [(Str.ofString "a", .ref a), (Str.ofString "x", w), (Str.ofString "lo", .int lo t1), (Str.ofString "hi", .int hi t2), (Str.ofString "key", q)] (fIns.pars.zip [.val (.list ds), .val e, .val (.int lo), .val (.int hi), .fn g]) :=
    .cons ⟨rfl, .inl ⟨_, rfl, .list ha hv⟩⟩ (.cons ⟨rfl, .inl ⟨_, rfl, hw⟩⟩ (.cons ⟨rfl, .inl ⟨_, rfl, .int _ _⟩⟩ (.cons ⟨rfl, .inl ⟨_, rfl, .int _ _⟩⟩ (.cons ⟨rfl, .inr ⟨_, rfl, ik⟩⟩ .nil))))
  refine wpAny_call (codeAny_call_def (args := ⟨[.ref a, w, .int lo t1, .int hi t2], [(Str.ofString "key", q)]⟩) (by have := ctx.depth; omega) ho hdata ctx.nl at_.cd at_.body hb (fun x hx' e => ?_) (fun y hy => ?_) (fun h₀ hns k₀ => ?_) at_.sc.co at_.sc.gen at_.sc.kind)
  · rcases at_.sc.nocell x hx' with z | z <;> rw [e] at z <;> cases z
  · have : y.1 ∈ fIns.pars := by
      have := args_names hab
      rw [show (fIns.pars.zip [LV.val (.list ds), .val e, .val (.int lo), .val (.int hi), .fn g]).map (·.1) = fIns.pars from rfl] at this
      rw [← this]; exact List.mem_map.mpr ⟨_, hy, rfl⟩
    exact (at_.sc.pars _ this).1
  · have F := fn_frame (A := A.deeper (callEnv fd s.heap.objs.size 44)) (a := 44) (ins_fns m₁ (d := 3) (u := 103) (by omega) (by omega)) at_.sc at_.g at_.b (ctx_deeper ctx) hab rfl (.inr (by omega)) k₀ (get?_size _) hns
    have bd : ∀ x v, (x, v) ∈ [(Str.ofString "a", Value.ref a), (Str.ofString "x", w), (Str.ofString "lo", .int lo t1), (Str.ofString "hi", .int hi t2), (Str.ofString "key", q)] → x ∈ fIns.pars → Bnd (callEnv fd s.heap.objs.size 44) h₀ x v := by
      intro x v hm hx
      refine .inl ⟨(at_.sc.pars x hx).1, _, hns, ?_⟩
      refine lookup_rev ?_ hm
      show (names ["a", "x", "lo", "hi", "key"]).Nodup
      decide
    have e' := Gd.e; cases e'
    refine ins_body (n := 20) F (by omega) (by decide) (bd (Str.ofString "a") (.ref a) (by simp) (by decide)) (bd (Str.ofString "x") w (by simp) (by decide)) (by decide) (by decide) (by decide) (by decide) ha (by rw [hv.length]; omega) h0 (by rw [hv.length]; exact hk) rfl ?_ rfl rfl fun h₂ n' tk k₂ g₂ => fin h₂ n' tk k₂ g₂
    clear bd F hns hab hb ho hdata at_ m₁
    have hfk : fkLaw (Str.ofString "bisect_left") [.list ds, kd, .int lo, .int hi] g = some (.int kk) := hbis
    refine key_ev (n := 19) (kf := g) (ds := [.list ds, kd, .int lo, .int hi]) rfl rfl ?_ hfk
    refine args4 rfl (nm_ev (n := 18) (l := .val (.list ds)) rfl rfl) ?_ (nm_ev (n := 18) (l := .val (.int lo)) rfl rfl) (nm_ev (n := 18) (l := .val (.int hi)) rfl rfl)
    exact fn_ev (n := 18) (g := g) (e := e) rfl (args1 rfl (nm_ev (n := 17) (l := .val e) rfl rfl)) hge hfl
end
end Mine
end

section
open PySem PySem.W PyProof.Rows Builtin.Str Builtin
namespace Mine
noncomputable def asksIn {α : Type} (n : Nat) : KasT α → Bool
  | .ret _ => true
  | .ask i j k => decide (i < n) && decide (j < n) && asksIn n (k true) && asksIn n (k false)
theorem eval_wp {α : Type} {cmp : Nat → Nat → (Bool → Shared → Prop) → Shared → Prop} {lt : Nat → Nat → Bool} {n : Nat} {s : Shared} (hc : ∀ i j C, i < n → j < n → C (lt i j) s → cmp i j C s) {G : α → Shared → Prop} :
    ∀ t : KasT α, asksIn n t = true → G (evalT lt t) s → t.kasWp cmp G s
  | .ret _, _, g => g
  | .ask i j k, ha, g => by
    unfold asksIn at ha
    rw [Bool.and_eq_true, Bool.and_eq_true, Bool.and_eq_true] at ha
    refine hc i j _ (of_decide_eq_true ha.1.1.1) (of_decide_eq_true ha.1.1.2) ?_
    have hk : asksIn n (k (lt i j)) = true := by
      cases lt i j
      · exact ha.2
      · exact ha.1.2
    exact eval_wp hc (k (lt i j)) hk g
theorem asks2 : asksIn 2 (kas_sort 2) = true := by decide +kernel
theorem asks3 : asksIn 3 (kas_sort 3) = true := by decide +kernel
theorem asks4 : asksIn 4 (kas_sort 4) = true := by decide +kernel
theorem asks_all {n : Nat} (h2 : 2 ≤ n) (h4 : n ≤ 4) : asksIn n (kas_sort n) = true := by
  obtain rfl | rfl | rfl : n = 2 ∨ n = 3 ∨ n = 4 := by omega
  · exact asks2
  · exact asks3
  · exact asks4
section
variable {prog : Program} {w : World} {A : Around} {s : Shared}
theorem isKd_of {k : Dat} (h : isKd k = true) : ∃ a i, k = .tuple [.str a, .int i] := by
  unfold isKd at h
  split at h
  · exact ⟨_, _, rfl⟩
  · cases h
theorem key_lt {x y : Value} {k k' : Dat} (hx : DV (AL s.heap) x k) (hy : DV (AL s.heap) y k') (ik : isKd k = true) (ik' : isKd k' = true) {C : Bool → Shared → Prop} {E : Value → Shared → Prop} (h : C (keyLt k k') s) : wpAny (model prog w) A (keyLt' (tuples' true) x y) C E s := by
  obtain ⟨a, i, rfl⟩ := isKd_of ik
  obtain ⟨b, j, rfl⟩ := isKd_of ik'
  cases hx with
  | tuple g r =>
  cases hy with
  | tuple g' r' =>
  cases r with
  | cons r1 r =>
  cases r with
  | cons r2 r =>
  cases r
  cases r' with
  | cons r1' r' =>
  cases r' with
  | cons r2' r' =>
  cases r'
  cases r1; cases r2; cases r1'; cases r2'
  rename_i t u t' u'
  refine kat_lt (b := true) g rfl g' rfl ?_
  refine kat_cons (p := .str a _) (q := .str b _) (wpAny_eqBool_str ?_)
  replace h : C (if a = b then decide (i < j) else decide (a.cps.toList < b.cps.toList)) s := h
  by_cases hab : a = b
  · rw [if_pos hab] at h
    rw [decide_eq_true hab]
    refine kat_yes (kat_cons (p := .int i _) (q := .int j _) (wpAny_eqBool_int ?_))
    by_cases hij : i = j
    · subst hij
      rw [beq_self_eq_true]
      refine kat_yes (kat_nil ?_)
      rw [decide_eq_false (Int.lt_irrefl i)] at h
      simpa using h
    · rw [beq_eq_false_iff_ne.mpr hij]
      exact kat_no (kat_one _ _ (lt_int h))
  · rw [if_neg hab] at h
    rw [decide_eq_false hab]
    exact kat_no (oneLt_str h)
theorem key_tups {h : Heap} : ∀ {ks : List Value} {kds : List Dat}, DVs (AL h) ks kds → (∀ k ∈ kds, isKd k = true) → ∃ fs, KatTups h ks fs ∧ fs.length = ks.length ∧ ∀ v ∈ fs, ∃ x t, v = Value.str x t
  | _, _, .nil, _ => ⟨[], KatTups.nil, rfl, fun _ m => nomatch m⟩
  | _, _, .cons a r, hk => by
    obtain ⟨fs, t, hl, hs⟩ := key_tups r fun k m => hk k (.tail _ m)
    obtain ⟨x, i, rfl⟩ := isKd_of (hk _ (.head _))
    cases a with
    | tuple g q =>
    cases q with
    | cons q1 q =>
    cases q1
    refine ⟨_ :: fs, KatTups.cons g rfl rfl (by simp; rfl) t, by simp [hl], fun v m => ?_⟩
    rcases List.mem_cons.mp m with rfl | m
    · exact ⟨_, _, rfl⟩
    · exact hs v m
end
end Mine
end

section
open PySem PySem.W PyProof.Rows Builtin.Str Builtin
namespace Mine
section
variable {G : Gr} {A : Around} {E : Value → Shared → Prop} {s : Shared}
structure SrtAt (b h : Heap) (D kS : Addr) (e1 : Nat) (ks : List Value) (e : Nat) (kds : List Dat) : Prop where
  kp : Kp b h
  d : h.get? D = some (seqObj "list" #[] e1)
  k : h.get? kS = some (seqObj "list" ks.toArray e)
  v : DVs (AL h) ks kds
theorem kd_ne {h h' : Heap} {a : Addr} {xs : Array Value} {n : Nat} (ho : h.get? a = some (seqObj "list" xs n)) (hs : Heap.SameBut a h h') : ∀ {v : Value} {k : Dat}, isKd k = true → DV (AL h) v k → DV (AL h') v k := by
  intro v k hk x
  obtain ⟨y, i, rfl⟩ := isKd_of hk
  cases x with
  | tuple g r =>
  rename_i ad _ _
  have hne : ad ≠ a := by
    rintro rfl
    rw [show h.get? ad = some _ from g] at ho
    have h1 : Value.type "tuple" = Value.type "list" := congrArg Obj.cls (Option.some.inj ho)
    exact absurd (Value.type.inj h1) (by decide)
  refine .tuple ((hs.2 _ hne).trans g) ?_
  cases r with
  | cons r1 r =>
  cases r with
  | cons r2 r =>
  cases r
  cases r1; cases r2
  exact .cons (.str _ _) (.cons (.int _ _) .nil)
theorem kds_ne {h h' : Heap} {a : Addr} {xs : Array Value} {n : Nat} (ho : h.get? a = some (seqObj "list" xs n)) (hs : Heap.SameBut a h h') : ∀ {vs : List Value} {ks : List Dat}, (∀ k ∈ ks, isKd k = true) → DVs (AL h) vs ks → DVs (AL h') vs ks
  | _, _, _, .nil => .nil
  | _, _, hk, .cons x r => .cons (kd_ne ho hs (hk _ (.head _)) x) (kds_ne ho hs (fun k m => hk k (.tail _ m)) r)
theorem kp_same {b h h' : Heap} {a : Addr} (k : Kp b h) (hn : b.get? a = none) (hs : Heap.SameBut a h h') : Kp b h' := fun c o e => (hs.2 c (fun z => by rw [z, hn] at e; cases e)).trans (k c o e)
theorem DVs.snoc {P : Addr → Obj → Prop} : ∀ {vs : List Value} {ds : List Dat} {v : Value} {d : Dat}, DVs P vs ds → DV P v d → DVs P (vs ++ [v]) (ds ++ [d])
  | _, _, _, _, .nil, y => .cons y .nil
  | _, _, _, _, .cons x r, y => .cons x (r.snoc y)
noncomputable def SrtOut (b : Heap) (D : Addr) (out : List Value) (P : Shared → Prop) (s : Shared) : Prop := ∀ h' tk c, Kp b h' → h'.get? D = some (seqObj "list" out.toArray c) → P { s with heap := h', toks := tk }
theorem srt_tail {b : Heap} {D kS : Addr} {e1 e : Nat} {ks out : List Value} {kds : List Dat} {st : SortSt} {P : PySem.Fin → Shared → Prop} (X : SrtAt b s.heap D kS e1 ks e kds) (hD : b.get? D = none) (hK : b.get? kS = none) (hDK : kS ≠ D) (hout : (arrOf st).map (·.2) = List.toArray out) (hz : out.length < 64) (hkz : ks.length < 64) (hf : failedOf st = none)
    (fin : SrtOut b D out (fun s' => P (.done (.ret .none)) s') s) : wpAny G.M A (ksk_tail D false e1 (.ref kS) st) P E s := by
  have s1 := Heap.SameBut.update s.heap kS (Obj.mapSeq fun _ => (#[] : Array Value))
  have na : (s.heap.update kS (Obj.mapSeq fun _ => (#[] : Array Value))).get? D = some (seqObj "list" #[] e1) := (s1.2 D hDK.symm).trans X.d
  have s2 := Heap.SameBut.update (s.heap.update kS (Obj.mapSeq fun _ => (#[] : Array Value))) D (Obj.mapSeq fun _ => List.toArray out)
  obtain ⟨c2, hc2⟩ : ∃ c2, ((s.heap.update kS (Obj.mapSeq fun _ => (#[] : Array Value))).update D (Obj.mapSeq fun _ => List.toArray out)).get? D = some (seqObj "list" (List.toArray out) c2) := ⟨_, get?_update_seq na fun _ => List.toArray out⟩
  unfold ksk_tail
  try dsimp only
  rw [hout]
  refine wpAny_bind (listUpdate_at X.k rfl ?_ (by rw [List.size_toArray, sizeLine_eq]; omega) (Nat.zero_le _))
  refine wpAny_bind (wpAny_letGo ?_)
  refine wpAny_bind (seqEpoch_at na rfl ?_)
  simp only [Bool.false_eq_true, if_false]
  refine wpAny_bind (listUpdate_at na rfl ?_ (Nat.zero_le _) (by rw [List.size_toArray, sizeLine_eq]; omega))
  rw [hf]
  simp only [bne_self_eq_false, Bool.false_eq_true, if_false]
  exact wpAny_pure (fin _ _ c2 (kp_same (kp_same X.kp hK s1) hD s2) hc2)
theorem srt_end {b : Heap} {D kS : Addr} {e1 e : Nat} {ks vs : List Value} {kds : List Dat} {P : PySem.Fin → Shared → Prop} (X : SrtAt b s.heap D kS e1 ks e kds) (hD : b.get? D = none) (hK : b.get? kS = none) (hDK : kS ≠ D) (hkd : ∀ k ∈ kds, isKd k = true) (hl : kds.length = vs.length) (h4 : vs.length ≤ 4)
    (fin : SrtOut b D ((sortIx kds).map fun i => vs.getD i Value.none) (fun s' => P (.done (.ret .none)) s') s) : wpAny G.M A (ksk_end D false vs.toArray e1 (.ref kS) ks.toArray) P E s := by
  have hlk : ks.length = vs.length := X.v.length.trans hl
  unfold ksk_end
  try dsimp only
  simp only [Bool.false_eq_true, if_false]
  by_cases h2 : vs.length < 2
  · have hn2 : vs.toArray.size < 2 := by rw [List.size_toArray]; exact h2
    rw [if_pos hn2, if_pos hn2]
    refine wpAny_bind (wpAny_pure ?_)
    rw [StateT.run_pure]
    refine wpAny_bind (wpAny_pure ?_)
    try dsimp only
    have hs : sortIx kds = List.range vs.length := by unfold sortIx; rw [if_pos (by omega), hl]
    rw [hs] at fin
    refine srt_tail (out := (List.range vs.length).map fun i => vs.getD i Value.none) X hD hK hDK ?_ (by simp; omega) (by omega) rfl fin
    show (ks.toArray.zip vs.toArray).map (·.2) = _
    apply Array.toList_inj.mp
    rw [Array.toList_map, ksk_zip]
    have e1 : (List.zipWith Prod.mk ks vs).map Prod.snd = vs := List.map_snd_zip (by omega)
    have e2 : ((List.range vs.length).map fun i => vs.getD i Value.none) = vs := by
      apply List.ext_getElem
      · simp
      · intro i h1 h2
        simp [h2]
    show (List.zipWith Prod.mk ks vs).map Prod.snd = ((List.range vs.length).map fun i => vs.getD i Value.none)
    rw [e1, e2]
  · have hn2 : ¬ vs.toArray.size < 2 := by rw [List.size_toArray]; exact h2
    rw [if_neg hn2, if_neg hn2]
    obtain ⟨fs, kt, hfl, hfs⟩ := key_tups X.v hkd
    refine wpAny_bind (kat_kind kt (T := .type "str") (by omega) (fun v m => by obtain ⟨x, t, rfl⟩ := hfs v m; exact Looks.of_pure rfl) rfl ?_)
    have hk : (kas_sort vs.length).kasWp (kas_ask G.prog G.w A (tuples' true) ks) (fun p s' => p = evalT (ltAt kds) (kas_sort vs.length) ∧ s' = s) s := by
      refine eval_wp (n := vs.length) (fun i j C hi hj hC => ?_) _ (asks_all (by omega) h4) ⟨rfl, rfl⟩
      have get : ∀ i, i < vs.length → DV (AL s.heap) (ks.getD i Value.none) (kds.getD i .none) ∧ isKd (kds.getD i .none) = true := by
        intro i hi
        have hi' : i < kds.length := by omega
        obtain ⟨v, e1, e2⟩ := X.v.get (List.getElem?_eq_getElem hi')
        have e3 : ks.getD i Value.none = v := by rw [List.getD_eq_getElem?_getD, e1]; rfl
        have e4 : kds.getD i .none = kds[i] := by rw [List.getD_eq_getElem?_getD, List.getElem?_eq_getElem hi']; rfl
        rw [e3, e4]
        exact ⟨e2, hkd _ (List.getElem_mem hi')⟩
      exact key_lt (get i hi).1 (get j hj).1 (get i hi).2 (get j hj).2 hC
    refine wpAny_bind (wpAny_mono (kat_run (Q := fun st' s' => arrOf st' = (evalT (ltAt kds) (kas_sort vs.length)).map (kas_item (ks.toArray.zip vs.toArray)) ∧ (evalT (ltAt kds) (kas_sort vs.length)).size = vs.length ∧ failedOf st' = none ∧ s' = s)
      hlk (by omega) (by omega) (fun p st' s' a1 a2 a3 ⟨a4, a5⟩ => ⟨by rw [← a4]; exact a2, by rw [← a4]; exact a1, a3, a5⟩) hk) ?_ fun _ _ x => x)
    rintro ⟨⟨⟩, st'⟩ s' ⟨har, hsz, hf, rfl⟩
    try dsimp only
    have hs : sortIx kds = (evalT (ltAt kds) (kas_sort vs.length)).toList := by unfold sortIx; rw [if_neg (by omega), hl]
    rw [hs] at fin
    exact srt_tail X hD hK hDK (kat_snds hlk har) (by rw [List.length_map, Array.length_toList, hsz]; omega) (by omega) hf fin
end
end Mine
end

section
open PySem PySem.W PyProof.Rows Builtin.Str Builtin
namespace Mine
section
variable {G : Gr} {A : Around} {E : Value → Shared → Prop} {s : Shared}
theorem keys_len {g : Dat → Option Dat} : ∀ {ds ks : List Dat}, keysOf g ds = some ks → ks.length = ds.length
  | [], ks, e => by cases e; rfl
  | d :: r, ks, e => by
    obtain ⟨k, h1, e⟩ := Option.bind_eq_some_iff.mp e
    obtain ⟨ks', h2, e⟩ := Option.bind_eq_some_iff.mp e
    cases e
    rw [List.length_cons, List.length_cons, keys_len h2]
theorem keys_at {g : Dat → Option Dat} : ∀ {ds ks : List Dat}, keysOf g ds = some ks → ∀ (i : Nat) (d : Dat), ds[i]? = some d → ∃ k, ks[i]? = some k ∧ g d = some k ∧ isKd k = true ∧ flatD d = true
  | [], ks, e, i, d, h => by simp at h
  | x :: r, ks, e, i, d, h => by
    obtain ⟨k, h1, e⟩ := Option.bind_eq_some_iff.mp e
    obtain ⟨ks', h2, e⟩ := Option.bind_eq_some_iff.mp e
    cases e
    obtain ⟨k', h3, h1⟩ := Option.bind_eq_some_iff.mp h1
    split at h1
    · rename_i hc
      cases h1
      rw [Bool.and_eq_true] at hc
      cases i with
      | zero => cases h; exact ⟨_, rfl, h3, hc.1, hc.2⟩
      | succ i => exact keys_at h2 i d (by simpa using h)
    · cases h1
theorem keys_kd {g : Dat → Option Dat} {ds ks : List Dat} (e : keysOf g ds = some ks) : ∀ k ∈ ks, isKd k = true := by
  intro k m
  obtain ⟨i, hi, rfl⟩ := List.getElem_of_mem m
  have hi' : i < ds.length := by rw [← keys_len e]; exact hi
  obtain ⟨k, h1, _, h3, _⟩ := keys_at e i _ (List.getElem?_eq_getElem hi')
  rw [List.getElem?_eq_getElem hi] at h1
  cases h1
  exact h3
theorem srt_rest {b : Heap} {D kS : Addr} {e1 : Nat} {vs : List Value} {ds kds : List Dat} {q : Value} {g : Dat → Option Dat} {P : PySem.Fin → Shared → Prop} (X : SrtAt b s.heap D kS e1 [] 0 []) (hD : b.get? D = none) (hK : b.get? kS = none) (hDK : kS ≠ D) (hks : keysOf g ds = some kds) (hv : DVs (AL b) vs ds) (h4 : vs.length ≤ 4) (ctx : CtxOk G A 2 100 b) (ik : IsKey G q g b)
    (fin : ∀ h tk, Kp b h → SrtOut b D ((sortIx kds).map fun i => vs.getD i Value.none) (fun s' => P (.done (.ret .none)) s') { s with heap := h, toks := tk }) : wpAny G.M A (ksk_rest D q false vs.toArray e1 (.ref kS)) P E s := by
  have hl : kds.length = vs.length := (keys_len hks).trans hv.length.symm
  have hkd := keys_kd hks
  unfold ksk_rest
  refine wpAny_bind (wpAny_rule ?_)
  first
    | rw [List.forIn_toArray]
    | (rw [← Array.forIn_toList]; simp only [List.toList_toArray])
    | rw [← Array.forIn_toList]
  refine wpAny_bind (ksk_fold (fun i s' => ∃ h' tk ks e, s' = { s with heap := h', toks := tk } ∧ SrtAt b h' D kS e1 ks e (kds.take i)) vs 0 s ⟨s.heap, s.toks, [], 0, rfl, by simpa using X⟩ ?step ?done)
  case step =>
    rintro j x s' hx ⟨h', tk, ks, e, rfl, X'⟩
    simp only [Nat.zero_add] at X' ⊢
    have hj : j < vs.length := (List.getElem?_eq_some_iff.mp hx).1
    obtain ⟨d, hd, dv⟩ := hv.getV hx
    obtain ⟨k, hkj, hgk, ikd, _⟩ := keys_at hks j d hd
    have hz : ks.length ≤ 4 := by
      have h1 := X'.v.length
      rw [List.length_take] at h1
      omega
    refine wpAny_bind (wpAny_attempt (ik.2 A h' X'.kp (ctx.keeps X'.kp) d k x hgk (DV.mono (AL.mono X'.kp) dv) _ _ _ rfl fun v h2 tk2 k2 r2 => ?_))
    try dsimp only
    have nk := k2 _ _ X'.k
    have nd := k2 _ _ X'.d
    have s1 := Heap.SameBut.update h2 kS (Obj.mapSeq (·.push v))
    have ea : (List.toArray ks).push v = List.toArray (ks ++ [v]) := by simp
    obtain ⟨c2, hc2⟩ : ∃ c2, (h2.update kS (Obj.mapSeq (·.push v))).get? kS = some (seqObj "list" (List.toArray (ks ++ [v])) c2) := ⟨_, by rw [← ea]; exact get?_update_seq nk (·.push v)⟩
    have ek : kds.take (j + 1) = kds.take j ++ [k] := by rw [List.take_add_one, hkj]; simp
    refine wpAny_bind (listUpdate_at nk rfl ?_ (by rw [List.size_toArray, sizeLine_eq]; omega) (Nat.le_trans (Nat.le_of_eq (Array.size_push ..)) (by rw [List.size_toArray, sizeLine_eq]; omega)))
    refine wpAny_pure ⟨rfl, _, _, ks ++ [v], c2, rfl, kp_same (X'.kp.trans k2) hK s1, (s1.2 D hDK.symm).trans nd, hc2, ?_⟩
    rw [ek]
    exact ((kds_ne nk s1 (fun k m => hkd k (List.mem_of_mem_take m)) (X'.v.mono (AL.mono k2))).snoc (kd_ne nk s1 ikd r2))
  case done =>
    rintro s' ⟨h', tk, ks, e, rfl, X'⟩
    have e3 : kds.take (0 + vs.length) = kds := List.take_of_length_le (by omega)
    rw [e3] at X'
    try dsimp only
    refine wpAny_bind (listItems_at X'.k rfl ?_)
    exact srt_end X' hD hK hDK hkd hl h4 (fin h' tk X'.kp)
theorem srt_tree {b : Heap} {D : Addr} {n : Nat} {vs : List Value} {ds kds : List Dat} {q : Value} {g : Dat → Option Dat} {P : PySem.Fin → Shared → Prop} (kb : Kp b s.heap) (hD : b.get? D = none) (ho : s.heap.get? D = some (seqObj "list" vs.toArray n)) (hks : keysOf g ds = some kds) (hv : DVs (AL b) vs ds) (h4 : vs.length ≤ 4) (ctx : CtxOk G A 2 100 b) (ik : IsKey G q g b)
    (fin : ∀ h tk, Kp b h → SrtOut b D ((sortIx kds).map fun i => vs.getD i Value.none) (fun s' => P (.done (.ret .none)) s') { s with heap := h, toks := tk }) : wpAny G.M A (ksk_tree D q false) P E s := by
  have hd : D < s.heap.objs.size := Heap.lt_size ho
  have s1 := Heap.SameBut.update s.heap D (Obj.mapSeq fun _ => (#[] : Array Value))
  obtain ⟨e1, ho1⟩ : ∃ e1, (s.heap.update D (Obj.mapSeq fun _ => (#[] : Array Value))).get? D = some (seqObj "list" #[] e1) := ⟨_, get?_update_seq ho fun _ => #[]⟩
  have hkS : ((s.heap.update D (Obj.mapSeq fun _ => (#[] : Array Value))).push (seqObj "tuple" vs.toArray 0)).objs.size = s.heap.objs.size + 1 := by rw [size_push', Heap.size_update]
  have kp2 : Kp b (((s.heap.update D (Obj.mapSeq fun _ => (#[] : Array Value))).push (seqObj "tuple" vs.toArray 0)).push (seqObj "list" #[] 0)) := fun c o e => Heap.get?_push_of_some _ (Heap.get?_push_of_some _ (kp_same kb hD s1 c o e))
  have hKb : b.get? (s.heap.objs.size + 1) = none := by
    cases e : b.get? (s.heap.objs.size + 1) with
    | none => rfl
    | some o =>
      have h9 : s.heap.objs.size + 1 < s.heap.objs.size := Heap.lt_size (kb _ _ e)
      exact absurd h9 (by omega)
  unfold ksk_tree
  refine wpAny_bind (listItems_at ho rfl ?_)
  refine wpAny_bind (listUpdate_at ho rfl ?_ (by rw [List.size_toArray, sizeLine_eq]; omega) (Nat.zero_le _))
  refine wpAny_bind (seqEpoch_at ho1 rfl ?_)
  refine wpAny_bind (wpAny_newTuple ?_ (by show vs.length ≤ _; rw [sizeLine_eq]; omega))
  refine wpAny_bind (wpAny_newList ?_ (Nat.zero_le _))
  refine wpAny_holding ?_
  refine srt_rest (s := { s with heap := ((s.heap.update D (Obj.mapSeq fun _ => (#[] : Array Value))).push (seqObj "tuple" vs.toArray 0)).push (seqObj "list" #[] 0) }) (b := b) (D := D) (kS := ((s.heap.update D (Obj.mapSeq fun _ => (#[] : Array Value))).push (seqObj "tuple" vs.toArray 0)).objs.size) (e1 := e1)
    ⟨kp2, Heap.get?_push_of_some _ (Heap.get?_push_of_some _ ho1), Heap.get?_push_size _ rfl, .nil⟩ hD (by rw [hkS]; exact hKb) (by rw [hkS]; exact Nat.ne_of_gt (Nat.lt_succ_of_lt hd)) hks hv h4 ctx ik fin
theorem srt_call {l : Addr} {n : Nat} {vs : List Value} {ds kds : List Dat} {q : Value} {g : Dat → Option Dat} {Q : Value → Shared → Prop} (hl : s.heap.get? l = some (listOf vs.toArray n)) (hks : keysOf g ds = some kds) (hv : DVs (AL s.heap) vs ds) (h4 : vs.length ≤ 4) (ctx : CtxOk G A 2 102 s.heap) (ik : IsKey G q g s.heap)
    (fin : ∀ D h' tk c, Kp s.heap h' → s.heap.get? D = none → h'.get? D = some (seqObj "list" ((sortIx kds).map fun i => vs.getD i Value.none).toArray c) → Q (.ref D) { s with heap := h', toks := tk }) :
    wpAny G.M A (call (.builtin "sorted") [.ref l] [(Str.ofString "key", q)]) Q E s := by
  obtain ⟨⟨qa, qo, qfd, rfl, _, _⟩, _⟩ := id ik
  refine call_function_entry_kw kind_sorted plain_sorted entry_sorted (ksk_s1 _ _) ?_
  unfold Builtin.«sorted»
  refine wpAny_bind (m := checkCount "sorted" 1 1 _) (wpAny_pure ?_)
  refine wpAny_bind (collect_list (vs := vs) ⟨_, hl, rfl, n, rfl⟩ ?_ (by rw [sizeLine_eq]; omega))
  refine wpAny_bind (wpAny_newList ?_ (by rw [sizeLine_eq]; omega))
  have hsz : ((s.heap.push (seqObj "list" #[] 0)).update s.heap.objs.size (Obj.mapSeq (· ++ vs.toArray))).objs.size = s.heap.objs.size + 1 := by
    rw [Heap.size_update, size_push']
  have hoL : (((s.heap.push (seqObj "list" #[] 0)).update s.heap.objs.size (Obj.mapSeq (· ++ vs.toArray))).push (seqObj "list" vs.toArray 0)).get? (s.heap.objs.size + 1) = some (seqObj "list" vs.toArray 0) := by
    rw [← hsz]; exact Heap.get?_push_size _ rfl
  have keep : Kp s.heap (((s.heap.push (seqObj "list" #[] 0)).update s.heap.objs.size (Obj.mapSeq (· ++ vs.toArray))).push (seqObj "list" vs.toArray 0)) := fun b o q => by
    have hlt : b < s.heap.objs.size := Heap.lt_size q
    rw [Heap.get?_push_ne _ _ _ (by rw [hsz]; exact Nat.ne_of_lt (Nat.lt_succ_of_lt hlt)), Heap.get?_update_ne _ _ _ _ (Nat.ne_of_lt hlt), Heap.get?_push_ne _ _ _ (Nat.ne_of_lt hlt)]
    exact q
  have hDn : s.heap.get? (s.heap.objs.size + 1) = none := Heap.get?_none_of_le (Nat.le_succ _)
  show wpAny _ _ _ _ _ { s with heap := ((s.heap.push (seqObj "list" #[] 0)).update s.heap.objs.size (Obj.mapSeq (· ++ vs.toArray))).push (seqObj "list" vs.toArray 0) }
  rw [hsz]
  refine wpAny_bind (wpAny_holding (wpAny_call_entry_kw slot_list_sort ⟨_, hoL, rfl⟩ entry_list_sort ?body (ksk_l1 _ _)))
  case body =>
    show wpAny G.M A.in1.in1 (Builtin.«list.sort» ⟨[.ref (s.heap.objs.size + 1)], [(Str.ofString "key", .ref qa)]⟩) _ _ _
    rw [ksk_t1]
    refine srt_tree (b := s.heap) (s := { s with heap := ((s.heap.push (seqObj "list" #[] 0)).update s.heap.objs.size (Obj.mapSeq (· ++ vs.toArray))).push (seqObj "list" vs.toArray 0) }) keep hDn hoL hks hv h4 (ctx.in1.in1) ik fun h tk kh h' tk' c k' hD' => ⟨_, rfl, ?_⟩
    exact wpAny_pure ⟨_, rfl, fin _ h' tk' c k' hDn hD'⟩
end
end Mine
end

section
open PySem PySem.W PyProof.Rows Builtin.Str Builtin
namespace Mine
section
variable {G : Gr} {P : Params} {h h' : Heap}
theorem sort_rel {P' P'' : Addr → Obj → Prop} {vs : List Value} {ds : List Dat} (hv : DVs P' vs ds) (hf : ∀ (i : Nat) (d : Dat), ds[i]? = some d → flatD d = true) : ∀ ix : List Nat, DVs P'' (ix.map fun i => vs.getD i Value.none) (ix.map fun i => ds.getD i .none)
  | [] => .nil
  | i :: r => by
    refine .cons ?_ (sort_rel hv hf r)
    show DV P'' (vs.getD i Value.none) (ds.getD i .none)
    cases e : ds[i]? with
    | none =>
      have : vs[i]? = none := by
        rw [List.getElem?_eq_none_iff] at e ⊢
        rw [hv.length]; exact e
      rw [List.getD_eq_getElem?_getD, List.getD_eq_getElem?_getD, e, this]
      exact .none
    | some d =>
      obtain ⟨v, e1, e2⟩ := hv.get e
      rw [List.getD_eq_getElem?_getD, List.getD_eq_getElem?_getD, e, e1]
      exact flat_dv (hf i d e) e2
theorem so_law {d u : Nat} (hd : 2 ≤ d) (hu : 102 ≤ u) : ∀ v, v = Value.builtin "sorted" → ∀ h₁, Kp h h₁ → ∀ q g, IsKey G q g h₁ → Callable G d u v [(Str.ofString "key", q)] (fun | [.list ds] => (spSort ds g).map .list | _ => none) h₁ := by
  rintro v rfl h₁ _ q g ik A h₂ k₂ ctx ds r vs hr hv
  dsimp only at hr
  split at hr
  · rename_i es
    obtain ⟨rs, hr1, rfl⟩ := Option.map_eq_some_iff.mp hr
    unfold spSort at hr1
    obtain ⟨kds, hk, hr2⟩ := Option.bind_eq_some_iff.mp hr1
    obtain ⟨h4, hr3⟩ := Option.ite_none_right_eq_some.mp hr2
    cases hr3
    cases hv with
    | cons hl hv =>
    cases hv
    cases hl with
    | list g0 rr =>
    rename_i a vs n
    intro s Q E es' q'
    subst es'
    refine srt_call g0 hk rr (by rw [rr.length, ← keys_len hk]; exact h4) ⟨ctx.g, ctx.b, ctx.nl, by have := ctx.depth; omega, by have := ctx.units; omega, ctx.hand⟩ (ik.keeps k₂) fun D h' tk c k' hn hD => ?_
    refine q' _ h' tk k' (.list ⟨hD, hn⟩ (sort_rel rr (fun i d e => ?_) _))
    obtain ⟨_, _, _, _, hf⟩ := keys_at hk i d e
    exact hf
  · cases hr
theorem InsOk.up {O : Orc} {d u d' u' : Nat} {v : Value} (x : InsOk G O d u v h) (hd : d ≤ d') (hu : u ≤ u') : InsOk G O d' u' v h :=
  fun A h₁ k ctx => x A h₁ k ⟨ctx.g, ctx.b, ctx.nl, by have := ctx.depth; omega, by have := ctx.units; omega, ctx.hand⟩
theorem law_fns (m : Mod G P h) : Fns G oLaw 4 106 h where
  gl := m.gl
  fns := fns_of fun p hp => by
    simp only [List.mem_cons, List.not_mem_nil, or_false] at hp
    rcases hp with rfl | rfl | rfl | rfl | rfl | rfl | rfl | rfl
    · exact (c_spel m).up (by omega) (by omega)
    · exact (c_eof m).up (by omega) (by omega)
    · exact (c_term m).up (by omega) (by omega)
    · exact (c_nont m).up (by omega) (by omega)
    · exact (c_along m).up (by omega) (by omega)
    · exact (c_ell m).up (by omega) (by omega)
    · exact (c_join m).up (by omega) (by omega)
    · exact (c_bis m).up (by omega) (by omega)
  fks := fks_law m (by omega) (by omega)
  so := so_law (by omega) (by omega)
  bi := m.bi
  bb := m.bb
  ins := fun _ => by
    obtain ⟨fd, Gd⟩ := good_ins (P := P)
    obtain ⟨o, ho, hd'⟩ := fdOf_at m.X Gd.e
    refine ⟨.ref 44, (m.mg _).trans rfl, ⟨44, o, fd, rfl, ho, hd'⟩, ins_ok m ?_⟩
    funext ds g
    show fkLaw (Str.ofString "bisect_left") ds g = spBisK ds g
    unfold fkLaw
    rw [if_pos rfl]
end
end Mine
end

section
open PySem PySem.W PyProof.Rows Builtin.Str Builtin
namespace Mine
theorem ad1 (a b : Nat) : a + 1 + b ≠ a := by omega
noncomputable def scopeN (i : Nat) : Scope := (H.defN i).2.2.2
noncomputable def cellNames : List Str := names ["total", "low", "rest", "row", "texts"]
noncomputable def lawEnv (nm : Str) (L fa : Addr) : Env := envOfC nm (scopeN 17) L fa (.ref 90)
theorem law_kind (nm : Str) (L fa : Addr) (x : Str) : (lawEnv nm L fa).kindOf x = (scopeN 17).names.lookup x := rfl
theorem law_cells : ∀ p ∈ (scopeN 17).names, p.2 = .cell → p.1 ∈ cellNames := by decide +kernel
theorem law_nofree : ∀ p ∈ (scopeN 17).names, p.2 ≠ .free := by decide +kernel
theorem law_cellkind : ∀ x ∈ cellNames, (scopeN 17).names.lookup x = some .cell := by decide +kernel
theorem law_celldbg : ∀ x ∈ cellNames, (x == ("__debug__" : Str)) = false := by decide +kernel
theorem law_loc : ∀ x ∈ names ["x", "marks", "total", "low", "pairs", "symbols", "shelf", "pair", "symbol", "words", "whole", "k", "front", "rows", "fits", "back", "made_rows", "rest", "begin", "end", "good", "text", "row", "met", "sign", "texts"],
  (x == ("__debug__" : Str)) = false ∧ (((scopeN 17).names.lookup x = some .local ∧ oLaw.capt x = false) ∨ x ∈ cellNames) := by decide +kernel
theorem law_glo : ∀ x ∈ fLaw.glos, (scopeN 17).names.lookup x = some .globalImplicit ∧ (x == ("__debug__" : Str)) = false := by decide +kernel
theorem law_cs (nm : Str) (L fa : Addr) : (lawEnv nm L fa).cells = [(Str.ofString "texts", L + 1 + 1 + 1 + 1 + 1), (Str.ofString "row", L + 1 + 1 + 1 + 1), (Str.ofString "rest", L + 1 + 1 + 1), (Str.ofString "low", L + 1 + 1), (Str.ofString "total", L + 1)] := rfl
theorem law_capt : ∀ x, oLaw.capt x = true → x ∈ cellNames := by
  refine locs_ok ?_
  decide
noncomputable def lawRs (L : Addr) : List Addr := L :: 88 :: (List.range 5).map fun i => L + 1 + i
noncomputable def lawSt (script : List Int) : LSt := fLaw.pars.zip [LV.val (.list (script.map .int))] ++ fLaw.glos.map (·, LV.glo)
noncomputable def lawT (nm : Str) (L fa : Addr) : Option (Addr × Addr × Str) := some (88, 90, ((lawEnv nm L fa).qual ++ "<lambda>" : Str))
def CellAt (g h : Heap) (L : Addr) : Prop := ∀ i : Nat, i < 5 → ∃ o, h.get? (L + 1 + i) = some o ∧ o.data = .cell none ∧ g.get? (L + 1 + i) = none
theorem law_mem (L : Addr) {i : Nat} (hi : i < 5) : L + 1 + i ∈ lawRs L := .tail _ (.tail _ (List.mem_map.mpr ⟨i, List.mem_range.mpr hi, rfl⟩))
theorem law_out {L a : Addr} (ha : a ∈ lawRs L) : a = L ∨ a = 88 ∨ ∃ i : Nat, i < 5 ∧ L + 1 + i = a :=
  (List.mem_cons.mp ha).imp_right fun ha => (List.mem_cons.mp ha).imp_right fun ha => (List.mem_map.mp ha).imp fun _ z => ⟨List.mem_range.mp z.1, z.2⟩
theorem law_gets {script : List Int} {x : Str} {lv : LV} (e : LSt.get (lawSt script) x = some lv) : (x = Str.ofString "script" ∧ lv = .val (.list (script.map .int))) ∨ (x ∈ fLaw.glos ∧ lv = .glo) := by
  rcases get_app _ _ _ _ e with e | ⟨_, e⟩
  · cases List.mem_singleton.mp (get_mem e)
    exact .inl ⟨rfl, rfl⟩
  · obtain ⟨y, hy, e⟩ := List.mem_map.mp (get_mem e)
    cases e
    exact .inr ⟨hy, rfl⟩
theorem law_lookup {nm : Str} {L fa : Addr} {x : Str} (e : (lawEnv nm L fa).kindOf x = some .cell) : ∃ i : Nat, i < 5 ∧ cellNames[i]? = some x ∧ (lawEnv nm L fa).cells.lookup x = some (L + 1 + i) := by
  have h := law_cells _ (mem_names_of_lookup e) rfl
  rw [law_cs]
  cases h with
  | head => exact ⟨0, by decide, rfl, rfl⟩
  | tail _ h => cases h with
    | head => exact ⟨1, by decide, rfl, rfl⟩
    | tail _ h => cases h with
      | head => exact ⟨2, by decide, rfl, rfl⟩
      | tail _ h => cases h with
        | head => exact ⟨3, by decide, rfl, rfl⟩
        | tail _ h => cases List.mem_singleton.mp h; exact ⟨4, by decide, rfl, rfl⟩
section
variable {G : Gr} {P : Params} {g h : Heap} {A : Around} {L fa l : Addr} {nm : Str} {script : List Int} {vs : List Value} {n : Nat} {m : Str → Option Value} {w0 w1 w2 w3 w4 : Obj}
theorem ints_dvs {P' : Addr → Obj → Prop} {vs : List Value} {ns : List Int} (h : IntsAre vs ns) : DVs P' vs (ns.map .int) := by
  induction h with
  | nil => exact .nil
  | cons n t _ ih => exact .cons (.int n t) ih
theorem law_cell (N : News g L h [(L + 1 + 1 + 1 + 1 + 1, w4), (L + 1 + 1 + 1 + 1, w3), (L + 1 + 1 + 1, w2), (L + 1 + 1, w1), (L + 1, w0), (88, tabObj #[])])
    (c4 : w4.data = .cell none) (c3 : w3.data = .cell none) (c2 : w2.data = .cell none) (c1 : w1.data = .cell none) (c0 : w0.data = .cell none) : CellAt g h L := by
  have N4 := N _ (.head _)
  have N3 := N _ (.tail _ (.head _))
  have N2 := N _ (.tail _ (.tail _ (.head _)))
  have N1 := N _ (.tail _ (.tail _ (.tail _ (.head _))))
  have N0 := N _ (.tail _ (.tail _ (.tail _ (.tail _ (.head _)))))
  intro i hi
  cases i with
  | zero => exact ⟨w0, N0.1, c0, N0.2.2⟩
  | succ i => cases i with
    | zero => exact ⟨w1, N1.1, c1, N1.2.2⟩
    | succ i => cases i with
      | zero => exact ⟨w2, N2.1, c2, N2.2.2⟩
      | succ i => cases i with
        | zero => exact ⟨w3, N3.1, c3, N3.2.2⟩
        | succ i => cases i with
          | zero => exact ⟨w4, N4.1, c4, N4.2.2⟩
          | succ i => exact absurd hi (Nat.not_lt_of_le (Nat.le_add_left 5 i))
theorem law_frame (M : Mod G P g) (ctx : CtxOk G A 4 106 g) (C : CodeHd g 90 88) (hbi : g.BuiltinsAt G.mg 88) (hgP : mainGlobals ≠ 88) (hl88 : 88 < L)
    (hl : g.get? l = some (listOf vs.toArray n)) (hi : IntsAre vs script) (F : Fr g L h m) (hm : m (Str.ofString "script") = some (.ref l))
    (n88 : h.get? 88 = some (tabObj #[]) ∧ g.get? 88 = none) (cell : CellAt g h L) :
    FS G oLaw 4 106 A (lawEnv nm L fa) g (lawT nm L fa) (lawRs L) [] (lawRs L) (lawSt script) h := by
  have newA : ∀ a ∈ lawRs L, g.get? a = none := by
    intro a ha
    rcases law_out ha with rfl | rfl | ⟨i, hi, rfl⟩
    · exact Heap.get?_none_of_le F.above
    · exact n88.2
    · obtain ⟨_, _, _, q⟩ := cell i hi; exact q
  have hF : Fns G oLaw 4 106 g := law_fns M
  exact
  { hk := rfl, hg := rfl, hb := rfl, base := hF.base ctx, kp := F.keep
    new := newA
    live := fun a ha => by
      rcases law_out ha with rfl | rfl | ⟨i, hi, rfl⟩
      · obtain ⟨o, _, _, e, _⟩ := F.ns; exact ⟨o, e⟩
      · exact ⟨_, n88.1⟩
      · obtain ⟨o, q, _⟩ := cell i hi; exact ⟨o, q⟩
    zc := fun _ hm => nomatch hm
    nm := fun x lv e => by
      rcases law_gets e with ⟨rfl, rfl⟩ | ⟨hy, rfl⟩
      · refine ⟨by decide, .ref l, .inl ⟨rfl, m, F.ns, hm⟩, DV.list (vs := vs) (n := n) ⟨F.keep _ _ hl, fun hmem => ?_⟩ (ints_dvs hi)⟩
        have := newA l hmem
        rw [hl] at this; cases this
      · exact ⟨(law_glo x hy).2, (law_glo x hy).1⟩
    cap := fun x lv e hg hc => by
      rcases law_gets e with ⟨rfl, rfl⟩ | ⟨hy, rfl⟩
      · exact absurd hc (by decide)
      · exact absurd rfl hg
    kd := fun x f e => by
      rcases law_gets e with ⟨rfl, e⟩ | ⟨hy, e⟩ <;> cases e
    rs := fun _ hm => hm
    loc := ⟨.head _, _, F.ns⟩
    cel := fun x c e1 e2 => by
      obtain ⟨i, hi, _, e⟩ := law_lookup e1
      cases e.symm.trans e2
      obtain ⟨o, q1, q2, _⟩ := cell i hi
      exact ⟨law_mem L hi, ad1 L i, none, o, q1, q2⟩
    celi := fun x y c e1 e2 e3 e4 => by
      obtain ⟨i, hi, q1, e⟩ := law_lookup e1
      obtain ⟨j, hj, q2, e'⟩ := law_lookup e2
      cases Nat.add_left_cancel (Option.some.inj ((e.symm.trans e3).trans (e'.symm.trans e4).symm))
      exact Option.some.inj (q1.symm.trans q2)
    lk := fun x hx => by
      have := locs_ok law_loc x hx
      refine ⟨this.1, this.2.imp (fun z => z) fun z => ?_⟩
      obtain ⟨i, _, _, e⟩ := law_lookup (nm := nm) (L := L) (fa := fa) (law_cellkind x z)
      exact ⟨law_cellkind x z, _, e⟩
    nofree := fun x e => law_nofree _ (mem_names_of_lookup e) rfl
    tl := fun _ => ⟨88, 90, rfl⟩
    sep := fun x lv a e hh => by
      rcases law_gets e with ⟨rfl, rfl⟩ | ⟨hy, rfl⟩ <;> cases hh
    dis := fun x y lv mv v e hh => by
      rcases law_gets e with ⟨rfl, rfl⟩ | ⟨hy, rfl⟩ <;> cases hh
    tab := fun P' c' q' e => by
      cases e
      refine ⟨.tail _ (.head _), Nat.ne_of_lt hl88, fun x c' e1 e2 => ?_, rfl, C, hbi, hgP, #[], n88.1, trivial, fun pos cv e => nomatch e⟩
      obtain ⟨i, hi, _, e⟩ := law_lookup e1
      cases e.symm.trans e2
      exact Nat.ne_of_gt (Nat.lt_of_lt_of_le hl88 (Nat.le_trans (Nat.le_add_right L 1) (Nat.le_add_right _ i))) }
end
end Mine
end

section
open PySem PySem.W PyProof.Rows Builtin.Str Builtin
namespace Mine
section
variable {G : Gr} {P : Params} {g h : Heap} {A : Around} {L fa l : Addr} {nm : Str} {script : List Int}
theorem law_run {T : Option (Addr × Addr × Str)} {Rs Ch : List Addr} (F : FS G oLaw 4 106 A (lawEnv nm L fa) g T Rs [] Ch (lawSt script) h) (hT : ∃ q, T = some (88, 90, q))
    (hr : spLaw script = some (.bool true)) {s : Shared} {Q : Flow → Shared → Prop} {E : Value → Shared → Prop} (hs : s.heap = h)
    (q : ∀ h' tk, Kp g h' → GrownAll [(90, 88)] h' → Q (.ret (.bool true)) { s with heap := h', toks := tk }) :
    wpAny G.M A (execs (bodyN 17) (lawEnv nm L fa)) Q E s := by
  unfold spLaw Fnn.run outOf at hr
  obtain ⟨⟨fl, st'⟩, hex, hr⟩ := Option.bind_eq_some_iff.mp hr
  refine (sound 100).2.1 F (by omega) _ fl st' hex s Q E hs fun f Ch' h' tk' nx F' fo => ?_
  obtain ⟨qq, rfl⟩ := hT
  have hg : GrownAll [(90, 88)] h' := by
    obtain ⟨_, _, _, _, _, _, _, ps, e, _⟩ := F'.tab 88 90 qq rfl
    exact ⟨⟨ps, e⟩, trivial⟩
  cases fl with
  | nx => cases hr
  | ret rv =>
    obtain ⟨v, rfl, rt⟩ := fo
    cases rv with
    | st e =>
      obtain ⟨hf, hr⟩ := Option.ite_none_right_eq_some.mp hr
      cases hr
      cases rt
      exact q h' tk' F'.kp hg
    | cur x ds =>
      obtain ⟨hf, hr⟩ := Option.ite_none_right_eq_some.mp hr
      cases hr
    | fn g => cases hr
end
end Mine
end

section
open PySem PySem.W PyProof.Rows Builtin.Str Builtin
set_option maxHeartbeats 8000000
namespace Mine
theorem well_list {P : Params} {h : Heap} {l : Addr} {vs : List Value} {ns : List Int} (w : Well P h (.ref l) (ofPy (.list (ns.map .int)))) (hl : h.IsList l vs.toArray) : h.get? l = some (listOf vs.toArray 0) := by
  have e : ∃ xs, ofPy (PyData.list (ns.map .int)) = .list xs := ⟨_, rfl⟩
  obtain ⟨xs, e⟩ := e
  rw [e] at w
  cases w with
  | list g r =>
    obtain ⟨o, h1, h2, k, h3⟩ := hl
    rw [g] at h1
    cases h1
    injection h3 with h3 h4
    rw [g, h3]
theorem hdep : callerA.depth + 1 + 4 < recursionLimit := by decide +kernel
theorem huni : callerA.units + 3 + 106 < cLine := by decide +kernel
theorem law_post (script : List Int) : PySem.Challenge.rw_rw0029_01.row.claim.post [ofPy (PyData.list (List.map PyData.int script))] (WData.bool true) [ofPy (PyData.list (List.map PyData.int script))] = true := by
  refine postW_of (X := true) rfl ?_ rfl
  simp [PySem.Challenge.rw_rw0029_01, OpenLaw.row, WTm.value]
  first | rfl | decide +kernel | simp [same]
theorem law_holds (H : ∀ script : List Int, script.length ≤ 63 → spLaw script = some (.bool true)) : PySem.Challenge.rw_rw0029_01.Holds := by
  refine Mine.H.hd ?_
  k_go0
  rename_i w s0 s1 mg mb G0 Y0 fa o pm doc ho hg X0 V0 T0 B0 TE TW hcd script hs hlay0 hL1 hr1 hl2 as1 as2 l vs as3 hL ra w1 r0 hI hr hc1 hc2 hD h1 tk1 w4 w3 w2 w1' w0 c4 c3 c2 c1 c0 cells X T K F N l0
  have hlen : script.length ≤ 63 := by omega
  have hl : s1.heap.get? l = some (listOf vs.toArray 0) := well_list w1 hL
  have n88 := N (88, tabObj #[]) (by simp)
  have hlg : (ghostOf s1.heap [(90, 88)]).get? l = some (listOf vs.toArray 0) := by
    obtain ⟨o', q1, _⟩ := lifted
    have q2 := F.keep _ _ q1
    refine ghost_ne hl fun hm => ?_
    have : l = 88 := by simpa using hm
    rw [this, n88.2.2] at q1
    cases q1
  refine law_run (G := ⟨PySem.Challenge.rw_rw0029_01.row.prog, w, mg, mb⟩) (nm := Str.ofString "law") (L := s1.heap.objs.size) (fa := fa) (s := { s1 with heap := h1, toks := tk1 })
    (law_frame (G := ⟨PySem.Challenge.rw_rw0029_01.row.prog, w, mg, mb⟩) (P := w.params) (l := l) (vs := vs) (n := 0) ⟨X, T.g, fun x hx => T.builtins x ?_⟩ ⟨T.g, T.b, T.nolimit, ?_, ?_, rfl⟩ codeHd ?_ (by decide) l0 hlg hI F ?_ ⟨n88.1, n88.2.2⟩ (law_cell N c4 c3 c2 c1 c0)) ⟨_, rfl⟩ (H script hlen) rfl fun h' tk kp hgr => ?_
  · rintro rfl
    revert hx
    decide
  · exact hdep
  · exact huni
  · obtain ⟨bm, ob, b1, b2, b3, b4, b5, b6⟩ := T.bmain
    refine ⟨bm, ob, b1, b2, fun q => ?_, fun q => ?_, b3, b4, b5, b6⟩
    · obtain ⟨o, es, ep, e, hd', _⟩ := T.g
      rw [q, e] at b3; cases b3; rw [hd'] at b6; cases b6
    · rw [q, n88.2.2] at b3; cases b3
  · rfl
  · exact ⟨⟨.inl ⟨.bool true, .bool true, [], rfl, fun _ => rfl, .bool _, law_post script, fun _ => ⟨List.nodup_nil, fun _ m => nomatch m⟩⟩, kp, rfl, hg⟩, hgr⟩
end Mine
end

section
open PySem PySem.W PyProof.Rows Builtin.Str
namespace Mine
structure Tg {α β : Type} (f : α → Option β) : Type where
noncomputable def bnd {α β : Type} (x : Option α) (f : α → Option β) (_ : Tg f := ⟨⟩) : Option β := x.bind f
@[simp] theorem bnd_some {α β : Type} (a : α) (f : α → Option β) (t : Tg f) : bnd (some a) f t = f a := rfl
@[simp] theorem bnd_none {α β : Type} (f : α → Option β) (t : Tg f) : bnd none f t = none := rfl
section
variable {α β : Type} (O : Orc) (n : Nat) (I : Itp) (st : LSt) (x y z : Str) (a b : Dat) (i j : Int) (X Y : Str) (ds es : List Dat) (e e₁ e₂ e₃ f v l r : Expr) (as rs : List Expr) (p q q' q'' q3 q4 : Pos) (k k' : Nat) (c : Const) (op : Operator) (cop : CmpOp) (bop : BoolOp) (uop : UnaryOp) (kw : List Keyword) (lo hi : Option Expr) (gens : List Comprehension) (sc : Scope) (g : Dat → Option Dat) (m : Str) (B B' : List Stmt) (cops : List CmpOp)
@[simp] theorem mapO_n (f : α → Option β) : mapO f [] = some [] := rfl
@[simp] theorem mapO_c (f : α → Option β) (a : α) (r : List α) : mapO f (a :: r) = bnd (f a) fun b => bnd (mapO f r) fun bs => some (b :: bs) := rfl
@[simp] theorem dat_st : (RV.st a).dat = some a := rfl
@[simp] theorem dat_cur : (RV.cur x ds).dat = some (.list ds) := rfl
@[simp] theorem stv_st : (RV.st a).stv = some a := rfl
@[simp] theorem stO_st : stO (RV.st a) = some a := rfl
@[simp] theorem intO_i : intO (.int i) = some i := rfl
@[simp] theorem strO_s : strO (.str x) = some x := rfl
@[simp] theorem boolO_b (b : Bool) : boolO (.bool b) = some b := rfl
@[simp] theorem ownO_o : ownO (.own ds) = some ds := rfl
@[simp] theorem fnOfL_f : fnOfL (.fn g) = some g := rfl
@[simp] theorem listO_l : listO (.list ds) = if ds.length ≤ 4096 then some ds else none := rfl
@[simp] theorem listO_s : listO (.str x) = if x.length ≤ 4096 then some (signs x) else none := rfl
@[simp] theorem evD' : evD I st e = bnd (I.ev st e) RV.dat := rfl
@[simp] theorem evV' : evV I st e = bnd (I.ev st e) RV.stv := rfl
@[simp] theorem evI' : evI I st e = bnd (bnd (I.ev st e) RV.dat) intO := rfl
@[simp] theorem evOI_n : evOI I st none = some none := rfl
@[simp] theorem evOI_s : evOI I st (some e) = (evI I st e).map some := rfl
@[simp] theorem lvO_v : lvO O x (.val a) = some (.st a) := rfl
@[simp] theorem lvO_o : lvO O x (.own ds) = some (.cur x ds) := rfl
@[simp] theorem lvO_f : lvO O x (.fn g) = some (.fn g) := rfl
@[simp] theorem lvO_g : lvO O x .glo = (O.glob x).map .st := rfl
@[simp] theorem binop_ii : binop .Add (.int i) (.int j) = some (.int (i + j)) := rfl
@[simp] theorem binop_ss : binop .Add (.str X) (.str Y) = if X.length + Y.length ≤ 4096 then some (.str (X ++ Y)) else none := rfl
@[simp] theorem binop_ll : binop .Add (.list ds) (.list es) = if ds.length + es.length ≤ 4096 then some (.list (ds ++ es)) else none := rfl
@[simp] theorem binop_s : binop .Sub (.int i) (.int j) = some (.int (i - j)) := rfl
@[simp] theorem binop_m : binop .Mod (.int i) (.int j) = if 0 < j then some (.int (i % j)) else none := rfl
@[simp] theorem binop_d : binop .FloorDiv (.int i) (.int j) = if 0 < j ∧ j ≤ 1000000 then some (.int (i / j)) else none := rfl
@[simp] theorem binop_p : binop .Pow (.int i) (.int j) = if 0 ≤ j ∧ j ≤ 8 ∧ 0 < i ∧ i ≤ 10 then some (.int (i ^ j.toNat)) else none := rfl
@[simp] theorem augop_ii : augop .Add (.int i) (.int j) = some (.int (i + j)) := rfl
@[simp] theorem augop_ss : augop .Add (.str X) (.str Y) = if X.length + Y.length ≤ 4096 then some (.str (X ++ Y)) else none := rfl
@[simp] theorem augop_s : augop .Sub (.int i) (.int j) = some (.int (i - j)) := rfl
@[simp] theorem cmp_lt : cmpop .Lt (.int i) (.int j) = some (decide (i < j)) := rfl
@[simp] theorem cmp_lts : cmpop .Lt (.str X) (.str Y) = some (decide (X.cps.toList < Y.cps.toList)) := rfl
@[simp] theorem cmp_le : cmpop .LtE (.int i) (.int j) = some (decide (i ≤ j)) := rfl
@[simp] theorem cmp_gt : cmpop .Gt (.int i) (.int j) = some (decide (j < i)) := rfl
@[simp] theorem cmp_ge : cmpop .GtE (.int i) (.int j) = some (decide (j ≤ i)) := rfl
@[simp] theorem cmp_eq : cmpop .Eq (.int i) (.int j) = some (decide (i = j)) := rfl
@[simp] theorem cmp_eqs : cmpop .Eq (.str X) (.str Y) = some (decide (X = Y)) := rfl
@[simp] theorem cmp_eql : cmpop .Eq (.list ds) (.list es) = if okL ds && okL es then some (deq 8 (.list ds) (.list es)) else none := rfl
@[simp] theorem cmp_ne : cmpop .NotEq (.int i) (.int j) = some !decide (i = j) := rfl
@[simp] theorem cmp_nes : cmpop .NotEq (.str X) (.str Y) = some !decide (X = Y) := rfl
@[simp] theorem cmp_nel : cmpop .NotEq (.list ds) (.list es) = notO (if okL ds && okL es then some (deq 8 (.list ds) (.list es)) else none) := rfl
@[simp] theorem cmp_ins : cmpop .In (.str X) (.str Y) = some (strIn X Y) := rfl
@[simp] theorem cmp_inl : cmpop .In a (.list ds) = if okD 6 a && okL ds then some (ds.any (deq 8 a)) else none := by cases a <;> rfl
@[simp] theorem cmp_nis : cmpop .NotIn (.str X) (.str Y) = some !strIn X Y := rfl
@[simp] theorem cmp_nil : cmpop .NotIn a (.list ds) = notO (if okD 6 a && okL ds then some (ds.any (deq 8 a)) else none) := by cases a <;> rfl
@[simp] theorem cmp_isn : cmpop .Is a .none = some (noneD a) := rfl
@[simp] theorem cmp_isb (u w : Bool) : cmpop .Is (.bool u) (.bool w) = some (u == w) := rfl
@[simp] theorem cmp_inb (u w : Bool) : cmpop .IsNot (.bool u) (.bool w) = some !(u == w) := rfl
@[simp] theorem notO_s (u : Bool) : notO (some u) = some !u := rfl
@[simp] theorem noneD_n : noneD .none = true := rfl
@[simp] theorem noneD_s : noneD (.str x) = false := rfl
@[simp] theorem noneD_i : noneD (.int i) = false := rfl
@[simp] theorem noneD_l : noneD (.list ds) = false := rfl
@[simp] theorem cmpR_s : cmpR cop (.st a) b = cmpop cop a b := rfl
@[simp] theorem cmpR_c : cmpR cop (.cur x ds) b = cmpop cop (.list ds) b := rfl
@[simp] theorem cmpR_f : cmpR .Is (.fn g) .none = some false := rfl
@[simp] theorem cmpE_1 : cmpE I st l cop (.Name z q) = bnd (I.ev st l) fun a => bnd (evD I st (.Name z q)) fun b => cmpR cop a b := rfl
@[simp] theorem cmpE_2 : cmpE I st l cop (.Constant c k q) = bnd (I.ev st l) fun a => bnd (evD I st (.Constant c k q)) fun b => cmpR cop a b := rfl
@[simp] theorem cmpE_3 : cmpE I st l cop (.Subscript v e q) = bnd (I.ev st l) fun a => bnd (evD I st (.Subscript v e q)) fun b => cmpR cop a b := rfl
@[simp] theorem cmpE_4 : cmpE I st l cop (.List as q) = bnd (I.ev st l) fun a => bnd (evD I st (.List as q)) fun b => cmpR cop a b := rfl
@[simp] theorem cmpE_5 : cmpE I st l cop (.Tuple as k q) = bnd (I.ev st l) fun a => bnd (evD I st (.Tuple as k q)) fun b => cmpR cop a b := rfl
@[simp] theorem cmpE_6 : cmpE I st l cop (.Call f as kw q) = bnd (I.ev st l) fun a => bnd (evD I st (.Call f as kw q)) fun b => cmpR cop a b := rfl
@[simp] theorem cmpE_7 : cmpE I st l cop (.BinOp e op e₁ q) = bnd (I.ev st l) fun a => bnd (evD I st (.BinOp e op e₁ q)) fun b => cmpR cop a b := rfl
@[simp] theorem cmpE_8 : cmpE I st l cop (.ListComp e gens sc q) = bnd (I.ev st l) fun a => bnd (evD I st (.ListComp e gens sc q)) fun b => cmpR cop a b := rfl
@[simp] theorem itemE' : itemE I st v e = bnd (evD I st v) fun
  | .list ds => bnd (evI I st e) fun k => bnd (idxAt ds k) fun j => (ds[j]?).map .st
  | _ => none := rfl
@[simp] theorem argsD' : argsD I st as = if as.all plainE then mapO (evD I st) as else none := rfl
@[simp] theorem argsV' : argsV I st as = if as.all plainE then mapO (evV I st) as else none := rfl
@[simp] theorem cmpE_9 : cmpE I st l cop (.Compare e cops rs q) = bnd (I.ev st l) fun a => bnd (evD I st (.Compare e cops rs q)) fun b => cmpR cop a b := rfl
@[simp] theorem cmpE_10 : cmpE I st l cop (.BoolOp bop as q) = bnd (I.ev st l) fun a => bnd (evD I st (.BoolOp bop as q)) fun b => cmpR cop a b := rfl
theorem npt {st : LSt} {x y : Str} {l : LV} {v : Option LV} (h : st.get y = v) (e : decide (y = x) = false) : (st.put x l).get y = v := by rw [LSt.get_put, if_neg (of_decide_eq_false e)]; exact h
theorem spt {st : LSt} {x : Str} {l : LV} : (st.put x l).get x = some l := by rw [LSt.get_put, if_pos rfl]
theorem isGlo_of (h : st.get x = some .glo) : isGlo st x = true := by unfold isGlo; rw [h]
@[simp] theorem S0_1 : slOf (.Constant c k p) = none := id rfl
@[simp] theorem S0_2 : slOf (.Name x p) = none := id rfl
@[simp] theorem S0_3 : slOf (.BinOp l op r p) = none := id rfl
@[simp] theorem S0_4 : slOf (.UnaryOp uop e p) = none := id rfl
@[simp] theorem S0_5 : slOf (.Call f as kw p) = none := id rfl
@[simp] theorem S0_6 : slOf (.Subscript v e p) = none := id rfl
@[simp] theorem S0_7 : nmOf (.Subscript v e p) = none := id rfl
@[simp] theorem S0_8 : nmOf (.Call f as kw p) = none := id rfl
@[simp] theorem S0_9 : nmOf (.List as p) = none := id rfl
@[simp] theorem S0_10 : nmOf (.BinOp l op r p) = none := id rfl
@[simp] theorem P0_1 : plainE (.Constant c k p) = true := rfl
@[simp] theorem P0_2 : plainE (.Name x p) = true := rfl
@[simp] theorem P0_3 : plainE (.BinOp l op r p) = true := rfl
@[simp] theorem P0_4 : plainE (.UnaryOp uop e p) = true := rfl
@[simp] theorem P0_5 : plainE (.Call f as kw p) = true := rfl
@[simp] theorem P0_6 : plainE (.Subscript v e p) = true := rfl
@[simp] theorem P0_7 : plainE (.List as p) = true := rfl
@[simp] theorem P0_8 : plainE (.Compare l cops rs p) = true := rfl
@[simp] theorem P0_9 : plainE (.ListComp e gens sc p) = true := rfl
@[simp] theorem PB_1 : plainBase (.Name x p) = true := rfl
@[simp] theorem PB_2 : plainBase (.Constant c k p) = true := rfl
@[simp] theorem PB_3 : plainBase (.Call f as kw p) = false := rfl
@[simp] theorem U_1 : (Itp.at O (n + 1)).ev st e = evS O (Itp.at O n) st e := rfl
@[simp] theorem U_2 : evS O I st (.Constant (.int i) k p) = some (.st (.int i)) := rfl
@[simp] theorem U_3 : evS O I st (.Constant (.str x) k p) = some (.st (.str x)) := rfl
@[simp] theorem U_4 (b : Bool) : evS O I st (.Constant (.bool b) k p) = some (.st (.bool b)) := rfl
@[simp] theorem U_5 : evS O I st (.Constant .none k p) = some (.st .none) := rfl
@[simp] theorem U_6 : evS O I st (.Name x p) = bnd (st.get x) (lvO O x) := rfl
@[simp] theorem U_7 : evS O I st (.BinOp l op r p) = bnd (evD I st l) fun a => bnd (evD I st r) fun b => (binop op a b).map .st := rfl
@[simp] theorem U_8 : evS O I st (.UnaryOp .USub e p) = (evI I st e).map fun i => .st (.int (-i)) := rfl
@[simp] theorem U_9 : evS O I st (.BoolOp .And [e₁, e₂] p) = bnd (bnd (evD I st e₁) boolO) fun a => (if a then bnd (evD I st e₂) boolO else some false).map fun b => .st (.bool b) := rfl
@[simp] theorem U_10 : evS O I st (.BoolOp .Or [e₁, e₂] p) = bnd (bnd (evD I st e₁) boolO) fun a => (if a then some true else bnd (evD I st e₂) boolO).map fun b => .st (.bool b) := rfl
@[simp] theorem U_11 : evS O I st (.Compare l [cop] [r] p) = (cmpE I st l cop r).map fun b => .st (.bool b) := rfl
@[simp] theorem U2_1 : evS O I st (.Subscript v (.Slice lo hi none q) p) = bnd (evD I st v) fun
      | .list ds => bnd (evOI I st lo) fun a => bnd (evOI I st hi) fun b => if ds.length ≤ 4096 then some (.st (.list (slcD ds a b))) else none
      | .str x => bnd (evOI I st lo) fun a => bnd (evOI I st hi) fun b => if x.length ≤ 4096 then some (.st (.str (slcS x a b))) else none
      | _ => none := rfl
@[simp] theorem U2_2 (h : slOf e = none) : evS O I st (.Subscript (.Name x q) e p) = bnd (st.get x) (itemN I st (.Name x q) e) := by
  show (slOf e).elim _ _ = _
  rw [h]
  rfl
@[simp] theorem U2_3 (h : slOf e = none) (h' : nmOf v = none) : evS O I st (.Subscript v e p) = itemE I st v e := by
  show (slOf e).elim ((nmOf v).elim _ _) _ = _
  rw [h, h']
  rfl
@[simp] theorem itemN_v : itemN I st v e (.val a) = itemE I st v e := rfl
@[simp] theorem itemN_o : itemN I st v e (.own ds) = itemE I st v e := rfl
@[simp] theorem itemN_g : itemN I st v e .glo = itemE I st v e := rfl
@[simp] theorem itemN_d (D : List (Int × Str)) : itemN I st v e (.dct D) = bnd (evI I st e) fun k => (D.lookup k).map fun x => .st (.str x) := rfl
@[simp] theorem U2_4 : evS O I st (.List as p) = if as.length ≤ 64 then (argsV I st as).map fun ds => .st (.list ds) else none := rfl
@[simp] theorem U2_5 : evS O I st (.ListComp e gens sc p) = (compF O I st e gens sc).map fun ds => .st (.list ds) := rfl
@[simp] theorem U2_6 : evS O I st (.Tuple as k p) = if as.length ≤ 64 then (argsV I st as).map fun ds => .st (.tuple ds) else none := rfl
@[simp] theorem U2_7 : evS O I st (.Call (.Name x q) as [] p) = bnd (st.get x) (callN O I st x as) := rfl
@[simp] theorem callN_f : callN O I st x as (.fn g) = bnd (argsD I st as) (one1 g) := rfl
@[simp] theorem callN_g : callN O I st x as .glo = bnd (argsD I st as) (callG O x) := rfl
@[simp] theorem one1_o : one1 g [a] = bnd (g a) fun r => if flatD r then some (.st r) else none := rfl
@[simp] theorem callG' : callG O x ds = (builtin x ds).elim ((O.fn x ds).map .st) fun d => some (.st d) := rfl
@[simp] theorem U2_8 : evS O I st (.Call (.Name x q) as [⟨some y, .Name z q', q''⟩] p) = if isGlo st x = true ∧ y = Str.ofString "key" then bnd (st.get z) fun l => bnd (fnOfL l) fun kf => bnd (argsD I st as) fun ds => (O.fk x ds kf).map .st else none := rfl
@[simp] theorem U2_9 : evS O I st (.Call (.Attribute v m q) as [] p) = if methOk v q p as then bnd (evD I st v) fun od => bnd (argsD I st as) fun ds => (meth m od ds).map .st else none := rfl
@[simp] theorem methOk' : methOk v q p as = (plainBase v && q.endLine == p.line && decide (as.length < 20)) := rfl
@[simp] theorem U2_10 : evF O I st (.List as p) = if as.length ≤ 64 then argsV I st as else none := rfl
@[simp] theorem U2_11 : evF O I st (.ListComp e gens sc p) = compF O I st e gens sc := rfl
@[simp] theorem U2_12 : evF O I st (.Subscript v (.Slice lo hi none q) p) = bnd (evD I st v) fun
      | .list ds => bnd (evOI I st lo) fun a => bnd (evOI I st hi) fun b => if ds.length ≤ 4096 then some (slcD ds a b) else none
      | _ => none := rfl
@[simp] theorem U2_13 : evF O I st (.Call (.Attribute v m q) [e] [] p) = if methOk v q p [e] && plainE e then bnd (evD I st v) fun od => bnd (evD I st e) fun d => splitM m od d else none := rfl
@[simp low] theorem meth_i : meth m (.list ds) [.int i] = bnd (intsOf ds) fun ns => if m = Str.ofString "index" ∧ ns.length ≤ 4096 ∧ i ∈ ns then some (.int (ns.idxOf i : Nat)) else none := rfl
@[simp low] theorem meth_s : meth m (.str X) [.str Y] = if m = Str.ofString "startswith" then some (.bool (Txt.startswith X Y)) else if m = Str.ofString "endswith" then some (.bool (Txt.endswith X Y)) else none := rfl
@[simp low] theorem meth_j : meth m (.str X) [.list ds] = bnd (strsOf ds) fun ys => if m = Str.ofString "join" ∧ X.length ≤ 64 ∧ ds.length ≤ 64 ∧ ys.all (fun y => y.length ≤ 64) then some (.str (Txt.join X ys)) else none := rfl
@[simp low] theorem meth_f : meth m (.str X) [.str Y, .int i, .int j] = if m = Str.ofString "find" ∧ 0 ≤ i ∧ 0 ≤ j ∧ i ≤ 4096 ∧ j ≤ 4096 then some (.int (find4 X Y i j)) else none := rfl
@[simp] theorem splitM_s : splitM m (.str X) (.str Y) = if m = Str.ofString "split" ∧ 0 < Y.length ∧ X.length ≤ 4096 then some ((Txt.split X Y).map .str) else none := rfl
theorem exs_c (s : Stmt) (r : List Stmt) : (Itp.at O (n + 1)).exs st (s :: r) = (exS O (Itp.at O n) st s).bind fun
      | (.nx, st') => (Itp.at O n).exs st' r
      | (.ret v, st') => some (.ret v, st') := rfl
theorem wh_c : (Itp.at O (n + 1)).wh st e B = (tst (Itp.at O n) st e).bind fun c => if c then ((Itp.at O n).exs st B).bind (fun
      | (.nx, st') => (Itp.at O n).wh st' e B
      | (.ret v, st') => some (.ret v, st')) else some (.nx, st) := rfl
@[simp] theorem U3_1 : (Itp.at O (n + 1)).exs st [] = some (.nx, st) := rfl
@[simp] theorem U3_2 (s r) : (Itp.at O (n + 1)).exs st (s :: r) = bnd (exS O (Itp.at O n) st s) fun
      | (.nx, st') => (Itp.at O n).exs st' r
      | (.ret v, st') => some (.ret v, st') := rfl
@[simp] theorem U3_3 : (Itp.at O (n + 1)).wh st e B = bnd (tst (Itp.at O n) st e) fun c => if c then bnd ((Itp.at O n).exs st B) (fun
      | (.nx, st') => (Itp.at O n).wh st' e B
      | (.ret v, st') => some (.ret v, st')) else some (.nx, st) := rfl
@[simp] theorem U3_4 : exS O I st (.For (.Name x q) e B [] p) = if O.loc x = false then none else bnd (itemsOf I (evV I) (frz st e) e) fun ds => forLoop I x B (frz st e) ds := rfl
@[simp] theorem U3_5 : exS O I st (.Assign as e p) = exAsg O I st e as := rfl
@[simp] theorem U3_6 : exS O I st (.AugAssign (.Name x q) op e p) = if O.loc x = false then none else bnd (st.get x) fun
    | .val a => bnd (evD I st e) fun b => (augop op a b).map fun d => (.nx, st.put x (.val d))
    | .own ds => augL I st x op e ds
    | _ => none := rfl
@[simp] theorem U3_7 : exS O I st (.Expr e p) = exExp O I st e := rfl
@[simp] theorem U3_8 : exS O I st (.Delete [.Subscript (.Name x q) e q'] p) = bnd (bnd (st.get x) ownO) fun ds => bnd (evI I st e) fun k => bnd (idxAt ds k) fun j => some (.nx, st.put x (.own (ds.eraseIdx j))) := rfl
@[simp] theorem U3_9 : exS O I st (.If e B B' p) = bnd (tstX O I st e) fun c => if c then I.exs st B else I.exs st B' := rfl
@[simp] theorem U3_10 : exS O I st (.While e B [] p) = I.wh st e B := rfl
@[simp] theorem U3_11 : exS O I st (.Return (some e) p) = (I.ev st e).map fun r => (.ret r, st) := rfl
@[simp] theorem U3_12 (t : Option Expr) : exS O I st (.Assert e t p) = bnd (tst I st e) fun c => if c then some (.nx, st) else none := rfl
@[simp] theorem U3_13 : exAsg O I st (.Call (.Attribute (.Name x q) m q') [] [] q'') [.Name y p] =
      if m = Str.ofString "pop" ∧ methOk (.Name x q) q' q'' [] = true ∧ O.loc y = true then bnd (bnd (st.get x) ownO) fun ds => bnd ds.getLast? fun d => if ds.length ≤ 4096 then some (.nx, (st.put x (.own ds.dropLast)).put y (.val d)) else none
      else none := rfl
@[simp] theorem U3_14 : exAsg O I st e [.Subscript (.Name x q) v p] = bnd (evV I st e) fun d => bnd (st.get x) fun
    | .own ds => bnd (evI I st v) fun k => if k < 0 then bnd (idxAt ds k) fun j => some (.nx, st.put x (.own (ds.set j d))) else none
    | .dct es => bnd (evI I st v) fun k => bnd (strO d) fun y => if (es.lookup k).isNone && es.length ≤ 64 then some (.nx, st.put x (.dct (es ++ [(k, y)]))) else none
    | _ => none := rfl
@[simp] theorem augL' : augL I st x .Add e ds = bnd (evD I st e) fun
    | .list es => if ds.length + es.length ≤ 4096 then some (.nx, st.put x (.own (ds ++ es))) else none
    | _ => none := rfl
@[simp] theorem U3_16 : exExp O I st (.Call (.Attribute (.Name x q) m q') as [] q'') = if methOk (.Name x q) q' q'' as && as.all plainE then bnd (bnd (st.get x) ownO) fun ds => chgL I st x m ds as else none := rfl
@[simp] theorem chgL1 : chgL I st x m ds [e] = bnd (bnd (I.ev st e) stO) fun d => if m = Str.ofString "append" ∧ ds.length ≤ 4096 then some (.nx, st.put x (.own (ds ++ [d]))) else none := rfl
@[simp] theorem chgL2 : chgL I st x m ds [e₁, e] = bnd (evI I st e₁) fun k => bnd (evV I st e) fun d => if m = Str.ofString "insert" ∧ ds.length ≤ 4096 ∧ 0 ≤ k ∧ k ≤ ds.length then some (.nx, st.put x (.own (insAt ds k d))) else none := rfl
@[simp] theorem U3_21 (h : keyOf e = some (Str.ofString "insort_left", [.Name x q, v, e₁, e₂], l)) (h' : methOf e = none) : exExp O I st e = if Str.ofString "insort_left" = Str.ofString "insort_left" ∧ [v, e₁, e₂].all plainE = true ∧ isGlo st (Str.ofString "insort_left") = true then insK O I st x v e₁ e₂ l else none := by
  unfold exExp
  rw [h', h]
  rfl
@[simp] theorem U4_1 : exAsg O I st (.Name y p) [.Name x q] = (bindE O I st x (.Name y p)).map fun r => (.nx, r.2.put x r.1) := rfl
@[simp] theorem U4_2 : exAsg O I st (.Constant c k p) [.Name x q] = (bindE O I st x (.Constant c k p)).map fun r => (.nx, r.2.put x r.1) := rfl
@[simp] theorem U4_3 : exAsg O I st (.BinOp l op r p) [.Name x q] = (bindE O I st x (.BinOp l op r p)).map fun r => (.nx, r.2.put x r.1) := rfl
@[simp] theorem U4_4 : exAsg O I st (.BoolOp bop as p) [.Name x q] = (bindE O I st x (.BoolOp bop as p)).map fun r => (.nx, r.2.put x r.1) := rfl
@[simp] theorem U4_5 : exAsg O I st (.Compare l cops rs p) [.Name x q] = (bindE O I st x (.Compare l cops rs p)).map fun r => (.nx, r.2.put x r.1) := rfl
@[simp] theorem U4_6 : exAsg O I st (.List as p) [.Name x q] = (bindE O I st x (.List as p)).map fun r => (.nx, r.2.put x r.1) := rfl
@[simp] theorem U4_7 : exAsg O I st (.ListComp e gens sc p) [.Name x q] = (bindE O I st x (.ListComp e gens sc p)).map fun r => (.nx, r.2.put x r.1) := rfl
@[simp] theorem U4_8 : exAsg O I st (.Subscript v e p) [.Name x q] = (bindE O I st x (.Subscript v e p)).map fun r => (.nx, r.2.put x r.1) := rfl
@[simp] theorem U4_9 : exAsg O I st (.Call (.Name y q') as [] p) [.Name x q] = (bindE O I st x (.Call (.Name y q') as [] p)).map fun r => (.nx, r.2.put x r.1) := rfl
@[simp] theorem U4_10 : exAsg O I st (.Call (.Name y q') as [⟨some z, .Name m q'', q3⟩] p) [.Name x q] = (bindE O I st x (.Call (.Name y q') as [⟨some z, .Name m q'', q3⟩] p)).map fun r => (.nx, r.2.put x r.1) := rfl
@[simp] theorem U4_11 : exAsg O I st (.Call (.Attribute (.Name y q') m q'') (e :: as) [] p) [.Name x q] = (bindE O I st x (.Call (.Attribute (.Name y q') m q'') (e :: as) [] p)).map fun r => (.nx, r.2.put x r.1) := rfl
@[simp] theorem U4c : exAsg O I st (.Call (.Attribute (.Constant c k q') m q'') (e :: as) [] p) [.Name x q] = (bindE O I st x (.Call (.Attribute (.Constant c k q') m q'') (e :: as) [] p)).map fun r => (.nx, r.2.put x r.1) := rfl
@[simp] theorem U10 (v₁ v₂ : Expr) : exAsg O I st (.Dict [some e₁, some e₂] [v₁, v₂] p) [.Name y q] = asgDict O I st y e₁ v₁ e₂ v₂ := rfl
@[simp] theorem asgDict' (v₁ v₂ : Expr) : asgDict O I st y e₁ v₁ e₂ v₂ = bnd (evI I st e₁) fun a => bnd (bnd (evV I st v₁) strO) fun x => bnd (evI I st e₂) fun b => bnd (bnd (evV I st v₂) strO) fun z =>
    if a = b ∨ O.loc y = false then none else some (.nx, st.put y (.dct [(a, x), (b, z)])) := rfl
@[simp] theorem U8_1 : exAsg O I st (.Tuple [e₁, e₂] k' p) [.Tuple [.Name x q, .Name y q'] k q''] =
      if x = y ∨ ¬ ([e₁, e₂].all plainE ∧ swapOk [e₁, e₂]) then none else bnd (bindT O I st x e₁) fun r => bnd (bindT O I st y e₂) fun q => some (.nx, (st.put x r).put y q) := rfl
@[simp] theorem U8_2 : exAsg O I st (.Tuple [e₁, e₂, e₃] k' p) [.Tuple [.Name x q, .Name y q', .Name z q''] k q3] =
      if x = y ∨ x = z ∨ y = z ∨ ¬ ([e₁, e₂, e₃].all plainE ∧ swapOk [e₁, e₂, e₃]) then none else bnd (bindT O I st x e₁) fun r => bnd (bindT O I st y e₂) fun q => bnd (bindT O I st z e₃) fun u => some (.nx, ((st.put x r).put y q).put z u) := rfl
@[simp] theorem U8_3 : bindT O I st x (.Constant c k p) = (bindE O I st x (.Constant c k p)).map (·.1) := rfl
@[simp] theorem U8_4 : bindT O I st x (.Call f as kw p) = (bindE O I st x (.Call f as kw p)).map (·.1) := rfl
@[simp] theorem U8_5 : bindT O I st x (.List as p) = (bindE O I st x (.List as p)).map (·.1) := rfl
@[simp] theorem U4_12 : tstX O I st (.BoolOp bop as p) = tst I st (.BoolOp bop as p) := rfl
@[simp] theorem U4_13 : tstX O I st (.UnaryOp uop e p) = tst I st (.UnaryOp uop e p) := rfl
@[simp] theorem U4_14 : tstX O I st (.Name x p) = tst I st (.Name x p) := rfl
@[simp] theorem U4_15 : tstX O I st (.Call f as kw p) = tst I st (.Call f as kw p) := rfl
@[simp] theorem U4_16 : tstX O I st (.Compare l [.Lt] [r] p) = cmpE I st l .Lt r := rfl
@[simp] theorem U4_17 : tstX O I st (.Compare l [.LtE] [r] p) = cmpE I st l .LtE r := rfl
@[simp] theorem U4_18 : tstX O I st (.Compare l [.Gt] [r] p) = cmpE I st l .Gt r := rfl
@[simp] theorem U4_19 : tstX O I st (.Compare l [.Eq] [r] p) = cmpE I st l .Eq r := rfl
@[simp] theorem U4_20 : tstX O I st (.Compare l [.In] [r] p) = cmpE I st l .In r := rfl
@[simp] theorem U4_21 : tstX O I st (.Compare l [.NotIn] [r] p) = cmpE I st l .NotIn r := rfl
@[simp] theorem U4_22 : tstX O I st (.Compare l [.Is] [r] p) = cmpE I st l .Is r := rfl
@[simp] theorem U4_23 : tstX O I st (.Compare l [.IsNot] [r] p) = cmpE I st l .IsNot r := rfl
@[simp] theorem U4_24 : tstX O I st (.Compare l [.NotEq] [.Constant c k q] p) = cmpE I st l .NotEq (.Constant c k q) := rfl
@[simp] theorem U4_25 : tstX O I st (.Compare l [.NotEq] [.BinOp v op e q] p) = cmpE I st l .NotEq (.BinOp v op e q) := rfl
@[simp] theorem U4_26 : tstX O I st (.Compare l [.NotEq] [.ListComp e gens sc q] p) = cmpE I st l .NotEq (.ListComp e gens sc q) := rfl
@[simp] theorem U4_27 : tstX O I st (.Compare l [.NotEq] [.Call (.Name x q') as [] q] p) = cmpE I st l .NotEq (.Call (.Name x q') as [] q) := rfl
@[simp] theorem U5_1 : tst I st (.BoolOp .And [e₁, e₂] p) = bnd (tst0 I st e₁) fun a => if a then tst0 I st e₂ else some false := rfl
@[simp] theorem U5_2 : tst I st (.BoolOp .Or [e₁, e₂] p) = bnd (tst0 I st e₁) fun a => if a then some true else tst0 I st e₂ := rfl
@[simp] theorem U5b : tst I st (.BoolOp .And [e₁, e₂, e₃] p) = bnd (tst0 I st e₁) fun a => if a then (bnd (tst0 I st e₂) fun a => if a then tst0 I st e₃ else some false) else some false := rfl
@[simp] theorem U5_3 : tst I st (.UnaryOp .Not e p) = (tst0 I st e).map fun b => !b := rfl
@[simp] theorem U5_4 : tst I st (.Compare l [cop] [r] p) = cmpE I st l cop r := rfl
@[simp] theorem U5_5 : tst I st (.Name x p) = bnd (I.ev st (.Name x p)) tstN := rfl
@[simp] theorem U5_6 : tst I st (.Call f as kw p) = bnd (I.ev st (.Call f as kw p)) tstB := rfl
@[simp] theorem U5_7 : tst0 I st (.Compare l [cop] [r] p) = cmpE I st l cop r := rfl
@[simp] theorem U5_8 : tst0 I st (.Name x p) = bnd (I.ev st (.Name x p)) tstN := rfl
@[simp] theorem U5_9 : tst0 I st (.Call f as kw p) = bnd (I.ev st (.Call f as kw p)) tstB := rfl
@[simp] theorem tstN_s : tstN (.st (.str x)) = if x.length ≤ 4096 then some (x.length != 0) else none := rfl
@[simp] theorem tstN_b (b : Bool) : tstN (.st (.bool b)) = some b := rfl
@[simp] theorem tstB_b (b : Bool) : tstB (.st (.bool b)) = some b := rfl
@[simp] theorem U6_1 : bindE O I st x (.Name y p) = if O.loc x = false then none else if O.muts x then (bnd (st.get y) ownO).map (fun ds => (.own ds, st.del y)) else (evV I st (.Name y p)).map fun d => (.val d, st) := rfl
@[simp] theorem U6_2 : bindE O I st x (.Constant c k p) = if O.loc x = false then none else if O.muts x then none else (evV I st (.Constant c k p)).map fun d => (.val d, st) := rfl
@[simp] theorem U6_3 : bindE O I st x (.BinOp l op r p) = if O.loc x = false then none else if O.muts x then none else (evV I st (.BinOp l op r p)).map fun d => (.val d, st) := rfl
@[simp] theorem U6_4 : bindE O I st x (.BoolOp bop as p) = if O.loc x = false then none else if O.muts x then none else (evV I st (.BoolOp bop as p)).map fun d => (.val d, st) := rfl
@[simp] theorem U6_5 : bindE O I st x (.Compare l cops rs p) = if O.loc x = false then none else if O.muts x then none else (evV I st (.Compare l cops rs p)).map fun d => (.val d, st) := rfl
@[simp] theorem U6_6 : bindE O I st x (.List as p) = if O.loc x = false then none else if O.muts x then (evF O I st (.List as p)).map fun ds => (.own ds, st) else (evV I st (.List as p)).map fun d => (.val d, st) := rfl
@[simp] theorem U6_7 : bindE O I st x (.Subscript v e p) = if O.loc x = false then none else if O.muts x then (evF O I st (.Subscript v e p)).map fun ds => (.own ds, st) else (evV I st (.Subscript v e p)).map fun d => (.val d, st) := rfl
@[simp] theorem U6_8 : bindE O I st x (.Call f as kw p) = if O.loc x = false then none else if O.muts x then (evF O I st (.Call f as kw p)).map fun ds => (.own ds, st) else (evV I st (.Call f as kw p)).map fun d => (.val d, st) := rfl
@[simp] theorem U6_9 : bindE O I st x (.ListComp e gens sc p) = if O.loc x = false then none else if O.muts x then (evF O I st (.ListComp e gens sc p)).map fun ds => (.own ds, st) else (evF O I st (.ListComp e gens sc p)).map fun ds => (.val (.list ds), st) := rfl
section
variable (G : LSt → Expr → Option Dat)
@[simp] theorem it_1 : itemsOf I G st (.Name x p) = bnd (G st (.Name x p)) listO := rfl
@[simp] theorem it_2 : itemsOf I G st (.Subscript v e p) = bnd (G st (.Subscript v e p)) listO := rfl
@[simp] theorem it_3 : itemsOf I G st (.Call (.Attribute v m q) as kw p) = (if kw.isEmpty then (none : Option (Str × List Expr)) else none).elim (bnd (G st (.Call (.Attribute v m q) as kw p)) listO) (fun c => rangeI I st c.1 c.2) := rfl
@[simp] theorem it_4 : itemsOf I G st (.Call (.Name x q) as [] p) = rangeI I st x as := rfl
@[simp] theorem it_5 : itemsOf I G st (.Tuple as k p) = if as.length ≤ 64 then argsV I st as else none := rfl
@[simp] theorem it_6 : itemsOf I G st (.ListComp e gens sc p) = bnd (G st (.ListComp e gens sc p)) listO := rfl
@[simp] theorem it_7 : itemsOf I G st (.List as p) = bnd (G st (.List as p)) listO := rfl
@[simp] theorem it_8 : itemsOf I G st (.BinOp l op r p) = bnd (G st (.BinOp l op r p)) listO := rfl
end
@[simp] theorem rg_1 : rangeI I st x [e] = if x = Str.ofString "range" ∧ isGlo st x = true ∧ plainE e = true then bnd (evI I st e) (fun n => if 0 ≤ n ∧ n ≤ 4096 then some ((List.range n.toNat).map fun i => .int (i : Nat)) else none) else none := rfl
@[simp] theorem rg_2 : rangeI I st x [e₁, e₂] = if x = Str.ofString "range" ∧ isGlo st x = true ∧ plainE e₁ = true ∧ plainE e₂ = true then bnd (evI I st e₁) (fun a => bnd (evI I st e₂) fun b => if 0 ≤ a ∧ a ≤ b ∧ b ≤ 4096 then some ((List.range (b - a).toNat).map fun i => .int (a + (i : Nat))) else none) else none := rfl
@[simp] theorem get_c (w : Str × LV) (W : LSt) : LSt.get (w :: W) x = if w.1 = x then some w.2 else LSt.get W x := rfl
@[simp] theorem UA : (evAt O (n + 1)).ev st e = evS O (evAt O n) st e := rfl
@[simp] theorem frz_1 : frz st (.Call f as kw p) = st := rfl
@[simp] theorem frz_2 : frz st (.Subscript v e p) = st := rfl
@[simp] theorem frz_3 : frz st (.Name x p) = (bnd (st.get x) ownO).elim st fun ds => st.put x (.val (.list ds)) := rfl
@[simp] theorem frz_4 : frz st (.BinOp l op r p) = st := rfl
@[simp] theorem frz_5 : frz st (.Tuple as k p) = st := rfl
@[simp] theorem frz_6 : frz st (.ListComp e gens sc p) = st := rfl
@[simp] theorem flat_s : flatD (.str x) = true := rfl
@[simp] theorem flat_i : flatD (.int i) = true := rfl
@[simp] theorem flat_b (b : Bool) : flatD (.bool b) = true := rfl
@[simp] theorem flat_n : flatD .none = true := rfl
@[simp] theorem ownO_v : ownO (.val a) = none := rfl
end
end Mine
end

section
open PySem PySem.W PyProof.Rows Builtin.Str
namespace Mine
theorem LSt.put_cons (p : Str × LV) (r : LSt) (x : Str) (l : LV) : LSt.put (p :: r) x l = if p.1 = x then (x, l) :: r else p :: LSt.put r x l := rfl
theorem LSt.put_put (st : LSt) (x : Str) (l m : LV) : (st.put x l).put x m = st.put x m := by
  induction st with
  | nil => exact if_pos rfl
  | cons p r ih =>
    rw [LSt.put_cons, LSt.put_cons]
    by_cases hp : p.1 = x
    · rw [if_pos hp, if_pos hp]
      exact if_pos rfl
    · rw [if_neg hp, if_neg hp, LSt.put_cons, if_neg hp, ih]
theorem LSt.put_same {st : LSt} {x : Str} {l : LV} (h : st.get x = some l) : st.put x l = st := by
  induction st with
  | nil => cases h
  | cons p r ih =>
    rw [LSt.put_cons]
    replace h : (if p.1 = x then some p.2 else LSt.get r x) = some l := h
    by_cases hp : p.1 = x
    · rw [if_pos hp] at h
      cases h
      rw [if_pos hp, ← hp]
    · rw [if_neg hp] at h
      rw [if_neg hp, ih h]
theorem term_eq (k : Int) : spTerm [.int k] = some (.bool (decide (k < 256))) := rfl
theorem nont_eq (k : Int) : spNont [.int k] = some (.bool (decide (256 ≤ k))) := rfl
theorem eof_eq (k : Int) : spEof [.int k] = some (.bool (decide (k = 0))) := rfl
noncomputable def stm (i j : Nat) : Stmt := (bodyN i)[j]?.getD (.Pass default)
noncomputable def sp3 : Stmt → Expr × List Stmt × List Stmt
  | .For _ e b o _ => (e, b, o)
  | .While t b o _ => (t, b, o)
  | .If t b o _ => (t, b, o)
  | .Assign _ e _ => (e, [], [])
  | .Expr e _ => (e, [], [])
  | _ => (.Constant .none 0 default, [], [])
noncomputable def blk (s : Stmt) : List Stmt := (sp3 s).2.1
noncomputable def els (s : Stmt) : List Stmt := (sp3 s).2.2
noncomputable def tstOf (s : Stmt) : Expr := (sp3 s).1
section
variable (t e : Expr) (b o : List Stmt) (p : Pos)
@[simp] theorem blk_f : blk (.For t e b o p) = b := rfl
@[simp] theorem blk_w : blk (.While t b o p) = b := rfl
@[simp] theorem blk_i : blk (.If t b o p) = b := rfl
@[simp] theorem els_i : els (.If t b o p) = o := rfl
@[simp] theorem tst_f : tstOf (.For t e b o p) = e := rfl
@[simp] theorem tst_w : tstOf (.While t b o p) = t := rfl
@[simp] theorem tst_i : tstOf (.If t b o p) = t := rfl
end
noncomputable def bs (w : Stmt) (i : Nat) : Stmt := (blk w)[i]?.getD (.Pass default)
def IsIf (O : Orc) (s : Stmt) : Prop := ∀ I st, exS O I st s = (tst I st (tstOf s)).bind fun c => if c then I.exs st (blk s) else I.exs st (els s)
section
variable {O : Orc} {n : Nat} {I : Itp} {st st1 : LSt} {s : Stmt} {r : List Stmt} {res : Option (Flw × LSt)}
theorem ex_cons (h : exS O (Itp.at O n) st s = some (.nx, st1)) (h2 : (Itp.at O n).exs st1 r = res) : (Itp.at O (n + 1)).exs st (s :: r) = res := by rw [exs_c, h]; exact h2
theorem ex_ret {v : RV} (h : exS O (Itp.at O n) st s = some (.ret v, st1)) : (Itp.at O (n + 1)).exs st (s :: r) = some (.ret v, st1) := by rw [exs_c, h]; rfl
theorem if_t (hs : IsIf O s) (ht : tst I st (tstOf s) = some true) : exS O I st s = I.exs st (blk s) := by rw [hs, ht]; rfl
theorem if_f (hs : IsIf O s) (ht : tst I st (tstOf s) = some false) : exS O I st s = I.exs st (els s) := by rw [hs, ht]; rfl
end
theorem idxLast (pre : List Dat) (d : Dat) (h : pre.length < 4000) : idxAt (pre ++ [d]) (-1) = some pre.length := by
  unfold idxAt
  rw [List.length_append]
  have e : (-1 : Int) + ((pre.length + [d].length : Nat) : Int) = (pre.length : Int) := by
    show (-1 : Int) + ((pre.length : Int) + 1) = _
    rw [Int.add_comm, Int.add_assoc]
    exact Int.add_zero _
  rw [if_pos (show pre.length + [d].length ≤ 4096 from Nat.le_trans (Nat.succ_le_of_lt h) (by decide)), if_neg (by decide), e, if_pos (Int.natCast_nonneg _)]
  rfl
theorem idxNat (ds : List Dat) (k : Nat) (h : k < ds.length) (hl : ds.length ≤ 4096) : idxAt ds (k : Int) = some k := by
  unfold idxAt
  rw [if_pos hl, if_pos (Int.natCast_nonneg k), if_pos (Int.ofNat_lt.mpr h)]
  rfl
inductive Tr where
  | lf (c : Int)
  | nd (k : Nat) (l r : Tr)
namespace Tr
noncomputable def sym : Tr → Int
  | lf c => c
  | nd k _ _ => 256 + (k : Int)
noncomputable def txt : Tr → List Int
  | lf c => [c]
  | nd _ l r => l.txt ++ r.txt
noncomputable def lsp : Tr → List Int
  | lf c => [c]
  | nd k l _ => (256 + (k : Int)) :: l.lsp
noncomputable def rsp : Tr → List Int
  | lf c => [c]
  | nd k _ r => (256 + (k : Int)) :: r.rsp
noncomputable def Wf (P : List (Int × Int)) : Tr → Prop
  | lf c => 0 < c ∧ c < 256
  | nd k l r => P[k]? = some (l.sym, r.sym) ∧ l.sym < 256 + (k : Int) ∧ r.sym < 256 + (k : Int) ∧ l.Wf P ∧ r.Wf P
end Tr
noncomputable def dI (xs : List Int) : Dat := .list (xs.map .int)
noncomputable def dPair (p : Int × Int) : Dat := dI [p.1, p.2]
noncomputable def dP (P : List (Int × Int)) : Dat := .list (P.map dPair)
theorem side_fn (k : Int) : fSide.O.fn (Str.ofString "ISNONTERMINAL") [.int k] = some (.bool (decide (256 ≤ k))) := rfl
theorem side_bi (k : Int) : builtin (Str.ofString "ISNONTERMINAL") [.int k] = none := rfl
theorem side_test {n : Nat} {st : LSt} {pre : List Dat} {k : Int} (hs : st.get (Str.ofString "side") = some (.own (pre ++ [.int k]))) (hg : st.get (Str.ofString "ISNONTERMINAL") = some .glo) (hl : pre.length < 4000) :
    tst (Itp.at fSide.O (n + 8)) st (tstOf (stm 15 1)) = some (decide (256 ≤ k)) := by
  conv in (stm _ _) => whnf
  simp +decide [hs, hg, idxLast _ _ hl, side_fn, side_bi]
theorem side_turn {n : Nat} {st : LSt} {pre : List Dat} {P : List (Int × Int)} {k : Nat} {w : Nat} {l r : Int} (hw : w < 2) (hs : st.get (Str.ofString "side") = some (.own (pre ++ [.int (256 + (k : Int))]))) (hp : st.get (Str.ofString "pairs") = some (.val (dP P))) (hwh : st.get (Str.ofString "which") = some (.val (.int (w : Int))))
    (hl : pre.length < 4000) (hP : P.length ≤ 64) (hk : P[k]? = some (l, r)) :
    (Itp.at fSide.O (n + 12)).exs st (blk (stm 15 1)) = some (.nx, st.put (Str.ofString "side") (.own (pre ++ [.int (256 + (k : Int)), .int (if w = 0 then l else r)]))) := by
  have h1 : idxAt (List.map dPair P) ((k : Int)) = some k := idxNat _ _ (by rw [List.length_map]; exact (List.getElem?_eq_some_iff.mp hk).1) (by rw [List.length_map]; exact Nat.le_trans hP (by decide))
  have h2 : 256 + (k : Int) - 256 = k := by rw [Int.add_comm]; exact Int.add_sub_cancel _ _
  have h3 : (List.map dPair P)[k]? = some (dPair (l, r)) := by rw [List.getElem?_map, hk]; rfl
  have h4 : idxAt [Dat.int l, .int r] (w : Int) = some w := idxNat _ _ hw (by simp)
  have h5 : [Dat.int l, Dat.int r][w]? = some (.int (if w = 0 then l else r)) := by
    rcases w with _ | _ | w
    · rfl
    · rfl
    · exact absurd hw (Nat.not_lt.mpr (Nat.le_add_left 2 w))
  have h6 : pre.length + 1 ≤ 4096 := Nat.le_trans (Nat.succ_le_of_lt hl) (by decide)
  conv in (stm _ _) => whnf
  simp +decide [hs, hp, hwh, idxLast _ _ hl, dP, h1, h2, hk, dPair, dI, h4, h5, h6]
end Mine
end

section
open PySem PySem.W PyProof.Rows Builtin.Str
namespace Mine
noncomputable def Tr.spn (w : Nat) : Tr → List Int
  | .lf c => [c]
  | .nd k l r => (256 + (k : Int)) :: (if w = 0 then l.spn w else r.spn w)
theorem Tr.spn0 (t : Tr) : t.spn 0 = t.lsp := by
  induction t with
  | lf _ => rfl
  | nd k l r a _ => exact congrArg ((256 + (k : Int)) :: ·) a
theorem Tr.spn1 (t : Tr) : t.spn 1 = t.rsp := by
  induction t with
  | lf _ => rfl
  | nd k l r _ a => exact congrArg ((256 + (k : Int)) :: ·) a
noncomputable def SideL (P : List (Int × Int)) (w : Nat) (t : Tr) : Prop := t.Wf P → ∀ (n : Nat) (st : LSt) (pre : List Dat), pre.length + (t.spn w).length < 3000 →
    st.get (Str.ofString "side") = some (.own (pre ++ [.int t.sym])) → st.get (Str.ofString "pairs") = some (.val (dP P)) → st.get (Str.ofString "which") = some (.val (.int (w : Int))) → st.get (Str.ofString "ISNONTERMINAL") = some .glo →
    (Itp.at fSide.O (n + (t.spn w).length + 20)).wh st (tstOf (stm 15 1)) (blk (stm 15 1)) = some (.nx, st.put (Str.ofString "side") (.own (pre ++ (t.spn w).map .int)))
theorem side_loop {P : List (Int × Int)} {w : Nat} (hw : w < 2) (hP : P.length ≤ 64) (t : Tr) : SideL P w t := by
  induction t with
  | lf c =>
    intro wf n st pre hl hs hp hwh hg
    have := side_test (n := n + 12) hs hg (Nat.lt_of_le_of_lt (Nat.le_add_right _ _) (Nat.lt_trans hl (by decide)))
    rw [decide_eq_false (show ¬ (256 : Int) ≤ (Tr.lf c).sym from Int.not_le.mpr wf.2)] at this
    show (Itp.at fSide.O (n + 12 + 8 + 1)).wh st _ _ = some (Flw.nx, st.put _ (.own (pre ++ [.int c])))
    have e : st.put (Str.ofString "side") (.own (pre ++ [Dat.int c])) = st := LSt.put_same hs
    rw [wh_c, this, e]
    rfl
  | nd k l r ihl ihr =>
    intro wf n st pre hl hs hp hwh hg
    obtain ⟨c, e1, e2, ih⟩ : ∃ c : Tr, (if w = 0 then l.spn w else r.spn w) = c.spn w ∧ (if w = 0 then l.sym else r.sym) = c.sym ∧ SideL P w c ∧ c.Wf P := by
      by_cases h0 : w = 0
      · exact ⟨l, if_pos h0, if_pos h0, ihl, wf.2.2.2.1⟩
      · exact ⟨r, if_neg h0, if_neg h0, ihr, wf.2.2.2.2⟩
    have e : (Tr.nd k l r).spn w = (256 + (k : Int)) :: c.spn w := congrArg _ e1
    rw [e] at hl ⊢
    have hl0 : pre.length < 4000 := Nat.lt_of_le_of_lt (Nat.le_add_right _ _) (Nat.lt_trans hl (by decide))
    have h1 := side_test (n := n + (c.spn w).length + 12) hs hg hl0
    rw [decide_eq_true (show (256 : Int) ≤ (Tr.nd k l r).sym from Int.le_add_of_nonneg_right (Int.natCast_nonneg k))] at h1
    have h2 := side_turn (n := n + (c.spn w).length + 8) hw hs hp hwh hl0 hP wf.1
    rw [e2] at h2
    show (Itp.at fSide.O (n + (c.spn w).length + 12 + 8 + 1)).wh st _ _ = _
    rw [wh_c, h1, Option.bind_some, if_pos rfl, h2, Option.bind_some]
    refine (ih.1 ih.2 n _ (pre ++ [.int (256 + (k : Int))]) ?_ ?_ (npt hp rfl) (npt hwh rfl) (npt hg rfl)).trans ?_
    · rw [List.length_append, Nat.add_assoc, Nat.add_comm [_].length]; exact hl
    · rw [spt, List.append_assoc]; rfl
    · rw [LSt.put_put, List.append_assoc]; rfl
theorem side_body : bodyN 15 = [stm 15 0, stm 15 1, stm 15 2] := rfl
theorem side_w (I : Itp) (O : Orc) (st : LSt) : exS O I st (stm 15 1) = I.wh st (tstOf (stm 15 1)) (blk (stm 15 1)) := rfl
theorem ints_flat (xs : List Int) : (xs.map Dat.int).all flatD = true := by
  rw [List.all_map]
  exact List.all_eq_true.mpr fun _ _ => rfl
theorem side_eq {P : List (Int × Int)} {t : Tr} {w : Nat} (hw : w < 2) (hP : P.length ≤ 64) (wf : t.Wf P) (hl : (t.spn w).length ≤ 50) : spSide [dP P, .int t.sym, .int (w : Int)] = some (dI (t.spn w)) := by
  show outOf ((Itp.at fSide.O 100).exs [(Str.ofString "pairs", LV.val (dP P)), (Str.ofString "symbol", LV.val (.int t.sym)), (Str.ofString "which", LV.val (.int (w : Int))), (Str.ofString "ISNONTERMINAL", LV.glo)] (bodyN 15)) = _
  rw [side_body, exs_c]
  have h0 : exS fSide.O (Itp.at fSide.O 99) [(Str.ofString "pairs", LV.val (dP P)), (Str.ofString "symbol", LV.val (.int t.sym)), (Str.ofString "which", LV.val (.int (w : Int))), (Str.ofString "ISNONTERMINAL", LV.glo)] (stm 15 0) =
     some (.nx, [(Str.ofString "pairs", LV.val (dP P)), (Str.ofString "symbol", LV.val (.int t.sym)), (Str.ofString "which", LV.val (.int (w : Int))), (Str.ofString "ISNONTERMINAL", LV.glo), (Str.ofString "side", .own [.int t.sym])]) := rfl
  rw [h0]
  simp only [Option.bind_some]
  obtain ⟨n, hn⟩ := Nat.exists_eq_add_of_le (show (t.spn w).length ≤ 78 from Nat.le_trans hl (by decide))
  have hs := side_loop hw hP t wf n [(Str.ofString "pairs", LV.val (dP P)), (Str.ofString "symbol", LV.val (.int t.sym)), (Str.ofString "which", LV.val (.int (w : Int))), (Str.ofString "ISNONTERMINAL", LV.glo), (Str.ofString "side", .own [.int t.sym])] [] (Nat.lt_of_le_of_lt (Nat.le_trans (Nat.le_of_eq (Nat.zero_add _)) hl) (by decide)) rfl rfl rfl rfl
  rw [Nat.add_comm n, ← hn] at hs
  rw [exs_c, side_w, hs]
  simp only [Option.bind_some]
  generalize ht : t.spn w = xs
  show outOf (some (Flw.ret (.cur (Str.ofString "side") (xs.map .int)), _)) = _
  show (if (xs.map Dat.int).all flatD then some (Dat.list (xs.map .int)) else none) = _
  rw [ints_flat]
  rfl
end Mine
end

section
open PySem PySem.W PyProof.Rows Builtin.Str
namespace Mine
noncomputable def sOf (xs : List Int) : Str := ⟨(xs.map Int.toNat).toArray⟩
theorem sOf_app (xs ys : List Int) : sOf xs ++ sOf ys = sOf (xs ++ ys) := by
  show (⟨(xs.map Int.toNat).toArray ++ (ys.map Int.toNat).toArray⟩ : Str) = ⟨((xs ++ ys).map Int.toNat).toArray⟩
  rw [List.map_append]
  simp
theorem sOf_len (xs : List Int) : (sOf xs).length = xs.length := by
  show (xs.map Int.toNat).toArray.size = _
  simp
noncomputable def Tr.cnt : Tr → Nat
  | .lf _ => 1
  | .nd _ l r => l.cnt + r.cnt + 1
theorem cnt_len (t : Tr) : t.cnt + 1 = 2 * t.txt.length := by
  induction t with
  | lf _ => rfl
  | nd k l r a b =>
    have e3 : (Tr.nd k l r).txt.length = l.txt.length + r.txt.length := List.length_append
    rw [e3, Nat.mul_add, ← a, ← b]
    exact Nat.add_add_add_comm l.cnt r.cnt 1 1
theorem spel_eof (k : Int) : fSpel.O.fn (Str.ofString "ISEOF") [.int k] = some (.bool (decide (k = 0))) := rfl
theorem spel_term (k : Int) : fSpel.O.fn (Str.ofString "ISTERMINAL") [.int k] = some (.bool (decide (k < 256))) := rfl
theorem bi_eof (k : Int) : builtin (Str.ofString "ISEOF") [.int k] = none := rfl
theorem bi_term (k : Int) : builtin (Str.ofString "ISTERMINAL") [.int k] = none := rfl
theorem bi_chr (k : Int) (h : 0 ≤ k) (h' : k ≤ 256) : builtin (Str.ofString "chr") [.int k] = some (.str ⟨#[k.toNat]⟩) := by
  show (if 0 ≤ k ∧ k ≤ 256 then some (Dat.str ⟨#[k.toNat]⟩) else none) = _
  rw [if_pos ⟨h, h'⟩]
theorem spel_test {n : Nat} {st : LSt} {pre : List Dat} {k : Int} (hs : st.get (Str.ofString "waiting") = some (.own (pre ++ [.int k]))) (hg : st.get (Str.ofString "ISEOF") = some .glo) (hl : pre.length < 3000) :
    tst (Itp.at fSpel.O (n + 8)) st (tstOf (stm 14 1)) = some (!decide (k = 0)) := by
  (conv in (stm _ _) => whnf); simp +decide [LSt.get_put, hs, hg, idxLast _ _ (Nat.lt_of_lt_of_le hl (by decide)), spel_eof, bi_eof]
structure SpSt (P : List (Int × Int)) (st : LSt) (w : List Dat) (x : Str) : Prop where
  w : st.get (Str.ofString "waiting") = some (.own w)
  t : st.get (Str.ofString "text") = some (.val (.str x))
  p : st.get (Str.ofString "pairs") = some (.val (dP P))
  e : st.get (Str.ofString "ISEOF") = some .glo
  i : st.get (Str.ofString "ISTERMINAL") = some .glo
  c : st.get (Str.ofString "chr") = some .glo
section
variable {P : List (Int × Int)} {n : Nat} {st : LSt} {pre : List Dat} {x : Str}
noncomputable def spS (st : LSt) (pre : List Dat) (k : Int) : LSt := (st.put (Str.ofString "waiting") (.own pre)).put (Str.ofString "last") (.val (.int k))
theorem spel_pop {k : Int} (h : SpSt P st (pre ++ [.int k]) x) (hl : pre.length < 3000) : SpSt P (spS st pre k) pre x ∧ (spS st pre k).get (Str.ofString "last") = some (.val (.int k)) ∧
    exS fSpel.O (Itp.at fSpel.O (n + 13)) st (bs (stm 14 1) 0) = some (.nx, spS st pre k) ∧ tst (Itp.at fSpel.O (n + 12)) (spS st pre k) (tstOf (bs (stm 14 1) 1)) = some (decide (k < 256)) := by
  have h2 : pre.length + 1 ≤ 4096 := Nat.le_trans (Nat.succ_le_of_lt hl) (by decide)
  have l : (spS st pre k).get (Str.ofString "last") = some (.val (.int k)) := spt
  have i : (spS st pre k).get (Str.ofString "ISTERMINAL") = some .glo := npt (npt h.i rfl) rfl
  refine ⟨⟨npt spt rfl, npt (npt h.t rfl) rfl, npt (npt h.p rfl) rfl, npt (npt h.e rfl) rfl, i, npt (npt h.c rfl) rfl⟩, l, ?_, ?_⟩
  · (conv in (bs _ _) => whnf); simp +decide [h.w, h2]; rfl
  · (conv in (bs _ _) => whnf); simp +decide [l, i, spel_term, bi_term]
theorem spel_blk : blk (stm 14 1) = [bs (stm 14 1) 0, bs (stm 14 1) 1] := rfl
theorem spel_lf {c : Int} (h : SpSt P st (pre ++ [.int c]) x) (h0 : 0 < c) (h1 : c < 256) (hl : pre.length < 3000) (hx : x.length < 3000) :
    ∃ st', (Itp.at fSpel.O (n + 14)).exs st (blk (stm 14 1)) = some (.nx, st') ∧ SpSt P st' pre (x ++ sOf [c]) := by
  have h3 : x.length + Str.length ⟨#[c.toNat]⟩ ≤ 4096 := Nat.le_trans (Nat.succ_le_of_lt hx) (by decide)
  obtain ⟨H, l, e1, e2⟩ := spel_pop (n := n) h hl
  have hb := bi_chr c (Int.le_of_lt h0) (Int.le_of_lt h1)
  rw [decide_eq_true h1] at e2
  refine ⟨(spS st pre c).put (Str.ofString "text") (.val (.str (x ++ sOf [c]))), ?_, npt H.w rfl, spt, npt H.p rfl, npt H.e rfl, npt H.i rfl, npt H.c rfl⟩
  rw [spel_blk]
  refine ex_cons e1 (ex_cons ?_ rfl)
  rw [if_t (fun _ _ => rfl) e2]
  (conv in (bs _ _) => whnf); simp +decide [H.t, H.c, l, h3, hb, sOf]
theorem spel_nd {k : Nat} {l r : Int} (h : SpSt P st (pre ++ [.int (256 + (k : Int))]) x) (hP : P.length ≤ 64) (hk : P[k]? = some (l, r)) (hl : pre.length < 3000) :
    ∃ st', (Itp.at fSpel.O (n + 14)).exs st (blk (stm 14 1)) = some (.nx, st') ∧ SpSt P st' (pre ++ [.int r] ++ [.int l]) x := by
  have h1 : idxAt (List.map dPair P) ((k : Int)) = some k := idxNat _ _ (by rw [List.length_map]; exact (List.getElem?_eq_some_iff.mp hk).1) (by rw [List.length_map]; exact Nat.le_trans hP (by decide))
  have h2 : 256 + (k : Int) - 256 = k := by rw [Int.add_comm]; exact Int.add_sub_cancel _ _
  have h3 : pre.length + 2 ≤ 4096 := Nat.le_trans (Nat.succ_le_succ (Nat.succ_le_of_lt hl)) (by decide)
  have h4 : idxAt [Dat.int l, .int r] 0 = some 0 := rfl
  have h5 : idxAt [Dat.int l, .int r] 1 = some 1 := rfl
  have h6 : ¬ (256 + (k : Int) < 256) := Int.not_lt.mpr (Int.le_add_of_nonneg_right (Int.natCast_nonneg k))
  obtain ⟨H, l', e1, e2⟩ := spel_pop (n := n) h hl
  rw [decide_eq_false h6] at e2
  rw [List.append_assoc]
  refine ⟨(spS st pre (256 + (k : Int))).put (Str.ofString "waiting") (.own (pre ++ [.int r, .int l])), ?_, spt, npt H.t rfl, npt H.p rfl, npt H.e rfl, npt H.i rfl, npt H.c rfl⟩
  rw [spel_blk]
  refine ex_cons e1 (ex_cons ?_ rfl)
  rw [if_f (fun _ _ => rfl) e2]
  (conv in (bs _ _) => whnf); simp +decide [H.w, H.p, l', h1, h2, hk, h3, h4, h5, dP, dPair, dI]
end
end Mine
end

section
open PySem PySem.W PyProof.Rows Builtin.Str
namespace Mine
section
variable {P : List (Int × Int)} {n : Nat} {st st1 : LSt} {pre : List Dat} {x : Str}
theorem spel_step {k : Int} (h : SpSt P st (pre ++ [.int k]) x) (hk : k ≠ 0) (hl : pre.length < 3000) (e : (Itp.at fSpel.O (n + 1 + 14)).exs st (blk (stm 14 1)) = some (.nx, st1)) :
    (Itp.at fSpel.O (n + 15 + 1)).wh st (tstOf (stm 14 1)) (blk (stm 14 1)) = (Itp.at fSpel.O (n + 15)).wh st1 (tstOf (stm 14 1)) (blk (stm 14 1)) := by
  have h1 := spel_test (n := n + 7) h.w h.e hl
  rw [decide_eq_false hk] at h1
  rw [wh_c, h1, Option.bind_some, if_pos (show (!false) = true from rfl), e]
  rfl
noncomputable def SpelT (P : List (Int × Int)) (t : Tr) : Prop := t.Wf P → ∀ (q : Nat) (st : LSt) (pre : List Dat) (x : Str), pre.length + t.cnt < 2000 → x.length + t.txt.length < 2000 → SpSt P st (pre ++ [.int t.sym]) x →
  ∃ st', (Itp.at fSpel.O (q + 15 + t.cnt)).wh st (tstOf (stm 14 1)) (blk (stm 14 1)) = (Itp.at fSpel.O (q + 15)).wh st' (tstOf (stm 14 1)) (blk (stm 14 1)) ∧ SpSt P st' pre (x ++ sOf t.txt)
theorem app_len (x : Str) (xs : List Int) : (x ++ sOf xs).length = x.length + xs.length := by
  show (x.cps ++ _).size = _
  rw [Array.size_append]
  exact congrArg (x.length + ·) (sOf_len xs)
theorem app_app (x y z : Str) : x ++ y ++ z = x ++ (y ++ z) := by
  show (⟨x.cps ++ y.cps ++ z.cps⟩ : Str) = ⟨x.cps ++ (y.cps ++ z.cps)⟩
  rw [Array.append_assoc]
theorem three_le {a l r : Nat} (h : a + (l + r + 1) < 2000) : a < 3000 ∧ a + 1 + l < 2000 ∧ a + r < 2000 := by omega
theorem spel_loop (hP : P.length ≤ 64) (t : Tr) : SpelT P t := by
  induction t with
  | lf c =>
    intro wf q st pre x hl hx h
    obtain ⟨st1, e1, s1⟩ := spel_lf (n := q + 1) h wf.1 wf.2 (Nat.lt_of_le_of_lt (Nat.le_add_right _ _) (Nat.lt_trans hl (by decide))) (Nat.lt_of_le_of_lt (Nat.le_add_right _ _) (Nat.lt_trans hx (by decide)))
    exact ⟨st1, spel_step h (Int.ne_of_gt wf.1) (Nat.lt_of_le_of_lt (Nat.le_add_right _ _) (Nat.lt_trans hl (by decide))) e1, s1⟩
  | nd k l r ihl ihr =>
    intro wf q st pre x hl hx h
    have ht : (Tr.nd k l r).txt = l.txt ++ r.txt := rfl
    obtain ⟨a1, a2, a3⟩ := three_le hl
    rw [ht, List.length_append, ← Nat.add_assoc] at hx
    obtain ⟨st1, e1, s1⟩ := spel_nd (n := q + (l.cnt + r.cnt) + 1) h hP wf.1 a1
    obtain ⟨st2, e2, s2⟩ := ihl wf.2.2.2.1 (q + r.cnt) st1 _ x (by rw [List.length_append]; exact a2) (Nat.lt_of_le_of_lt (Nat.le_add_right _ _) hx) s1
    obtain ⟨st3, e3, s3⟩ := ihr wf.2.2.2.2 q st2 pre (x ++ sOf l.txt) a3 (by rw [app_len]; exact hx) s2
    refine ⟨st3, ?_, by rw [ht, ← sOf_app, ← app_app]; exact s3⟩
    have e : q + (l.cnt + r.cnt) + 15 = q + r.cnt + 15 + l.cnt := by rw [Nat.add_comm l.cnt, ← Nat.add_assoc, Nat.add_right_comm _ l.cnt]
    have en : q + 15 + (Tr.nd k l r).cnt = q + (l.cnt + r.cnt) + 15 + 1 := by
      show q + 15 + (l.cnt + r.cnt) + 1 = _
      rw [Nat.add_right_comm q 15]
    rw [en, spel_step h (Int.ne_of_gt (Int.lt_of_lt_of_le (by decide) (Int.le_add_of_nonneg_right (Int.natCast_nonneg k)))) a1 e1, e, e2, Nat.add_right_comm q r.cnt 15, e3]
end
theorem spel_body : bodyN 14 = [stm 14 0, stm 14 1, stm 14 2] := rfl
theorem spel_w (I : Itp) (O : Orc) (st : LSt) : exS O I st (stm 14 1) = I.wh st (tstOf (stm 14 1)) (blk (stm 14 1)) := rfl
theorem spel_eq {P : List (Int × Int)} {t : Tr} (hP : P.length ≤ 64) (wf : t.Wf P) (hl : t.cnt ≤ 50) : spSpel [dP P, .int t.sym] = some (.str (sOf t.txt)) := by
  show outOf ((Itp.at fSpel.O 100).exs [(Str.ofString "pairs", LV.val (dP P)), (Str.ofString "symbol", LV.val (.int t.sym)), (Str.ofString "ISEOF", LV.glo), (Str.ofString "ISTERMINAL", LV.glo), (Str.ofString "chr", LV.glo)] (bodyN 14)) = _
  rw [spel_body, exs_c]
  have h0 : exS fSpel.O (Itp.at fSpel.O 99) [(Str.ofString "pairs", LV.val (dP P)), (Str.ofString "symbol", LV.val (.int t.sym)), (Str.ofString "ISEOF", LV.glo), (Str.ofString "ISTERMINAL", LV.glo), (Str.ofString "chr", LV.glo)] (stm 14 0) =
     some (.nx, [(Str.ofString "pairs", LV.val (dP P)), (Str.ofString "symbol", LV.val (.int t.sym)), (Str.ofString "ISEOF", LV.glo), (Str.ofString "ISTERMINAL", LV.glo), (Str.ofString "chr", LV.glo), (Str.ofString "waiting", .own [.int 0, .int t.sym]), (Str.ofString "text", .val (.str (Str.ofString "")))]) := rfl
  rw [h0]
  simp only [Option.bind_some]
  obtain ⟨n, hn⟩ := Nat.exists_eq_add_of_le (show t.cnt ≤ 82 from Nat.le_trans hl (by decide))
  have ht : t.txt.length < 2000 := Nat.lt_of_le_of_lt (Nat.le_mul_of_pos_left _ (Nat.zero_lt_succ 1)) (Nat.lt_of_le_of_lt (Nat.le_of_eq (cnt_len t).symm) (Nat.lt_of_le_of_lt (Nat.succ_le_succ hl) (by decide)))
  obtain ⟨st', e1, s1⟩ := spel_loop hP t wf (n + 1) [(Str.ofString "pairs", LV.val (dP P)), (Str.ofString "symbol", LV.val (.int t.sym)), (Str.ofString "ISEOF", LV.glo), (Str.ofString "ISTERMINAL", LV.glo), (Str.ofString "chr", LV.glo), (Str.ofString "waiting", .own [.int 0, .int t.sym]), (Str.ofString "text", .val (.str (Str.ofString "")))] [.int 0] (Str.ofString "") (Nat.lt_of_le_of_lt (Nat.add_le_add_left hl 1) (by decide)) (Nat.lt_of_le_of_lt (Nat.le_of_eq (Nat.zero_add _)) ht) ⟨rfl, rfl, rfl, rfl, rfl, rfl⟩
  have e2 : (Itp.at fSpel.O (n + 1 + 15)).wh st' (tstOf (stm 14 1)) (blk (stm 14 1)) = some (.nx, st') := by
    rw [wh_c, spel_test (n := n + 7) (pre := []) (k := 0) s1.w s1.e (by decide)]
    rfl
  rw [e2, show n + 1 + 15 + t.cnt = t.cnt + n + 16 by rw [Nat.add_comm _ t.cnt, ← Nat.add_assoc, ← Nat.add_assoc], ← hn] at e1
  have s1 := s1.t
  rw [exs_c, spel_w, e1]
  simp only [Option.bind_some]
  have e : Str.ofString "" ++ sOf t.txt = sOf t.txt := by
    show (⟨(Str.ofString "").cps ++ (sOf t.txt).cps⟩ : Str) = sOf t.txt
    have : (Str.ofString "").cps = #[] := by decide
    rw [this, Array.empty_append]
  rw [e] at s1
  have h2 : (Itp.at fSpel.O 98).exs st' [stm 14 2] = some (.ret (.st (.str (sOf t.txt))), st') := by
    (conv in (stm _ _) => whnf); simp +decide [LSt.get_put, s1]
  rw [h2]
  rfl
end Mine
end

section
open PySem PySem.W PyProof.Rows Builtin.Str
namespace Mine
noncomputable def par (b : Int) : List Int → Int → Option Int
  | [], _ => none
  | y :: ys, x => if y = x then some b else par y ys x
theorem par_none {x : Int} {xs : List Int} : ∀ {b : Int}, par b xs x = none ↔ x ∉ xs := by
  induction xs with
  | nil => exact fun {_} => iff_of_true rfl List.not_mem_nil
  | cons y ys ih =>
    intro b
    rw [par, List.mem_cons, not_or]
    by_cases h : y = x
    · rw [if_pos h]; exact iff_of_false nofun fun z => z.1 h.symm
    · rw [if_neg h, ih]; exact (and_iff_right (Ne.symm h)).symm
theorem par_idx {x : Int} {xs : List Int} : ∀ {b u : Int}, b ≠ x → par b xs x = some u → ∃ i : Nat, (b :: xs).idxOf x = i + 1 ∧ (b :: xs)[i]? = some u ∧ i < xs.length := by
  induction xs with
  | nil => exact fun _ e => nomatch e
  | cons y ys ih =>
    intro b u hb e
    rw [par] at e
    rw [List.idxOf_cons, beq_false_of_ne hb]
    by_cases h : y = x
    · rw [if_pos h] at e
      cases e
      refine ⟨0, ?_, rfl, Nat.zero_lt_succ _⟩
      rw [List.idxOf_cons, h, beq_self_eq_true]
      rfl
    · rw [if_neg h] at e
      obtain ⟨i, e1, e2, e3⟩ := ih h e
      exact ⟨i + 1, congrArg (· + 1) e1, e2, Nat.succ_lt_succ e3⟩
noncomputable def badL (b : Int) (xs ys : List Int) (k : Nat) (p : Int × Int) : Bool := match par b xs p.1, par b ys p.2 with
  | some u, some v => decide (256 + (k : Int) < u) && decide (256 + (k : Int) ≤ v)
  | _, _ => false
noncomputable def badK (P : List (Int × Int)) (b : Int) (xs ys : List Int) (k : Nat) : Bool := match P[k]? with
  | some p => badL b xs ys k p
  | none => false
structure AlSt (P : List (Int × Int)) (b : Int) (xs ys : List Int) (st : LSt) : Prop where
  p : st.get (Str.ofString "pairs") = some (.val (dP P))
  a : st.get (Str.ofString "ahead") = some (.val (dI (b :: xs)))
  h : st.get (Str.ofString "behind") = some (.val (dI (b :: ys)))
theorem ok_ints : ∀ xs : List Int, okL (xs.map .int) = true
  | [] => rfl
  | x :: r => by
    show (okD 6 (.int x) && okL (r.map .int)) = true
    rw [ok_ints r]; rfl
theorem any_ints (x : Int) : ∀ xs : List Int, (xs.map Dat.int).any (deq 8 (.int x)) = decide (x ∈ xs)
  | [] => by simp
  | y :: r => by
    rw [List.map_cons, List.any_cons, any_ints x r]
    show (decide (x = y) || _) = _
    by_cases h : x = y <;> simp [h]
theorem any_ints' (x : Int) (xs : List Int) : xs.any (deq 8 (.int x) ∘ Dat.int) = decide (x ∈ xs) := by
  rw [← any_ints x xs, List.any_map]
theorem intsOf_map : ∀ xs : List Int, intsOf (xs.map .int) = some xs
  | [] => rfl
  | x :: r => by
    show (intsOf (r.map .int)).map (x :: ·) = _
    rw [intsOf_map r]; rfl
theorem clip_nat (n i : Nat) : clipAt n (i : Int) = min i n := by
  unfold clipAt
  rw [if_neg (Int.not_lt.mpr (Int.natCast_nonneg i))]
  rcases Nat.le_total i n with h | h
  · rw [Int.min_eq_left (Int.ofNat_le.mpr h), Int.max_eq_right (Int.natCast_nonneg i), Nat.min_eq_left h]; rfl
  · rw [Int.min_eq_right (Int.ofNat_le.mpr h), Int.max_eq_right (Int.natCast_nonneg n), Nat.min_eq_right h]; rfl
theorem clip_m1 (n : Nat) : clipAt n (-1) = n - 1 := by
  unfold clipAt
  rw [if_pos (by decide)]
  cases n with
  | zero => rfl
  | succ n =>
    have e : (-1 : Int) + ((n + 1 : Nat) : Int) = (n : Int) := by rw [Int.natCast_succ, Int.add_comm, Int.add_assoc]; exact Int.add_zero _
    rw [e, Int.min_eq_left (Int.ofNat_le.mpr (Nat.le_succ n)), Int.max_eq_right (Int.natCast_nonneg n)]; rfl
section
variable {α : Type} (ds : List α)
theorem slc_drop (i : Nat) : slcD ds (some (i : Int)) none = ds.drop i := by
  show (ds.drop (clipAt ds.length i)).take (ds.length - clipAt ds.length i) = _
  rw [clip_nat]
  by_cases h : i ≤ ds.length
  · rw [Nat.min_eq_left h]
    exact List.take_of_length_le (by simp)
  · rw [Nat.min_eq_right (by omega), List.drop_eq_nil_of_le (by omega : ds.length ≤ i)]
    simp
theorem slc_take (i : Nat) : slcD ds none (some (i : Int)) = ds.take i := by
  show (ds.drop 0).take (clipAt ds.length i - 0) = _
  rw [clip_nat, List.drop_zero, Nat.sub_zero]
  by_cases h : i ≤ ds.length
  · rw [Nat.min_eq_left h]
  · rw [Nat.min_eq_right (by omega), List.take_of_length_le (by omega), List.take_of_length_le (by omega : ds.length ≤ i)]
theorem slc_last : slcD ds (some (-1)) none = ds.drop (ds.length - 1) := by
  show (ds.drop (clipAt ds.length (-1))).take (ds.length - clipAt ds.length (-1)) = _
  rw [clip_m1]
  exact List.take_of_length_le (by simp)
theorem slc_both (i j : Nat) : slcD ds (some (i : Int)) (some (j : Int)) = (ds.take j).drop i := by
  show (ds.drop (clipAt ds.length i)).take (clipAt ds.length j - clipAt ds.length i) = _
  rw [clip_nat, clip_nat, List.drop_take]
  by_cases h : i ≤ ds.length
  · rw [Nat.min_eq_left h]
    by_cases h' : j ≤ ds.length
    · rw [Nat.min_eq_left h']
    · rw [Nat.min_eq_right (by omega), List.take_of_length_le (by simp), List.take_of_length_le (by simp; omega)]
  · rw [Nat.min_eq_right (show ds.length ≤ i by omega), List.drop_eq_nil_of_le (show ds.length ≤ ds.length by omega), List.drop_eq_nil_of_le (show ds.length ≤ i by omega)]
    simp
theorem slc_mid : slcD ds (some 2) (some (-1)) = (ds.dropLast).drop 2 := by
  show (ds.drop (clipAt ds.length ((2 : Nat) : Int))).take (clipAt ds.length (-1) - clipAt ds.length ((2 : Nat) : Int)) = _
  rw [clip_nat, clip_m1, List.dropLast_eq_take, List.drop_take]
  by_cases h : 2 ≤ ds.length
  · rw [Nat.min_eq_left h]
  · rw [Nat.min_eq_right (by omega), List.drop_eq_nil_of_le (by omega : ds.length ≤ 2)]
    simp
end
theorem slc1 (b : Int) (xs : List Int) : slcD (Dat.int b :: xs.map Dat.int) (some 1) none = xs.map Dat.int := slc_drop (Dat.int b :: xs.map Dat.int) 1
theorem get_ints {xs : List Int} {i : Nat} {u : Int} (h : xs[i]? = some u) : (xs.map Dat.int)[i]? = some (.int u) := by rw [List.getElem?_map, h]; rfl
theorem along_turn {P : List (Int × Int)} {b : Int} {xs ys : List Int} {n : Nat} {st : LSt} {k : Nat} (h : AlSt P b xs ys st) (hP : P.length ≤ 64) (hx : xs.length ≤ 64) (hy : ys.length ≤ 64) {l r : Int} (hk : P[k]? = some (l, r)) (hbl : b ∉ xs) (hbr : b ∉ ys) :
    ∃ st', (Itp.at fAlong.O (n + 24)).exs (st.put (Str.ofString "k") (.val (.int (k : Int)))) (blk (stm 16 2)) = some (if badL b xs ys k (l, r) then .ret (.st (.bool false)) else .nx, st') ∧ AlSt P b xs ys st' := by
  have h1 : idxAt (List.map dPair P) ((k : Int)) = some k := idxNat _ _ (by rw [List.length_map]; exact (List.getElem?_eq_some_iff.mp hk).1) (by rw [List.length_map]; exact Nat.le_trans hP (by decide))
  have h4 : idxAt [Dat.int l, .int r] 0 = some 0 := rfl
  have h5 : idxAt [Dat.int l, .int r] 1 = some 1 := rfl
  have o0 : ∀ x, okD 6 (Dat.int x) = true := fun _ => rfl
  have hx1 : xs.length + 1 ≤ 4096 := Nat.le_trans (Nat.succ_le_succ hx) (by decide)
  have hy1 : ys.length + 1 ≤ 4096 := Nat.le_trans (Nat.succ_le_succ hy) (by decide)
  obtain ⟨st1, e1⟩ : ∃ st1, st1 = st.put (Str.ofString "k") (.val (.int (k : Int))) := ⟨_, rfl⟩
  have k1 : st1.get (Str.ofString "k") = some (.val (.int (k : Int))) := e1 ▸ spt
  have H : AlSt P b xs ys st1 := e1 ▸ ⟨npt h.p rfl, npt h.a rfl, npt h.h rfl⟩
  rw [← e1]
  have t1 : tst (Itp.at fAlong.O (n + 23)) st1 (tstOf (bs (stm 16 2) 0)) = some (decide (l ∈ xs) && decide (r ∈ ys)) := by
    (conv in (bs _ _) => whnf); simp +decide [k1, H.p, H.a, H.h, h1, hk, h4, h5, dP, dPair, dI, slc1, ok_ints, any_ints', o0, hx1, hy1]
    by_cases hm : l ∈ xs
    · rw [if_pos hm, decide_eq_true hm]; rfl
    · rw [if_neg hm, decide_eq_false hm]; rfl
  have b0 : blk (bs (stm 16 2) 0) = [bs (bs (stm 16 2) 0) 0, bs (bs (stm 16 2) 0) 1] := rfl
  show ∃ st', (Itp.at fAlong.O (n + 24)).exs st1 [bs (stm 16 2) 0] = _ ∧ _
  have no : (decide (l ∈ xs) && decide (r ∈ ys)) = false → badL b xs ys k (l, r) = false → ∃ st', (Itp.at fAlong.O (n + 24)).exs st1 [bs (stm 16 2) 0] = some (if badL b xs ys k (l, r) then .ret (.st (.bool false)) else .nx, st') ∧ AlSt P b xs ys st' := fun z hb => by
    rw [z] at t1
    rw [hb]
    exact ⟨st1, ex_cons (by rw [if_f (fun _ _ => rfl) t1]; rfl) rfl, H⟩
  cases hpl : par b xs l with
  | none => exact no (by rw [decide_eq_false (par_none.mp hpl)]; rfl) (by unfold badL; rw [hpl])
  | some u =>
    cases hpr : par b ys r with
    | none => exact no (by rw [decide_eq_false (par_none.mp hpr), Bool.and_false]) (by unfold badL; rw [hpl, hpr])
    | some v =>
      have hm : l ∈ xs := Decidable.byContradiction fun z => by rw [par_none.mpr z] at hpl; cases hpl
      have hm' : r ∈ ys := Decidable.byContradiction fun z => by rw [par_none.mpr z] at hpr; cases hpr
      rw [decide_eq_true hm, decide_eq_true hm'] at t1
      obtain ⟨i, i1, i2, i3⟩ := par_idx (fun z => hbl (by rw [z]; exact hm)) hpl
      obtain ⟨j, j1, j2, j3⟩ := par_idx (fun z => hbr (by rw [z]; exact hm')) hpr
      have hb : badL b xs ys k (l, r) = (decide (256 + (k : Int) < u) && decide (256 + (k : Int) ≤ v)) := by unfold badL; rw [hpl, hpr]
      rw [hb]
      have at4 : ∀ {zs : List Int} {i : Nat} {z : Int}, zs.length ≤ 64 → (b :: zs).idxOf z = i + 1 → i < zs.length → idxAt (Dat.int b :: zs.map .int) ((((b :: zs).idxOf z : Nat) : Int) - 1) = some i := fun {zs i z} q1 q2 q3 => by
        rw [q2, show (((i + 1 : Nat) : Int) - 1) = (i : Int) from (Int.add_sub_cancel (i : Int) 1 : (i : Int) + 1 - 1 = i)]
        exact idxNat _ _ (by rw [List.length_cons, List.length_map]; exact Nat.lt_succ_of_lt q3) (by rw [List.length_cons, List.length_map]; exact Nat.le_trans (Nat.succ_le_succ q1) (by decide))
      have i4 := at4 hx i1 i3
      have j4 := at4 hy j1 j3
      have i5 : (Dat.int b :: xs.map .int)[i]? = some (.int u) := get_ints i2
      have j5 : (Dat.int b :: ys.map .int)[j]? = some (.int v) := get_ints j2
      have n1 : intsOf (Dat.int b :: xs.map .int) = some (b :: xs) := intsOf_map (b :: xs)
      have n2 : intsOf (Dat.int b :: ys.map .int) = some (b :: ys) := intsOf_map (b :: ys)
      have asg : exS fAlong.O (Itp.at fAlong.O (n + 22)) st1 (bs (bs (stm 16 2) 0) 0) = some (.nx, st1.put (Str.ofString "above") (.val (.int u))) := by
        (conv in (bs _ _) => whnf); simp +decide [k1, H.p, H.a, h1, hk, h4, dP, dPair, dI, hm, hx1, n1, i4, i5]
      obtain ⟨st2, e2⟩ : ∃ st2, st2 = st1.put (Str.ofString "above") (.val (.int u)) := ⟨_, rfl⟩
      have k2 : st2.get (Str.ofString "k") = some (.val (.int (k : Int))) := e2 ▸ npt k1 rfl
      have a2 : st2.get (Str.ofString "above") = some (.val (.int u)) := e2 ▸ spt
      have H2 : AlSt P b xs ys st2 := e2 ▸ ⟨npt H.p rfl, npt H.a rfl, npt H.h rfl⟩
      rw [← e2] at asg
      have t2 : tst (Itp.at fAlong.O (n + 21)) st2 (tstOf (bs (bs (stm 16 2) 0) 1)) = some (decide (256 + (k : Int) < u) && decide (256 + (k : Int) ≤ v)) := by
        (conv in (bs _ _) => whnf); simp +decide [k2, a2, H2.p, H2.h, h1, hk, h5, dP, dPair, dI, hm', hy1, n2, j4, j5]
        by_cases hu : 256 + (k : Int) < u
        · rw [if_pos hu, decide_eq_true hu]; rfl
        · rw [if_neg hu, decide_eq_false hu]; rfl
      refine ⟨st2, ?_, H2⟩
      cases hc : decide (256 + (k : Int) < u) && decide (256 + (k : Int) ≤ v) with
      | true =>
        rw [hc] at t2
        refine ex_ret ?_
        rw [if_t (fun _ _ => rfl) t1, b0]
        refine ex_cons asg (ex_ret ?_)
        rw [if_t (fun _ _ => rfl) t2]
        rfl
      | false =>
        rw [hc] at t2
        refine ex_cons ?_ rfl
        rw [if_t (fun _ _ => rfl) t1, b0]
        refine ex_cons asg (ex_cons ?_ rfl)
        rw [if_f (fun _ _ => rfl) t2]
        rfl
end Mine
end

section
open PySem PySem.W PyProof.Rows Builtin.Str
namespace Mine
theorem frz_own {st : LSt} {x : Str} {p : Pos} {ds : List Dat} (h : st.get x = some (.own ds)) : frz st (.Name x p) = st.put x (.val (.list ds)) := by
  show ((st.get x).bind ownO).elim st _ = _
  rw [h]
  rfl
theorem frz_val {st : LSt} {x : Str} {p : Pos} {d : Dat} (h : st.get x = some (.val d)) : frz st (.Name x p) = st := by
  show ((st.get x).bind ownO).elim st _ = _
  rw [h]
  rfl
theorem for_nil (I : Itp) (x : Str) (b : List Stmt) (st : LSt) : forLoop I x b st [] = some (.nx, st) := rfl
theorem for_cons (I : Itp) (x : Str) (b : List Stmt) (st : LSt) (d : Dat) (r : List Dat) : forLoop I x b st (d :: r) = (I.exs (st.put x (.val d)) b).bind fun
    | (.nx, st') => forLoop I x b st' r
    | (.ret v, st') => some (.ret v, st') := rfl
theorem bi_len (ds : List Dat) (h : ds.length ≤ 4096) : builtin (Str.ofString "len") [.list ds] = some (.int ds.length) := by
  show (if ds.length ≤ 4096 then some (Dat.int ds.length) else none) = _
  rw [if_pos h]
theorem bi_lens (x : Str) (h : x.length ≤ 4096) : builtin (Str.ofString "len") [.str x] = some (.int x.length) := by
  show (if x.length ≤ 4096 then some (Dat.int x.length) else none) = _
  rw [if_pos h]
theorem along_body : bodyN 16 = [stm 16 0, stm 16 1, stm 16 2, stm 16 3] := rfl
theorem along_for (I : Itp) (O : Orc) (st : LSt) : exS O I st (stm 16 2) = if O.loc (Str.ofString "k") = false then none else (itemsOf I (evV I) st (tstOf (stm 16 2))).bind fun ds => forLoop I (Str.ofString "k") (blk (stm 16 2)) st ds := rfl
theorem along_loop {P : List (Int × Int)} {b : Int} {xs ys : List Int} {n : Nat} (hP : P.length ≤ 64) (hx : xs.length ≤ 64) (hy : ys.length ≤ 64) (hbl : b ∉ xs) (hbr : b ∉ ys) : ∀ (ks : List Nat) (st : LSt), AlSt P b xs ys st → (∀ k ∈ ks, k < P.length) →
    ∃ st', forLoop (Itp.at fAlong.O (n + 24)) (Str.ofString "k") (blk (stm 16 2)) st (ks.map fun i => .int (i : Nat)) = some (if ks.any (badK P b xs ys) then .ret (.st (.bool false)) else .nx, st') ∧ AlSt P b xs ys st' := by
  intro ks
  induction ks with
  | nil => exact fun st h _ => ⟨st, rfl, h⟩
  | cons k ks ih =>
    intro st h hk
    have hkl := hk k (.head _)
    obtain ⟨st1, e1, h1⟩ := along_turn (n := n) h hP hx hy (l := P[k].1) (r := P[k].2) (List.getElem?_eq_getElem hkl) hbl hbr
    have hb : badK P b xs ys k = badL b xs ys k (P[k].1, P[k].2) := by
      unfold badK; rw [List.getElem?_eq_getElem hkl]
    rw [List.map_cons, for_cons, e1, List.any_cons, hb]
    cases badL b xs ys k (P[k].1, P[k].2) with
    | true => exact ⟨st1, rfl, h1⟩
    | false => exact ih st1 h1 fun k m => hk k (.tail _ m)
theorem along_sfn (ds : List Dat) : fAlong.O.fn (Str.ofString "_law_side") ds = spSide ds := rfl
theorem bi_side (a b c : Dat) : builtin (Str.ofString "_law_side") [a, b, c] = none := by cases a <;> rfl
noncomputable def alongT (P : List (Int × Int)) (b : Int) (xs ys : List Int) : Bool := !(List.range P.length).any (badK P b xs ys)
theorem along_run {P : List (Int × Int)} {s t : Tr} {b : Int} (hP : P.length ≤ 64) (ws : s.Wf P) (wt : t.Wf P) (hs : s.rsp.length ≤ 50) (ht : t.lsp.length ≤ 50) (hbl : b ∉ s.rsp) (hbr : b ∉ t.lsp) {st : LSt}
    (g1 : st.get (Str.ofString "pairs") = some (.val (dP P))) (g2 : st.get (Str.ofString "one") = some (.val (.int s.sym))) (g3 : st.get (Str.ofString "other") = some (.val (.int t.sym))) (g4 : st.get (Str.ofString "bound") = some (.val (.int b)))
    (g5 : st.get (Str.ofString "_law_side") = some .glo) (g6 : st.get (Str.ofString "range") = some .glo) (g7 : st.get (Str.ofString "len") = some .glo) :
    outOf ((Itp.at fAlong.O 100).exs st (bodyN 16)) = some (.bool (alongT P b s.rsp t.lsp)) := by
  have e1 : spSide [dP P, .int s.sym, .int 1] = some (dI s.rsp) := by
    have := side_eq (w := 1) (by decide) hP ws (by rw [Tr.spn1]; exact hs)
    rw [Tr.spn1] at this; exact this
  have e2 : spSide [dP P, .int t.sym, .int 0] = some (dI t.lsp) := by
    have := side_eq (w := 0) (by decide) hP wt (by rw [Tr.spn0]; exact ht)
    rw [Tr.spn0] at this; exact this
  have l1 : s.rsp.length + 1 ≤ 4096 := Nat.le_trans (Nat.succ_le_succ hs) (by decide)
  have l2 : t.lsp.length + 1 ≤ 4096 := Nat.le_trans (Nat.succ_le_succ ht) (by decide)
  have s0 : exS fAlong.O (Itp.at fAlong.O 99) st (stm 16 0) = some (.nx, st.put (Str.ofString "ahead") (.val (dI (b :: s.rsp)))) := by
    (conv in (stm _ _) => whnf); simp +decide [g1, g2, g4, g5, along_sfn, bi_side, e1, dI, l1, Nat.add_comm 1]
  obtain ⟨st1, hst1⟩ : ∃ st1, st1 = st.put (Str.ofString "ahead") (.val (dI (b :: s.rsp))) := ⟨_, rfl⟩
  have p1 : ∀ {x v}, st.get x = v → decide (x = Str.ofString "ahead") = false → st1.get x = v := fun q z => hst1 ▸ npt q z
  have s1 : exS fAlong.O (Itp.at fAlong.O 98) st1 (stm 16 1) = some (.nx, st1.put (Str.ofString "behind") (.val (dI (b :: t.lsp)))) := by
    have g1 := p1 g1 rfl
    have g3 := p1 g3 rfl
    have g4 := p1 g4 rfl
    have g5 := p1 g5 rfl
    (conv in (stm _ _) => whnf); simp +decide [g1, g3, g4, g5, along_sfn, bi_side, e2, dI, l2, Nat.add_comm 1]
  rw [along_body, exs_c, s0, Option.bind_some]
  show outOf ((Itp.at fAlong.O 99).exs (st.put (Str.ofString "ahead") (.val (dI (b :: s.rsp)))) _) = _
  rw [← hst1, exs_c, s1, Option.bind_some]
  show outOf ((Itp.at fAlong.O 98).exs (st1.put (Str.ofString "behind") (.val (dI (b :: t.lsp)))) _) = _
  obtain ⟨st2, hst2⟩ : ∃ st2, st2 = st1.put (Str.ofString "behind") (.val (dI (b :: t.lsp))) := ⟨_, rfl⟩
  rw [← hst2]
  have A2 : AlSt P b s.rsp t.lsp st2 := hst2 ▸ ⟨npt (p1 g1 rfl) rfl, npt (hst1 ▸ spt) rfl, spt⟩
  have hr : itemsOf (Itp.at fAlong.O 97) (evV (Itp.at fAlong.O 97)) st2 (tstOf (stm 16 2)) = some ((List.range P.length).map fun i => .int (i : Nat)) := by
    have k1 : st2.get (Str.ofString "range") = some .glo := hst2 ▸ npt (p1 g6 rfl) rfl
    have k2 : st2.get (Str.ofString "len") = some .glo := hst2 ▸ npt (p1 g7 rfl) rfl
    have h2 : P.length ≤ 4096 := Nat.le_trans hP (by decide)
    have h1 : (P.length : Int) ≤ 4096 := Int.ofNat_le.mpr h2
    (conv in (stm _ _) => whnf); simp +decide [LSt.get_put, isGlo_of, k1, k2, A2.p, dP, bi_len, h1, h2]
  obtain ⟨st3, e3, A3⟩ := along_loop (n := 73) hP (Nat.le_trans hs (by decide)) (Nat.le_trans ht (by decide)) hbl hbr (List.range P.length) st2 A2 (fun k m => List.mem_range.mp m)
  rw [exs_c, along_for, if_neg (by decide), hr]
  simp only [Option.bind_some]
  rw [e3]
  unfold alongT
  cases (List.range P.length).any (badK P b s.rsp t.lsp) with
  | true => rfl
  | false => rfl
theorem along_eq {P : List (Int × Int)} {s t : Tr} {b : Int} (hP : P.length ≤ 64) (ws : s.Wf P) (wt : t.Wf P) (hs : s.rsp.length ≤ 50) (ht : t.lsp.length ≤ 50) (hbl : b ∉ s.rsp) (hbr : b ∉ t.lsp) :
    spAlong [dP P, .int s.sym, .int t.sym, .int b] = some (.bool (alongT P b s.rsp t.lsp)) :=
  along_run hP ws wt hs ht hbl hbr (st := [(Str.ofString "pairs", LV.val (dP P)), (Str.ofString "one", LV.val (.int s.sym)), (Str.ofString "other", LV.val (.int t.sym)), (Str.ofString "bound", LV.val (.int b)), (Str.ofString "_law_side", LV.glo), (Str.ofString "range", LV.glo), (Str.ofString "len", LV.glo)]) rfl rfl rfl rfl rfl rfl rfl
end Mine
end

section
open PySem PySem.W PyProof.Rows Builtin.Str
namespace Mine
theorem mapO_eq {α β : Type} {f : α → Option β} {g : α → β} {ds : List α} : (∀ d ∈ ds, f d = some (g d)) → mapO f ds = some (ds.map g) := by
  induction ds with
  | nil => exact fun _ => rfl
  | cons d r ih =>
    intro h
    rw [mapO_c, h d (.head _), bnd_some, ih fun x m => h x (.tail _ m)]
    rfl
theorem flat_filter {α β : Type} (p : α → Bool) (g : α → β) (ds : List α) : (ds.map fun d => if p d then [g d] else []).flatten = (ds.filter p).map g := by
  induction ds with
  | nil => rfl
  | cons d r ih =>
    rw [List.map_cons, List.flatten_cons, ih, List.filter_cons]
    cases p d <;> rfl
theorem flat_one {α β : Type} (g : α → β) (ds : List α) : (ds.map fun d => [g d]).flatten = ds.map g := (flat_filter (fun _ => true) g ds).trans (by rw [List.filter_eq_self.mpr fun _ _ => rfl])
noncomputable def gens (e : Expr) : List Comprehension := pick e [] (lc := fun _ g _ => g)
noncomputable def rhs (s : Stmt) : Expr := (sp3 s).1
noncomputable def gE (e : Expr) : Expr := pick e e (lc := fun x _ _ => x)
noncomputable def gS (e : Expr) : Scope := pick e default (lc := fun _ _ s => s)
noncomputable def gG (e : Expr) : Comprehension := (gens e).headD default
noncomputable def gX (e : Expr) : Str := (nmOf (gG e).target).getD ⟨#[]⟩
noncomputable def gI (e : Expr) : Expr := (gG e).iter
noncomputable def gT (e : Expr) : Expr := (gG e).ifs.headD (.Constant .none 0 default)
section
variable (e it t x' : Expr) (x : Str) (q p : Pos) (ifs : List Expr) (n : Int) (gs : List Comprehension) (sc : Scope) (ts : List Expr)
@[simp] theorem rhs_1 : rhs (.Assign ts e p) = e := rfl
@[simp] theorem gE_1 : gE (.ListComp e gs sc p) = e := rfl
@[simp] theorem gX_1 : gX (.ListComp e (⟨.Name x q, it, ifs, n⟩ :: gs) sc p) = x := rfl
@[simp] theorem gI_1 : gI (.ListComp e (⟨t, it, ifs, n⟩ :: gs) sc p) = it := rfl
@[simp] theorem gT_1 : gT (.ListComp e (⟨t, it, [x'], n⟩ :: gs) sc p) = x' := rfl
end
section
variable {O : Orc} {I : Itp} {st cap : LSt} {e : Expr} {ds : List Dat} {x : Str} {c : Comprehension} {sc : Scope}
theorem comp_eq {elt : Expr} {f : LSt → Option (List Dat)} (F : Dat → List Dat) (hx : genOf c = some x) (hi1 : c.ifs.length ≤ 1) (hb : blockOk O.capt sc [x] = true) (hf : freeOf O.capt st sc.names = some cap) (hi : itemsOf I (evD I) st c.iter = some ds)
    (hf' : f = fun st' => (evV I st' elt).map ([·])) (he : ∀ d ∈ ds, turnF I f x cap c.ifs d = some (F d)) (hl : (ds.map F).flatten.length ≤ 4096) : compF O I st elt [c] sc = some (ds.map F).flatten := by
  show (genOf c).bind (fun x => comp1 O I st elt x c.iter c.ifs sc) = _
  rw [hx]
  show comp1 O I st elt x c.iter c.ifs sc = _
  unfold comp1
  rw [if_pos (by rw [hb]; exact decide_eq_true hi1), hf]
  show (itemsOf I (evD I) st c.iter).bind _ = _
  rw [hi]
  show ((mapO (turnF I _ x cap c.ifs) ds).map List.flatten).bind _ = _
  rw [← hf', mapO_eq he]
  exact if_pos hl
theorem lc_map (g : Dat → Dat) (hf : (evF O I st e, genOf (gG e), (gG e).ifs) = (compF O I st (gE e) [gG e] (gS e), some (gX e), [])) (hb : blockOk O.capt (gS e) [gX e] = true) (hfr : freeOf O.capt st (gS e).names = some cap) (hi : itemsOf I (evD I) st (gI e) = some ds)
    (he : ∀ d ∈ ds, evV I ((gX e, .val d) :: cap) (gE e) = some (g d)) (hl : ds.length ≤ 4096) : evF O I st e = some (ds.map g) := by
  obtain ⟨h1, h2⟩ := Prod.mk.inj hf
  obtain ⟨h2, h3⟩ := Prod.mk.inj h2
  have e1 := flat_one g ds
  rw [h1, ← e1]
  refine comp_eq _ h2 (by rw [h3]; exact Nat.zero_le _) hb hfr hi rfl (fun d m => ?_) (by rw [e1, List.length_map]; exact hl)
  rw [h3]
  show (evV I ((gX e, .val d) :: cap) (gE e)).map ([·]) = _
  rw [he d m]
  rfl
theorem lc_filter (p : Dat → Bool) (g : Dat → Dat) (hf : (evF O I st e, genOf (gG e), (gG e).ifs) = (compF O I st (gE e) [gG e] (gS e), some (gX e), [gT e])) (hb : blockOk O.capt (gS e) [gX e] = true) (hfr : freeOf O.capt st (gS e).names = some cap) (hi : itemsOf I (evD I) st (gI e) = some ds)
    (ht : ∀ d ∈ ds, tst I ((gX e, .val d) :: cap) (gT e) = some (p d)) (he : ∀ d ∈ ds, p d = true → evV I ((gX e, .val d) :: cap) (gE e) = some (g d)) (hl : ds.length ≤ 4096) : evF O I st e = some ((ds.filter p).map g) := by
  obtain ⟨h1, h2⟩ := Prod.mk.inj hf
  obtain ⟨h2, h3⟩ := Prod.mk.inj h2
  rw [h1, ← flat_filter]
  refine comp_eq _ h2 (by rw [h3]; exact Nat.le_refl _) hb hfr hi rfl (fun d m => ?_) (by rw [flat_filter, List.length_map]; exact Nat.le_trans (List.length_filter_le _ _) hl)
  rw [h3]
  show ((tst I ((gX e, .val d) :: cap) (gT e)).bind fun b => if b then (evV I ((gX e, .val d) :: cap) (gE e)).map ([·]) else some []) = _
  rw [ht d m]
  cases hp : p d with
  | true =>
    show (evV I ((gX e, .val d) :: cap) (gE e)).map ([·]) = _
    rw [he d m hp]
    rfl
  | false => rfl
end
noncomputable def mrg (k : Nat) (l r : Int) (D : List Int) (s : Int) : List Int := if D.getLast? = some l ∧ s = r then D.dropLast ++ [256 + (k : Int)] else D ++ [s]
noncomputable def stageT (k : Nat) (p : Int × Int) (R : List Int) : List Int := R.foldl (mrg k p.1 p.2) []
noncomputable def stepT (P : List (Int × Int)) (R : List Int) (k : Nat) : List Int := match P[k]? with
  | some p => stageT k p R
  | none => R
noncomputable def joinT (P : List (Int × Int)) (xs : List Int) : List Int := (List.range P.length).foldl (stepT P) xs
theorem deq_ints (xs : List Int) : ∀ ys : List Int, deq 8 (.list (xs.map .int)) (.list (ys.map .int)) = decide (xs = ys) := by
  induction xs with
  | nil => exact fun ys => by cases ys <;> rfl
  | cons x xs ih =>
    intro ys
    cases ys with
    | nil => rfl
    | cons y ys =>
      show (decide (x = y) && deq 8 (.list (xs.map .int)) (.list (ys.map .int))) = _
      rw [ih, ← Bool.decide_and]
      exact decide_eq_decide.mpr (by rw [List.cons.injEq])
structure JnSt (P : List (Int × Int)) (k : Nat) (D : List Int) (st : LSt) : Prop where
  p : st.get (Str.ofString "pairs") = some (.val (dP P))
  k : st.get (Str.ofString "k") = some (.val (.int (k : Int)))
  d : st.get (Str.ofString "done") = some (.own (D.map .int))
  r : st.get (Str.ofString "range") = some .glo
  l : st.get (Str.ofString "len") = some .glo
theorem mrg_len (k : Nat) (l r : Int) (D : List Int) (s : Int) : (mrg k l r D s).length ≤ D.length + 1 := by
  unfold mrg
  split
  · simp
  · simp
noncomputable def innF : Stmt := (blk (stm 13 1))[1]?.getD (.Pass default)
theorem join_turn {P : List (Int × Int)} {k : Nat} {D : List Int} {n : Nat} {st : LSt} {l r s : Int} (h : JnSt P k D st) (hP : P.length ≤ 64) (hk : P[k]? = some (l, r)) (hD : D.length ≤ 3000) :
    ∃ st', (Itp.at fJoin.O (n + 20)).exs (st.put (Str.ofString "symbol") (.val (.int s))) (blk innF) = some (.nx, st') ∧ JnSt P k (mrg k l r D s) st' := by
  have h1 : idxAt (List.map dPair P) ((k : Int)) = some k := idxNat _ _ (by rw [List.length_map]; exact (List.getElem?_eq_some_iff.mp hk).1) (by rw [List.length_map]; exact Nat.le_trans hP (by decide))
  have h5 : idxAt [Dat.int l, .int r] 1 = some 1 := rfl
  have s1 : slcD [Dat.int l, .int r] none (some 1) = [.int l] := rfl
  have okl : ∀ x, okL [Dat.int x] = true := fun _ => rfl
  obtain ⟨st1, e1⟩ : ∃ st1, st1 = st.put (Str.ofString "symbol") (.val (.int s)) := ⟨_, rfl⟩
  have sy : st1.get (Str.ofString "symbol") = some (.val (.int s)) := e1 ▸ spt
  have h' : JnSt P k D st1 := e1 ▸ ⟨npt h.p rfl, npt h.k rfl, npt h.d rfl, npt h.r rfl, npt h.l rfl⟩
  rw [← e1]
  have fin : ∀ D' : List Int, JnSt P k D' (st1.put (Str.ofString "done") (.own (D'.map .int))) := fun D' => ⟨npt h'.p rfl, npt h'.k rfl, spt, npt h'.r rfl, npt h'.l rfl⟩
  refine ⟨_, ?_, fin _⟩
  have hX : ∃ X, slcD (D.map Dat.int) (some (-1)) none = X ∧ okL X = true ∧ deq 8 (.list X) (.list [.int l]) = decide (D.getLast? = some l) := by
    rcases List.eq_nil_or_concat D with rfl | ⟨D', z, rfl⟩
    · exact ⟨[], rfl, rfl, rfl⟩
    · rw [List.concat_eq_append, slc_last, List.length_map, List.length_append, ← List.map_drop, show (D' ++ [z]).drop (D'.length + [z].length - 1) = [z] from List.drop_left' rfl, List.getLast?_concat]
      refine ⟨_, rfl, rfl, (deq_ints [z] [l]).trans (decide_eq_decide.mpr ?_)⟩
      rw [List.cons.injEq, Option.some.injEq]
      exact and_iff_left rfl
  obtain ⟨X, x1, x2, x3⟩ := hX
  have tt : tst (Itp.at fJoin.O (n + 19)) st1 (tstOf (bs innF 0)) = some (decide (D.getLast? = some l) && decide (s = r)) := by
    generalize decide (D.getLast? = some l) = c at x3 ⊢
    have hd := h'.d
    have hE : (D.map Dat.int).length ≤ 4096 := by rw [List.length_map]; exact Nat.le_trans hD (by decide)
    generalize D.map Dat.int = E at x1 hd hE
    (conv in (bs _ _) => whnf); simp +decide [h'.p, h'.k, hd, hE, h1, hk, h5, dP, dPair, dI, s1, x1, x2, x3, sy, okl]
    cases c <;> rfl
  show (Itp.at fJoin.O (n + 20)).exs st1 [bs innF 0] = _
  refine ex_cons ?_ rfl
  by_cases c : D.getLast? = some l ∧ s = r
  · rw [← Bool.decide_and, decide_eq_true c] at tt
    rw [if_t (fun _ _ => rfl) tt, mrg, if_pos c]
    obtain ⟨D', rfl⟩ := List.getLast?_eq_some_iff.mp c.1
    rw [List.length_append] at hD
    have hd := h'.d
    have ix := idxLast (D'.map Dat.int) (.int l) (by rw [List.length_map]; exact Nat.lt_of_lt_of_le hD (by decide))
    have e2 : ((D' ++ [l]).map Dat.int).set (D'.map Dat.int).length (.int (256 + (k : Int))) = ((D' ++ [l]).dropLast ++ [256 + (k : Int)]).map Dat.int := by
      rw [List.dropLast_concat, List.map_append, List.map_append, List.set_append_right _ _ (Nat.le_refl _), Nat.sub_self]
      rfl
    have e3 : (D' ++ [l]).map Dat.int = D'.map Dat.int ++ [.int l] := List.map_append
    rw [← e3] at ix
    generalize ((D' ++ [l]).dropLast ++ [256 + (k : Int)]).map Dat.int = Y at *
    generalize (D' ++ [l]).map Dat.int = Z at *
    generalize (D'.map Dat.int).length = N at *
    (conv in (bs _ _) => whnf); simp +decide [h'.k, hd, ix, e2]
  · rw [← Bool.decide_and, decide_eq_false c] at tt
    rw [if_f (fun _ _ => rfl) tt, mrg, if_neg c, List.map_append]
    have hd := h'.d
    have hl : (D.map Dat.int).length ≤ 4096 := by rw [List.length_map]; exact Nat.le_trans hD (by decide)
    generalize D.map Dat.int = E at *
    (conv in (bs _ _) => whnf); simp +decide [hd, sy, hl]
end Mine
end

section
open PySem PySem.W PyProof.Rows Builtin.Str
namespace Mine
theorem fold_len (k : Nat) (l r : Int) (R : List Int) : ∀ D : List Int, (R.foldl (mrg k l r) D).length ≤ D.length + R.length := by
  induction R with
  | nil => exact fun D => Nat.le_refl _
  | cons s R ih => exact fun D => Nat.le_trans (ih _) (Nat.le_trans (Nat.add_le_add_right (mrg_len k l r D s) _) (Nat.le_of_eq (Nat.succ_add_eq_add_succ _ _)))
theorem join_inner {P : List (Int × Int)} {k : Nat} {n : Nat} {l r : Int} (hP : P.length ≤ 64) (hk : P[k]? = some (l, r)) : ∀ (R D : List Int) (st : LSt), JnSt P k D st → D.length + R.length ≤ 3000 →
    ∃ st', forLoop (Itp.at fJoin.O (n + 20)) (Str.ofString "symbol") (blk innF) st (R.map .int) = some (.nx, st') ∧ JnSt P k (R.foldl (mrg k l r) D) st' := by
  intro R
  induction R with
  | nil => exact fun D st h _ => ⟨st, rfl, h⟩
  | cons s R ih =>
    intro D st h hl
    rw [List.length_cons] at hl
    obtain ⟨st1, e1, h1⟩ := join_turn (n := n) (s := s) h hP hk (Nat.le_trans (Nat.le_add_right _ _) hl)
    obtain ⟨st2, e2, h2⟩ := ih _ st1 h1 (Nat.le_trans (Nat.add_le_add_right (mrg_len k l r D s) _) (Nat.le_trans (Nat.le_of_eq (Nat.succ_add_eq_add_succ _ _)) hl))
    refine ⟨st2, ?_, h2⟩
    rw [List.map_cons, for_cons, e1, Option.bind_some]
    exact e2
theorem inn_for (I : Itp) (O : Orc) (st : LSt) : exS O I st innF = if O.loc (Str.ofString "symbol") = false then none else (itemsOf I (evV I) (frz st (tstOf innF)) (tstOf innF)).bind fun ds => forLoop I (Str.ofString "symbol") (blk innF) (frz st (tstOf innF)) ds := rfl
theorem join_blk : blk (stm 13 1) = [(blk (stm 13 1))[0]?.getD (.Pass default), innF, (blk (stm 13 1))[2]?.getD (.Pass default)] := rfl
structure JoSt (P : List (Int × Int)) (R : List Int) (st : LSt) : Prop where
  p : st.get (Str.ofString "pairs") = some (.val (dP P))
  d : st.get (Str.ofString "row") = some (.own (R.map .int))
  r : st.get (Str.ofString "range") = some .glo
  l : st.get (Str.ofString "len") = some .glo
theorem join_outer1 {P : List (Int × Int)} {k : Nat} {R : List Int} {n : Nat} {st : LSt} {l r : Int} (h : JoSt P R st) (hP : P.length ≤ 64) (hk : P[k]? = some (l, r)) (hR : R.length ≤ 2000) :
    ∃ st', (Itp.at fJoin.O (n + 24)).exs (st.put (Str.ofString "k") (.val (.int (k : Int)))) (blk (stm 13 1)) = some (.nx, st') ∧ JoSt P (stageT k (l, r) R) st' := by
  have e0 : exS fJoin.O (Itp.at fJoin.O (n + 23)) (st.put (Str.ofString "k") (.val (.int (k : Int)))) ((blk (stm 13 1))[0]?.getD (.Pass default)) = some (.nx, (st.put (Str.ofString "k") (.val (.int (k : Int)))).put (Str.ofString "done") (.own [])) := by
    (conv in (stm _ _) => whnf); simp +decide [LSt.get_put]
  obtain ⟨st1, h1⟩ : ∃ st1, st1 = ((st.put (Str.ofString "k") (.val (.int (k : Int)))).put (Str.ofString "done") (.own [])) := ⟨_, rfl⟩
  have hr1 : st1.get (Str.ofString "row") = some (.own (R.map .int)) := by rw [h1]; simp +decide [LSt.get_put, h.d]
  have hfz : frz st1 (tstOf innF) = st1.put (Str.ofString "row") (.val (.list (R.map .int))) := frz_own (p := (tstOf innF).pos) hr1
  have hit : itemsOf (Itp.at fJoin.O (n + 22)) (evV (Itp.at fJoin.O (n + 22))) (st1.put (Str.ofString "row") (.val (.list (R.map .int)))) (tstOf innF) = some (R.map .int) := by
    have : R.length ≤ 4096 := Nat.le_trans hR (by decide)
    (conv in innF => whnf); simp +decide [LSt.get_put, this]
  have hj : JnSt P k [] (st1.put (Str.ofString "row") (.val (.list (R.map .int)))) := by
    rw [h1]
    exact ⟨by (repeat (refine npt ?_ rfl)); exact h.p, by (repeat (refine npt ?_ rfl)); exact spt, by (repeat (refine npt ?_ rfl)); exact spt, by (repeat (refine npt ?_ rfl)); exact h.r, by (repeat (refine npt ?_ rfl)); exact h.l⟩
  obtain ⟨st2, e2, h2⟩ := join_inner (n := n + 2) hP hk R [] _ hj (Nat.le_trans (Nat.le_of_eq (Nat.zero_add _)) (Nat.le_trans hR (by decide)))
  have e3 : exS fJoin.O (Itp.at fJoin.O (n + 21)) st2 ((blk (stm 13 1))[2]?.getD (.Pass default)) = some (.nx, (st2.del (Str.ofString "done")).put (Str.ofString "row") (.own ((R.foldl (mrg k l r) []).map .int))) := by
    (conv in (stm _ _) => whnf); simp +decide [LSt.get_put, h2.d]
  refine ⟨(st2.del (Str.ofString "done")).put (Str.ofString "row") (.own ((R.foldl (mrg k l r) []).map .int)), ?_, ?_⟩
  · rw [join_blk, exs_c, e0]
    simp only [Option.bind_some]
    rw [← h1, exs_c, inn_for, if_neg (by decide), hfz, hit]
    simp only [Option.bind_some]
    rw [e2]
    simp only [Option.bind_some]
    rw [exs_c, e3]
    rfl
  · exact ⟨by simp +decide [LSt.get_put, LSt.get_del, h2.p], spt, by simp +decide [LSt.get_put, LSt.get_del, h2.r], by simp +decide [LSt.get_put, LSt.get_del, h2.l]⟩
theorem stage_len (k : Nat) (p : Int × Int) (R : List Int) : (stageT k p R).length ≤ R.length := by
  exact Nat.le_trans (fold_len k p.1 p.2 R []) (Nat.le_of_eq (Nat.zero_add _))
theorem stepT_len (P : List (Int × Int)) (R : List Int) (k : Nat) : (stepT P R k).length ≤ R.length := by
  unfold stepT
  split
  · exact stage_len _ _ _
  · exact Nat.le_refl _
theorem join_loop {P : List (Int × Int)} {n : Nat} (hP : P.length ≤ 64) : ∀ (ks : List Nat) (R : List Int) (st : LSt), JoSt P R st → R.length ≤ 2000 → (∀ k ∈ ks, k < P.length) →
    ∃ st', forLoop (Itp.at fJoin.O (n + 24)) (Str.ofString "k") (blk (stm 13 1)) st (ks.map fun i => .int (i : Nat)) = some (.nx, st') ∧ JoSt P (ks.foldl (stepT P) R) st' := by
  intro ks
  induction ks with
  | nil => exact fun R st h _ _ => ⟨st, rfl, h⟩
  | cons k ks ih =>
    intro R st h hl hk
    have hkl := hk k (.head _)
    obtain ⟨st1, e1, h1⟩ := join_outer1 (n := n) h hP (l := P[k].1) (r := P[k].2) (List.getElem?_eq_getElem hkl) hl
    have hs : stageT k (P[k].1, P[k].2) R = stepT P R k := by unfold stepT; rw [List.getElem?_eq_getElem hkl]
    rw [hs] at h1
    obtain ⟨st2, e2, h2⟩ := ih _ st1 h1 (Nat.le_trans (stepT_len P R k) hl) fun k m => hk k (.tail _ m)
    refine ⟨st2, ?_, h2⟩
    rw [List.map_cons, for_cons, e1, Option.bind_some]
    exact e2
theorem join_body : bodyN 13 = [stm 13 0, stm 13 1, stm 13 2] := rfl
theorem join_for (I : Itp) (O : Orc) (st : LSt) : exS O I st (stm 13 1) = if O.loc (Str.ofString "k") = false then none else (itemsOf I (evV I) st (tstOf (stm 13 1))).bind fun ds => forLoop I (Str.ofString "k") (blk (stm 13 1)) st ds := rfl
theorem signs_sOf (xs : List Int) : signs (sOf xs) = xs.map fun x => .str ⟨#[x.toNat]⟩ := by
  show ((xs.map Int.toNat).toArray.toList).map _ = _
  simp
theorem bi_ord (c : Nat) : builtin (Str.ofString "ord") [.str ⟨#[c]⟩] = some (.int c) := rfl
theorem join_run {P : List (Int × Int)} {xs : List Int} (hP : P.length ≤ 64) (hx : xs.length ≤ 100) (h0 : ∀ x ∈ xs, 0 ≤ x) {st : LSt} (g1 : st.get (Str.ofString "text") = some (.val (.str (sOf xs)))) (g2 : st.get (Str.ofString "pairs") = some (.val (dP P))) (g3 : st.get (Str.ofString "range") = some .glo) (g4 : st.get (Str.ofString "len") = some .glo) :
    outOf ((Itp.at fJoin.O 100).exs st (bodyN 13)) = some (dI (joinT P xs)) := by
  have s0 : exS fJoin.O (Itp.at fJoin.O 99) st (stm 13 0) = some (.nx, st.put (Str.ofString "row") (.own (xs.map .int))) := by
    have hl : (sOf xs).length ≤ 4096 := by rw [sOf_len]; exact Nat.le_trans hx (by decide)
    have hit : itemsOf (Itp.at fJoin.O 99) (evD (Itp.at fJoin.O 99)) st (gI (rhs (stm 13 0))) = some (xs.map fun x => .str ⟨#[x.toNat]⟩) := by
      (conv in (stm _ _) => whnf); simp +decide [LSt.get_put, g1, hl, signs_sOf]
    have key := lc_map (O := fJoin.O) (I := Itp.at fJoin.O 99) (st := st) (cap := [(Str.ofString "ord", .glo)]) (e := rhs (stm 13 0)) (fun d => match d with | .str x => .int ((x.cps.toList.headD 0 : Nat) : Int) | d => d) rfl (by decide) rfl hit (fun d m => by
      obtain ⟨x, _, rfl⟩ := List.mem_map.mp m
      (conv in (occs := *) (stm _ _) => all_goals whnf); simp +decide [LSt.get_put, bi_ord]) (by rw [List.length_map]; exact Nat.le_trans hx (by decide))
    have e : (xs.map fun x => Dat.str ⟨#[x.toNat]⟩).map (fun d => match d with | .str x => Dat.int ((x.cps.toList.headD 0 : Nat) : Int) | d => d) = xs.map .int := by
      rw [List.map_map]
      refine List.map_congr_left fun x m => ?_
      show Dat.int ((x.toNat : Nat) : Int) = .int x
      rw [Int.toNat_of_nonneg (h0 x m)]
    rw [e] at key
    show (bindE fJoin.O (Itp.at fJoin.O 99) st (Str.ofString "row") (rhs (stm 13 0))).map _ = _
    show (((evF fJoin.O (Itp.at fJoin.O 99) st (rhs (stm 13 0))).map fun ds => (LV.own ds, st)).map _) = _
    rw [key]
    rfl
  rw [join_body, exs_c, s0]
  simp only [Option.bind_some]
  obtain ⟨st1, hst1⟩ : ∃ st1, st1 = st.put (Str.ofString "row") (.own (xs.map .int)) := ⟨_, rfl⟩
  rw [← hst1]
  have J : JoSt P xs st1 := by
    rw [hst1]
    exact ⟨by (repeat (refine npt ?_ rfl)); exact g2, by (repeat (refine npt ?_ rfl)); exact spt, by (repeat (refine npt ?_ rfl)); exact g3, by (repeat (refine npt ?_ rfl)); exact g4⟩
  have hr : itemsOf (Itp.at fJoin.O 98) (evV (Itp.at fJoin.O 98)) st1 (tstOf (stm 13 1)) = some ((List.range P.length).map fun i => .int (i : Nat)) := by
    have h2 : P.length ≤ 4096 := Nat.le_trans hP (by decide)
    have h1 : (P.length : Int) ≤ 4096 := Int.ofNat_le.mpr h2
    (conv in (stm _ _) => whnf); simp +decide [LSt.get_put, isGlo_of, J.r, J.l, J.p, dP, bi_len, h1, h2]
  obtain ⟨st2, e2, J2⟩ := join_loop (n := 74) hP (List.range P.length) xs st1 J (Nat.le_trans hx (by decide)) (fun k m => List.mem_range.mp m)
  rw [exs_c, join_for, if_neg (by decide), hr]
  simp only [Option.bind_some]
  rw [e2]
  simp only [Option.bind_some]
  have e3 : (Itp.at fJoin.O 98).exs st2 [stm 13 2] = some (.ret (.cur (Str.ofString "row") ((joinT P xs).map .int)), st2) := by
    have := J2.d
    (conv in (stm _ _) => whnf); simp +decide [LSt.get_put, this, joinT]
  rw [e3]
  show (if ((joinT P xs).map Dat.int).all flatD then some (Dat.list ((joinT P xs).map .int)) else none) = _
  rw [ints_flat]
  rfl
theorem join_eq {P : List (Int × Int)} {xs : List Int} (hP : P.length ≤ 64) (hx : xs.length ≤ 100) (h0 : ∀ x ∈ xs, 0 ≤ x) : spJoin [.str (sOf xs), dP P] = some (dI (joinT P xs)) :=
  join_run hP hx h0 (st := [(Str.ofString "text", LV.val (.str (sOf xs))), (Str.ofString "pairs", LV.val (dP P)), (Str.ofString "range", LV.glo), (Str.ofString "len", LV.glo)]) rfl rfl rfl rfl
end Mine
end

section
open PySem PySem.W PyProof.Rows Builtin.Str
namespace Mine
noncomputable def wh1 : Stmt := (blk (stm 8 2))[0]?.getD (.Pass default)
noncomputable def wh2 : Stmt := (els (stm 8 2))[0]?.getD (.Pass default)
structure BiSt (ds : List Dat) (x : Str) (key : LV) (lo hi : Nat) (st : LSt) : Prop where
  a : st.get (Str.ofString "a") = some (.val (.list ds))
  x : st.get (Str.ofString "x") = some (.val (.str x))
  lo : st.get (Str.ofString "lo") = some (.val (.int (lo : Int)))
  hi : st.get (Str.ofString "hi") = some (.val (.int (hi : Int)))
  key : st.get (Str.ofString "key") = some key
  len : st.get (Str.ofString "len") = some .glo
section
variable {ds : List Dat} {x : Str} {lo hi n : Nat} {st : LSt}
theorem bi_test2 {key : LV} (h : BiSt ds x key lo hi st) : tst (Itp.at fBis.O (n + 8)) st (tstOf wh2) = some (decide (lo < hi)) := by
  have e : decide ((lo : Int) < (hi : Int)) = decide (lo < hi) := by by_cases hh : lo < hi <;> simp [hh]
  (conv in wh2 => whnf); simp +decide [LSt.get_put, h.lo, h.hi, e]
theorem bi_test1 {key : LV} (h : BiSt ds x key lo hi st) : tst (Itp.at fBis.O (n + 8)) st (tstOf wh1) = some (decide (lo < hi)) := by
  have e : decide ((lo : Int) < (hi : Int)) = decide (lo < hi) := by by_cases hh : lo < hi <;> simp [hh]
  (conv in wh1 => whnf); simp +decide [LSt.get_put, h.lo, h.hi, e]
theorem mid_eq (lo hi : Nat) : ((lo : Int) + (hi : Int)) / 2 = (((lo + hi) / 2 : Nat) : Int) := rfl
theorem mid_in {lo hi : Nat} (h : lo < hi) : lo ≤ (lo + hi) / 2 ∧ (lo + hi) / 2 < hi := by omega
noncomputable def mvM (st : LSt) (M : Nat) : LSt := st.put (Str.ofString "mid") (.val (.int (M : Int)))
theorem BiSt.up {key : LV} {M : Nat} (h : BiSt ds x key lo hi st) : BiSt ds x key (M + 1) hi ((mvM st M).put (Str.ofString "lo") (.val (.int ((M : Int) + 1)))) :=
  ⟨npt (npt h.a rfl) rfl, npt (npt h.x rfl) rfl, spt, npt (npt h.hi rfl) rfl, npt (npt h.key rfl) rfl, npt (npt h.len rfl) rfl⟩
theorem BiSt.down {key : LV} {M : Nat} (h : BiSt ds x key lo hi st) : BiSt ds x key lo M ((mvM st M).put (Str.ofString "hi") (.val (.int (M : Int)))) :=
  ⟨npt (npt h.a rfl) rfl, npt (npt h.x rfl) rfl, npt (npt h.lo rfl) rfl, spt, npt (npt h.key rfl) rfl, npt (npt h.len rfl) rfl⟩
theorem bi_turn {w : Stmt} {key : LV} {M : Nat} {P : Prop} [Decidable P] (hw : blk w = [bs w 0, bs w 1]) (hi' : ∀ I st, exS fBis.O I st (bs w 1) = (tst I st (tstOf (bs w 1))).bind fun c => if c then I.exs st (blk (bs w 1)) else I.exs st (els (bs w 1))) (h : BiSt ds x key lo hi st)
    (s0 : exS fBis.O (Itp.at fBis.O (n + 13)) st (bs w 0) = some (.nx, mvM st M)) (s1 : tst (Itp.at fBis.O (n + 12)) (mvM st M) (tstOf (bs w 1)) = some (decide P))
    (s2 : (Itp.at fBis.O (n + 12)).exs (mvM st M) (blk (bs w 1)) = some (.nx, (mvM st M).put (Str.ofString "lo") (.val (.int ((M : Int) + 1)))))
    (s3 : (Itp.at fBis.O (n + 12)).exs (mvM st M) (els (bs w 1)) = some (.nx, (mvM st M).put (Str.ofString "hi") (.val (.int (M : Int))))) :
    ∃ st', (Itp.at fBis.O (n + 14)).exs st (blk w) = some (.nx, st') ∧ (P → BiSt ds x key (M + 1) hi st') ∧ (¬ P → BiSt ds x key lo M st') := by
  rw [hw, exs_c, s0, Option.bind_some]
  show ∃ st', (Itp.at fBis.O (n + 13)).exs (mvM st M) _ = _ ∧ _
  by_cases c : P
  · rw [decide_eq_true c] at s1
    refine ⟨_, ?_, fun _ => h.up, fun z => absurd c z⟩
    rw [exs_c, hi', s1, Option.bind_some, if_pos rfl, s2]
    rfl
  · rw [decide_eq_false c] at s1
    refine ⟨_, ?_, fun z => absurd z c, fun _ => h.down⟩
    rw [exs_c, hi', s1, Option.bind_some, if_neg Bool.false_ne_true, s3]
    rfl
variable {key : LV} {M : Nat} {y : Str}
theorem bi_turn2 {g : Dat → Option Dat} {d : Dat} (h : BiSt ds x (.fn g) lo hi st) (e1 : ((lo : Int) + (hi : Int)) / 2 = (M : Int)) (e2 : idxAt ds (M : Int) = some M) (hm : ds[M]? = some d) (hg : g d = some (.str y)) :
    ∃ st', (Itp.at fBis.O (n + 14)).exs st (blk wh2) = some (.nx, st') ∧ (y.cps < x.cps → BiSt ds x (.fn g) (M + 1) hi st') ∧ (¬ y.cps < x.cps → BiSt ds x (.fn g) lo M st') := by
  have B : BiSt ds x (.fn g) lo hi (mvM st M) := ⟨npt h.a rfl, npt h.x rfl, npt h.lo rfl, npt h.hi rfl, npt h.key rfl, npt h.len rfl⟩
  have m : (mvM st M).get (Str.ofString "mid") = some (.val (.int (M : Int))) := spt
  refine bi_turn rfl (fun _ _ => rfl) h ?_ ?_ ?_ ?_
  · (conv in (bs _ _) => whnf); simp +decide [h.lo, h.hi, e1]; rfl
  · (conv in (bs _ _) => whnf); simp +decide [B.a, B.x, B.key, m, e2, hm, hg]
  · (conv in (bs _ _) => whnf); simp +decide [m]
  · (conv in (bs _ _) => whnf); simp +decide [m]
theorem bi_turn1 (h : BiSt ds x key lo hi st) (e1 : ((lo : Int) + (hi : Int)) / 2 = (M : Int)) (e2 : idxAt ds (M : Int) = some M) (hm : ds[M]? = some (.str y)) :
    ∃ st', (Itp.at fBis.O (n + 14)).exs st (blk wh1) = some (.nx, st') ∧ (y.cps < x.cps → BiSt ds x key (M + 1) hi st') ∧ (¬ y.cps < x.cps → BiSt ds x key lo M st') := by
  have B : BiSt ds x key lo hi (mvM st M) := ⟨npt h.a rfl, npt h.x rfl, npt h.lo rfl, npt h.hi rfl, npt h.key rfl, npt h.len rfl⟩
  have m : (mvM st M).get (Str.ofString "mid") = some (.val (.int (M : Int))) := spt
  refine bi_turn rfl (fun _ _ => rfl) h ?_ ?_ ?_ ?_
  · (conv in (bs _ _) => whnf); simp +decide [h.lo, h.hi, e1]; rfl
  · (conv in (bs _ _) => whnf); simp +decide [B.a, B.x, m, e2, hm]
  · (conv in (bs _ _) => whnf); simp +decide [m]
  · (conv in (bs _ _) => whnf); simp +decide [m]
end
end Mine
end

section
open PySem PySem.W PyProof.Rows Builtin.Str
namespace Mine
section
variable {ds : List Dat} {x : Str}
theorem half1 {lo hi M c : Nat} (h : hi - lo ≤ c + 1) (h1 : lo ≤ M) : hi - (M + 1) ≤ c := by omega
theorem half2 {lo hi M c : Nat} (h : hi - lo ≤ c + 1) (h1 : M < hi) : M - lo ≤ c := by omega
theorem bi_loop {w : Stmt} {key : LV} {m lo0 hi0 : Nat} (T : ∀ {lo hi n : Nat} {st : LSt}, BiSt ds x key lo hi st → tst (Itp.at fBis.O (n + 8)) st (tstOf w) = some (decide (lo < hi)))
    (S : ∀ {lo hi n : Nat} {st : LSt}, BiSt ds x key lo hi st → lo0 ≤ (lo + hi) / 2 → (lo + hi) / 2 < hi0 → ∃ st', (Itp.at fBis.O (n + 14)).exs st (blk w) = some (.nx, st') ∧ ((lo + hi) / 2 < m → BiSt ds x key ((lo + hi) / 2 + 1) hi st') ∧ (¬ (lo + hi) / 2 < m → BiSt ds x key lo ((lo + hi) / 2) st')) (n : Nat) :
    ∀ (c lo hi : Nat) (st : LSt), hi - lo ≤ c → BiSt ds x key lo hi st → lo ≤ m → m ≤ hi → hi ≤ hi0 → lo0 ≤ lo → ∃ st', (Itp.at fBis.O (n + c + 20)).wh st (tstOf w) (blk w) = some (.nx, st') ∧ st'.get (Str.ofString "lo") = some (.val (.int (m : Int))) := by
  have E : ∀ {q lo hi : Nat} {st : LSt}, BiSt ds x key lo hi st → lo ≤ m → m ≤ hi → hi ≤ lo → ∃ st', (Itp.at fBis.O (q + 8 + 1)).wh st (tstOf w) (blk w) = some (.nx, st') ∧ st'.get (Str.ofString "lo") = some (.val (.int (m : Int))) := by
    intro q lo hi st h h1 h2 h3
    cases Nat.le_antisymm h1 (Nat.le_trans h2 h3)
    refine ⟨st, ?_, h.lo⟩
    rw [wh_c, T h, decide_eq_false (Nat.not_lt.mpr h3)]
    rfl
  intro c
  induction c with
  | zero => exact fun lo hi st hc h h1 h2 h3 h4 => E (q := n + 11) h h1 h2 (Nat.le_of_sub_eq_zero (Nat.le_zero.mp hc))
  | succ c ih =>
    intro lo hi st hc h h1 h2 h3 h4
    by_cases hlt : lo < hi
    · have hm := mid_in hlt
      obtain ⟨st1, r1, r2, r3⟩ := S (n := n + c + 6) h (Nat.le_trans h4 hm.1) (Nat.lt_of_lt_of_le hm.2 h3)
      have e : (Itp.at fBis.O (n + (c + 1) + 20)).wh st (tstOf w) (blk w) = (Itp.at fBis.O (n + c + 20)).wh st1 (tstOf w) (blk w) := by
        show (Itp.at fBis.O (n + c + 12 + 8 + 1)).wh st (tstOf w) (blk w) = _
        rw [wh_c, T h, decide_eq_true hlt, Option.bind_some, if_pos rfl]
        rw [r1]; rfl
      rw [e]
      by_cases hy : (lo + hi) / 2 < m
      · exact ih _ _ _ (half1 hc hm.1) (r2 hy) hy h2 h3 (Nat.le_trans h4 (Nat.le_succ_of_le hm.1))
      · exact ih _ _ _ (half2 hc hm.2) (r3 hy) h1 (Nat.le_of_not_lt hy) (Nat.le_trans (Nat.le_of_lt hm.2) h3) h4
    · exact E (q := n + c + 12) h h1 h2 (Nat.le_of_not_lt hlt)
theorem bis_body : bodyN 8 = [stm 8 0, stm 8 1, stm 8 2, stm 8 3] := rfl
theorem bis_els : els (stm 8 2) = [wh2] := rfl
theorem bis_blk : blk (stm 8 2) = [wh1] := rfl
theorem bis_w1 (I : Itp) (O : Orc) (st : LSt) : exS O I st wh1 = I.wh st (tstOf wh1) (blk wh1) := rfl
theorem bis_w2 (I : Itp) (O : Orc) (st : LSt) : exS O I st wh2 = I.wh st (tstOf wh2) (blk wh2) := rfl
theorem bis_if (I : Itp) (O : Orc) (st : LSt) : exS O I st (stm 8 2) = (tst I st (tstOf (stm 8 2))).bind fun c => if c then I.exs st (blk (stm 8 2)) else I.exs st (els (stm 8 2)) := rfl
theorem bisK_eq {g : Dat → Option Dat} {m lo0 hi0 : Nat} (hlm : lo0 ≤ m) (hmh : m ≤ hi0) (hh : hi0 ≤ ds.length) (hd : ds.length ≤ 50) (H : ∀ j, lo0 ≤ j → j < hi0 → ∃ d y, ds[j]? = some d ∧ g d = some (.str y) ∧ (y.cps.toList < x.cps.toList ↔ j < m)) :
    spBisK [.list ds, .str x, .int (lo0 : Int), .int (hi0 : Int)] g = some (.int (m : Int)) := by
  show outOf ((Itp.at fBis.O 100).exs [(Str.ofString "a", LV.val (.list ds)), (Str.ofString "x", LV.val (.str x)), (Str.ofString "lo", LV.val (.int (lo0 : Int))), (Str.ofString "hi", LV.val (.int (hi0 : Int))), (Str.ofString "key", LV.fn g), (Str.ofString "len", LV.glo)] (bodyN 8)) = _
  have h0 : ¬ ((lo0 : Int) < 0) := Int.not_lt.mpr (Int.natCast_nonneg lo0)
  have B : BiSt ds x (.fn g) lo0 hi0 [(Str.ofString "a", LV.val (.list ds)), (Str.ofString "x", LV.val (.str x)), (Str.ofString "lo", LV.val (.int (lo0 : Int))), (Str.ofString "hi", LV.val (.int (hi0 : Int))), (Str.ofString "key", LV.fn g), (Str.ofString "len", LV.glo)] := ⟨rfl, rfl, rfl, rfl, rfl, rfl⟩
  obtain ⟨st, hst⟩ : ∃ st : LSt, st = [(Str.ofString "a", LV.val (.list ds)), (Str.ofString "x", LV.val (.str x)), (Str.ofString "lo", LV.val (.int (lo0 : Int))), (Str.ofString "hi", LV.val (.int (hi0 : Int))), (Str.ofString "key", LV.fn g), (Str.ofString "len", LV.glo)] := ⟨_, rfl⟩
  rw [← hst] at B ⊢
  have s0 : exS fBis.O (Itp.at fBis.O 99) st (stm 8 0) = some (.nx, st) := by
    (conv in (stm _ _) => whnf); simp +decide [LSt.get_put, B.lo, h0]
  have s1 : exS fBis.O (Itp.at fBis.O 98) st (stm 8 1) = some (.nx, st) := by
    (conv in (stm _ _) => whnf); simp +decide [LSt.get_put, B.hi]
  have s2 : tst (Itp.at fBis.O 97) st (tstOf (stm 8 2)) = some false := by
    (conv in (stm _ _) => whnf); simp +decide [LSt.get_put, B.key]
  rw [bis_body, exs_c, s0]
  simp only [Option.bind_some]
  rw [exs_c, s1]
  simp only [Option.bind_some]
  obtain ⟨k, hk⟩ := Nat.exists_eq_add_of_le (show hi0 - lo0 ≤ 76 from Nat.le_trans (Nat.sub_le _ _) (Nat.le_trans hh (Nat.le_trans hd (by decide))))
  obtain ⟨st2, e2, l2⟩ := bi_loop bi_test2 (fun B z1 z2 => by
    obtain ⟨d, y, e1, e2, e3⟩ := H _ z1 z2
    obtain ⟨st', r⟩ := bi_turn2 B (mid_eq _ _) (idxNat _ _ (Nat.lt_of_lt_of_le z2 hh) (Nat.le_trans hd (by decide))) e1 e2
    exact ⟨st', r.1, fun z => r.2.1 (e3.mpr z), fun z => r.2.2 fun z' => z (e3.mp z')⟩) k (hi0 - lo0) lo0 hi0 st (Nat.le_refl _) B hlm hmh (Nat.le_refl _) (Nat.le_refl _)
  rw [Nat.add_comm k, ← hk] at e2
  rw [exs_c, bis_if, s2]
  simp only [Option.bind_some, Bool.false_eq_true, if_false]
  rw [bis_els, exs_c, bis_w2, e2]
  simp only [Option.bind_some]
  rw [U3_1]
  simp only [Option.bind_some]
  have s3 : (Itp.at fBis.O 97).exs st2 [stm 8 3] = some (.ret (.st (.int (m : Int))), st2) := by
    (conv in (stm _ _) => whnf); simp +decide [LSt.get_put, l2]
  rw [s3]
  rfl
theorem bis_eq {m : Nat} (hmh : m ≤ ds.length) (hd : ds.length ≤ 50) (H : ∀ j, j < ds.length → ∃ y, ds[j]? = some (.str y) ∧ (y.cps.toList < x.cps.toList ↔ j < m)) :
    spBis [.list ds, .str x] = some (.int (m : Int)) := by
  show outOf ((Itp.at fBis.O 100).exs [(Str.ofString "a", LV.val (.list ds)), (Str.ofString "x", LV.val (.str x)), (Str.ofString "lo", LV.val (.int 0)), (Str.ofString "hi", LV.val .none), (Str.ofString "key", LV.val .none), (Str.ofString "len", LV.glo)] (bodyN 8)) = _
  obtain ⟨st, hst⟩ : ∃ st : LSt, st = [(Str.ofString "a", LV.val (.list ds)), (Str.ofString "x", LV.val (.str x)), (Str.ofString "lo", LV.val (.int 0)), (Str.ofString "hi", LV.val .none), (Str.ofString "key", LV.val .none), (Str.ofString "len", LV.glo)] := ⟨_, rfl⟩
  rw [← hst]
  have g1 : st.get (Str.ofString "a") = some (.val (.list ds)) := by rw [hst]; rfl
  have g2 : st.get (Str.ofString "x") = some (.val (.str x)) := by rw [hst]; rfl
  have g3 : st.get (Str.ofString "lo") = some (.val (.int 0)) := by rw [hst]; rfl
  have g4 : st.get (Str.ofString "hi") = some (.val .none) := by rw [hst]; rfl
  have g5 : st.get (Str.ofString "key") = some (.val .none) := by rw [hst]; rfl
  have g6 : st.get (Str.ofString "len") = some .glo := by rw [hst]; rfl
  have s0 : exS fBis.O (Itp.at fBis.O 99) st (stm 8 0) = some (.nx, st) := by
    (conv in (stm _ _) => whnf); simp +decide [LSt.get_put, g3]
  have s1 : exS fBis.O (Itp.at fBis.O 98) st (stm 8 1) = some (.nx, st.put (Str.ofString "hi") (.val (.int (ds.length : Int)))) := by
    have := bi_len ds (Nat.le_trans hd (by decide))
    (conv in (stm _ _) => whnf); simp +decide [LSt.get_put, g1, g4, g6, this]
  obtain ⟨st1, hst1⟩ : ∃ st1, st1 = st.put (Str.ofString "hi") (.val (.int (ds.length : Int))) := ⟨_, rfl⟩
  have B : BiSt ds x (.val .none) 0 ds.length st1 := by
    rw [hst1]
    exact ⟨npt g1 rfl, npt g2 rfl, npt g3 rfl, spt, npt g5 rfl, npt g6 rfl⟩
  have s2 : tst (Itp.at fBis.O 97) st1 (tstOf (stm 8 2)) = some true := by
    (conv in (stm _ _) => whnf); simp +decide [LSt.get_put, B.key]
  rw [bis_body, exs_c, s0]
  simp only [Option.bind_some]
  rw [exs_c, s1, ← hst1]
  simp only [Option.bind_some]
  obtain ⟨k, hk⟩ := Nat.exists_eq_add_of_le (show ds.length ≤ 76 from Nat.le_trans hd (by decide))
  obtain ⟨st2, e2, l2⟩ := bi_loop (lo0 := 0) bi_test1 (fun B _ z2 => by
    obtain ⟨y, e1, e3⟩ := H _ z2
    obtain ⟨st', r⟩ := bi_turn1 B (mid_eq _ _) (idxNat _ _ z2 (Nat.le_trans hd (by decide))) e1
    exact ⟨st', r.1, fun z => r.2.1 (e3.mpr z), fun z => r.2.2 fun z' => z (e3.mp z')⟩) k ds.length 0 ds.length st1 (Nat.sub_le _ _) B (Nat.zero_le _) hmh (Nat.le_refl _) (Nat.le_refl _)
  rw [Nat.add_comm k, ← hk] at e2
  rw [exs_c, bis_if, s2]
  simp only [Option.bind_some, if_true]
  rw [bis_blk, exs_c, bis_w1, e2]
  simp only [Option.bind_some]
  rw [U3_1]
  simp only [Option.bind_some]
  have s3 : (Itp.at fBis.O 97).exs st2 [stm 8 3] = some (.ret (.st (.int (m : Int))), st2) := by
    (conv in (stm _ _) => whnf); simp +decide [LSt.get_put, l2]
  rw [s3]
  rfl
end
end Mine
end

section
open PySem PySem.W PyProof.Rows Builtin.Str
namespace Mine
section
variable (s sub : Str) (hi limit : Nat)
noncomputable def hitB (i : Nat) : Bool := i + sub.length ≤ hi && subAt s sub i
noncomputable def occL : List Nat → Nat → Nat → List Nat
  | [], _, _ => []
  | i :: r, c, f => if c < limit && f ≤ i && i + sub.length ≤ hi && subAt s sub i then i :: occL r (c + 1) (i + sub.length) else occL r c f
theorem occL_nil : ∀ (l : List Nat) (c f : Nat), l.filter (hitB s sub hi) = [] → occL s sub hi limit l c f = []
  | [], _, _, _ => rfl
  | i :: r, c, f, h => by
    rw [List.filter_cons] at h
    split at h
    · cases h
    · rename_i hh
      unfold hitB at hh
      rw [occL, if_neg, occL_nil r c f h]
      intro z
      simp only [Bool.and_eq_true] at z hh
      exact hh ⟨z.1.2, z.2⟩
theorem occL_one {p : Nat} : ∀ (l : List Nat) (c f : Nat), l.filter (hitB s sub hi) = [p] → c < limit → f ≤ p → occL s sub hi limit l c f = [p]
  | [], _, _, h, _, _ => nomatch h
  | i :: r, c, f, h, hc, hf => by
    rw [List.filter_cons] at h
    split at h
    · rename_i hh
      injection h with h1 h2
      subst h1
      unfold hitB at hh
      rw [Bool.and_eq_true] at hh
      rw [occL, if_pos, occL_nil s sub hi limit r _ _ h2]
      simp only [Bool.and_eq_true]
      exact ⟨⟨⟨by simpa using hc, by simpa using hf⟩, hh.1⟩, hh.2⟩
    · rename_i hh
      unfold hitB at hh
      rw [occL, if_neg, occL_one r c f h hc hf]
      intro z
      simp only [Bool.and_eq_true] at z hh
      exact hh ⟨z.1.2, z.2⟩
theorem occL_two {p q : Nat} : ∀ (l : List Nat) (c f : Nat), l.filter (hitB s sub hi) = [p, q] → c + 1 < limit → f ≤ p → p + sub.length ≤ q → occL s sub hi limit l c f = [p, q]
  | [], _, _, h, _, _, _ => nomatch h
  | i :: r, c, f, h, hc, hf, hq => by
    rw [List.filter_cons] at h
    split at h
    · rename_i hh
      injection h with h1 h2
      subst h1
      unfold hitB at hh
      rw [Bool.and_eq_true] at hh
      rw [occL, if_pos, occL_one s sub hi limit r _ _ h2 hc hq]
      simp only [Bool.and_eq_true]
      exact ⟨⟨⟨by simp; omega, by simpa using hf⟩, hh.1⟩, hh.2⟩
    · rename_i hh
      unfold hitB at hh
      rw [occL, if_neg, occL_two r c f h hc hf hq]
      intro z
      simp only [Bool.and_eq_true] at z hh
      exact hh ⟨z.1.2, z.2⟩
theorem occL_full : ∀ (l : List Nat) (c f : Nat), limit ≤ c → occL s sub hi limit l c f = []
  | [], _, _, _ => rfl
  | i :: r, c, f, h => by
    rw [occL, if_neg, occL_full r c f h]
    intro z
    simp only [Bool.and_eq_true, decide_eq_true_eq] at z
    omega
theorem occL_first : ∀ (l : List Nat) (f : Nat), (∀ i ∈ l, f ≤ i) → occL s sub hi 1 l 0 f = (l.filter (hitB s sub hi)).take 1
  | [], _, _ => rfl
  | i :: r, f, h => by
    rw [List.filter_cons, occL]
    by_cases hh : hitB s sub hi i = true
    · rw [if_pos hh, if_pos, occL_full s sub hi 1 r _ _ (Nat.le_refl _)]
      · rfl
      · unfold hitB at hh
        simp only [Bool.and_eq_true] at hh ⊢
        exact ⟨⟨⟨rfl, by simpa using h i (.head _)⟩, hh.1⟩, hh.2⟩
    · rw [if_neg hh, if_neg, occL_first r f fun j m => h j (.tail _ m)]
      unfold hitB at hh
      intro z
      simp only [Bool.and_eq_true] at z hh
      exact hh ⟨z.1.2, z.2⟩
end
theorem occ_occL (s sub : Str) (lo hi limit : Nat) : occurrences s sub lo hi limit = occL s sub hi limit (List.range' lo (hi + 1 - lo)) 0 lo := by
  rw [StrLaws.occ_eq]
  have key : ∀ (l : List Nat) (a : Array Nat) (f : Nat), (forIn l (a, f) (StrLaws.occBody s sub hi limit)).run.fst.toList = a.toList ++ occL s sub hi limit l a.size f := by
    intro l
    induction l with
    | nil => intro a f; simp [occL]
    | cons i r ih =>
      intro a f
      rw [List.forIn_cons]
      by_cases hh : (a.size < limit && f ≤ i && i + sub.length ≤ hi && subAt s sub i) = true
      · have e : StrLaws.occBody s sub hi limit i (a, f) = pure (.yield (a.push i, i + sub.length)) := by
          unfold StrLaws.occBody
          simp only [Bool.and_eq_true, decide_eq_true_eq] at hh
          rw [if_pos hh]
        rw [e]
        show (forIn r (a.push i, i + sub.length) (StrLaws.occBody s sub hi limit)).run.fst.toList = _
        rw [ih, occL, if_pos hh]
        simp
      · have e : StrLaws.occBody s sub hi limit i (a, f) = pure (.yield (a, f)) := by
          unfold StrLaws.occBody
          simp only [Bool.and_eq_true, decide_eq_true_eq] at hh
          rw [if_neg hh]
        rw [e]
        show (forIn r (a, f) (StrLaws.occBody s sub hi limit)).run.fst.toList = _
        rw [ih, occL, if_neg hh]
  have := key (List.range' lo (hi + 1 - lo)) #[] lo
  simpa using this
end Mine
end

section
open PySem PySem.W PyProof.Rows Builtin.Str
namespace Mine
noncomputable def nS (l : List Nat) : Str := ⟨l.toArray⟩
noncomputable def dots : List Nat := [46, 46, 46]
theorem nS_len (l : List Nat) : (nS l).length = l.length := by show l.toArray.size = _; simp
theorem nS_inj {a b : List Nat} : nS a = nS b ↔ a = b := by
  constructor
  · intro h
    have : a.toArray = b.toArray := by injection h
    simpa using this
  · rintro rfl; rfl
theorem nS_app (a b : List Nat) : nS a ++ nS b = nS (a ++ b) := by
  show (⟨a.toArray ++ b.toArray⟩ : Str) = ⟨(a ++ b).toArray⟩
  simp
theorem subAt_nS (w u : List Nat) (i : Nat) : subAt (nS w) (nS u) i = decide ((w.drop i).take u.length = u) := by
  rw [StrLaws.subAt_eq, nS_len]
  show ((w.toArray.toList.drop i).take u.length == u.toArray.toList) = _
  simp only [List.toList_toArray]
  by_cases h : (w.drop i).take u.length = u
  · rw [decide_eq_true h]; exact beq_iff_eq.mpr h
  · rw [decide_eq_false h]; exact beq_eq_false_iff_ne.mpr h
theorem sub_nS (w : List Nat) (a b : Nat) : strSub (nS w) a b = nS ((w.drop a).take (b - a)) := by
  show (⟨w.toArray.extract a b⟩ : Str) = ⟨((w.drop a).take (b - a)).toArray⟩
  congr 1
  apply Array.toList_inj.mp
  simp [List.extract_eq_take_drop]
theorem fil_none {f : Nat → Bool} : ∀ (n a : Nat), (∀ i, a ≤ i → i < a + n → f i = false) → (List.range' a n).filter f = []
  | 0, _, _ => rfl
  | n + 1, a, h => by
    rw [List.range'_succ, List.filter_cons, h a (Nat.le_refl _) (by omega)]
    exact fil_none n (a + 1) fun i h1 h2 => h i (by omega) (by omega)
theorem fil_one {f : Nat → Bool} {p : Nat} : ∀ (n a : Nat), a ≤ p → p < a + n → (∀ i, a ≤ i → i < a + n → (f i = true ↔ i = p)) → (List.range' a n).filter f = [p]
  | 0, a, h1, h2, _ => by omega
  | n + 1, a, h1, h2, h => by
    rw [List.range'_succ, List.filter_cons]
    by_cases ha : a = p
    · subst ha
      rw [(h a (Nat.le_refl _) (by omega)).mpr rfl, fil_none n (a + 1) fun i h3 h4 => by
        have := h i (by omega) (by omega)
        cases hf : f i with
        | false => rfl
        | true => have := this.mp hf; omega]
      rfl
    · have : f a = false := by
        cases hf : f a with
        | false => rfl
        | true => exact absurd ((h a (Nat.le_refl _) (by omega)).mp hf) ha
      rw [this]
      exact fil_one n (a + 1) (by omega) (by omega) fun i h3 h4 => h i (by omega) (by omega)
theorem fil_two {f : Nat → Bool} {p q : Nat} : ∀ (n a : Nat), a ≤ p → p < q → q < a + n → (∀ i, a ≤ i → i < a + n → (f i = true ↔ i = p ∨ i = q)) → (List.range' a n).filter f = [p, q]
  | 0, a, h1, h2, h3, _ => by omega
  | n + 1, a, h1, h2, h3, h => by
    rw [List.range'_succ, List.filter_cons]
    by_cases ha : a = p
    · subst ha
      rw [(h a (Nat.le_refl _) (by omega)).mpr (.inl rfl), fil_one (p := q) n (a + 1) (by omega) (by omega) fun i h4 h5 => by
        have := h i (by omega) (by omega)
        constructor
        · intro hf
          rcases this.mp hf with z | z
          · omega
          · exact z
        · rintro rfl; exact this.mpr (.inr rfl)]
      rfl
    · have : f a = false := by
        cases hf : f a with
        | false => rfl
        | true => rcases (h a (Nat.le_refl _) (by omega)).mp hf with z | z <;> omega
      rw [this]
      exact fil_two n (a + 1) (by omega) h2 (by omega) fun i h4 h5 => h i (by omega) (by omega)
theorem hit_nS (w u : List Nat) (hi i : Nat) : hitB (nS w) (nS u) hi i = (decide (i + u.length ≤ hi) && decide ((w.drop i).take u.length = u)) := by
  unfold hitB
  rw [subAt_nS, nS_len]
theorem take3 {w : List Nat} {i : Nat} : (w.drop i).take dots.length = dots ↔ w[i]? = some 46 ∧ w[i + 1]? = some 46 ∧ w[i + 2]? = some 46 := by
  have e : ∀ j, (w.drop i)[j]? = w[i + j]? := fun j => List.getElem?_drop
  have e0 := e 0
  have e1 := e 1
  have e2 := e 2
  generalize w.drop i = v at *
  rw [Nat.add_zero] at e0
  rw [← e0, ← e1, ← e2]
  match v with
  | [] => simp [dots]
  | [_] => simp [dots]
  | [_, _] => simp [dots]
  | a :: b :: c :: r => simp [dots]
noncomputable def Bl (a j : Nat) : Prop := a ≤ j ∧ j < a + 3
theorem Bl.shift {a c j : Nat} : (c ≤ j ∧ Bl a (j - c)) ↔ Bl (c + a) j := by
  constructor
  · rintro ⟨h, h1, h2⟩
    obtain ⟨k, rfl⟩ := Nat.exists_eq_add_of_le h
    rw [Nat.add_sub_cancel_left] at h1 h2
    exact ⟨Nat.add_le_add_left h1 c, (Nat.add_assoc c a 3).symm ▸ Nat.add_lt_add_left h2 c⟩
  · rintro ⟨h1, h2⟩
    have h := Nat.le_trans (Nat.le_add_right c a) h1
    obtain ⟨k, rfl⟩ := Nat.exists_eq_add_of_le h
    rw [Nat.add_assoc] at h2
    rw [Nat.add_sub_cancel_left]
    exact ⟨h, Nat.le_of_add_le_add_left h1, Nat.lt_of_add_lt_add_left h2⟩
theorem app_at {xs ys : List Nat} (hx : 46 ∉ xs) {j : Nat} : (xs ++ ys)[j]? = some 46 ↔ xs.length ≤ j ∧ ys[j - xs.length]? = some 46 := by
  by_cases h : j < xs.length
  · rw [List.getElem?_append_left h]
    exact ⟨fun e => absurd (List.mem_of_getElem? e) hx, fun e => absurd h (Nat.not_lt.mpr e.1)⟩
  · rw [List.getElem?_append_right (Nat.le_of_not_lt h)]
    exact ⟨fun e => ⟨Nat.le_of_not_lt h, e⟩, And.right⟩
theorem dots_at {zs : List Nat} : ∀ {j : Nat}, (dots ++ zs)[j]? = some 46 ↔ Bl 0 j ∨ (3 ≤ j ∧ zs[j - 3]? = some 46)
  | 0 => iff_of_true rfl (.inl ⟨by decide, by decide⟩)
  | 1 => iff_of_true rfl (.inl ⟨by decide, by decide⟩)
  | 2 => iff_of_true rfl (.inl ⟨by decide, by decide⟩)
  | j + 3 => ⟨fun e => .inr ⟨Nat.le_add_left 3 j, e⟩, fun e => e.elim (fun z => absurd z.2 (Nat.not_lt.mpr (Nat.le_add_left 3 j))) And.right⟩
theorem dot3 {xs ys : List Nat} (hx : 46 ∉ xs) (hy : 46 ∉ ys) {j : Nat} : (xs ++ dots ++ ys)[j]? = some 46 ↔ Bl xs.length j := by
  rw [List.append_assoc, app_at hx, dots_at, or_iff_left fun z => hy (List.mem_of_getElem? z.2)]
  exact Bl.shift
theorem Bl.three {a i : Nat} : (Bl a i ∧ Bl a (i + 1) ∧ Bl a (i + 2)) ↔ i = a := by
  constructor
  · rintro ⟨h, _, h2⟩
    exact Nat.le_antisymm (Nat.le_of_lt_succ (Nat.lt_of_add_lt_add_right (n := 2) h2.2)) h.1
  · rintro rfl
    exact ⟨⟨Nat.le_refl _, Nat.lt_add_of_pos_right (by decide)⟩, ⟨Nat.le_succ _, Nat.add_lt_add_left (by decide) _⟩, ⟨Nat.le_add_right _ _, Nat.add_lt_add_left (by decide) _⟩⟩
theorem Bl.six {a b i : Nat} (h : a + 3 < b) : ((Bl a i ∨ Bl b i) ∧ (Bl a (i + 1) ∨ Bl b (i + 1)) ∧ (Bl a (i + 2) ∨ Bl b (i + 2))) ↔ i = a ∨ i = b := by
  have nb : ∀ {j}, j < a + 3 → ¬ Bl b (j + 1) := fun q z => Nat.lt_irrefl _ (Nat.lt_of_lt_of_le h (Nat.le_trans z.1 q))
  have na : ∀ {j}, b ≤ j → ¬ Bl a j := fun q z => Nat.lt_irrefl _ (Nat.lt_trans (Nat.lt_of_lt_of_le h q) z.2)
  constructor
  · rintro ⟨h0, h1, h2⟩
    rcases h0 with h0 | h0
    · have h1 := h1.resolve_right (nb h0.2)
      exact .inl (Bl.three.mp ⟨h0, h1, h2.resolve_right (nb h1.2)⟩)
    · exact .inr (Bl.three.mp ⟨h0, h1.resolve_left (na (Nat.le_trans h0.1 (Nat.le_add_right _ 1))), h2.resolve_left (na (Nat.le_trans h0.1 (Nat.le_add_right _ 2)))⟩)
  · rintro (z | z)
    · exact (Bl.three.mpr z).imp .inl (.imp .inl .inl)
    · exact (Bl.three.mpr z).imp .inr (.imp .inr .inr)
theorem hit3 (w : List Nat) (hi i : Nat) : hitB (nS w) (nS dots) hi i = true ↔ i + 3 ≤ hi ∧ w[i]? = some 46 ∧ w[i + 1]? = some 46 ∧ w[i + 2]? = some 46 := by
  rw [hit_nS, Bool.and_eq_true, decide_eq_true_eq, decide_eq_true_eq, take3]
  rfl
theorem hit_len {w : List Nat} {i : Nat} (h : w[i]? = some 46 ∧ w[i + 1]? = some 46 ∧ w[i + 2]? = some 46) : i + 3 ≤ w.length := (List.getElem?_eq_some_iff.mp h.2.2).1
theorem ln3 (xs ys : List Nat) : (xs ++ dots ++ ys).length = xs.length + 3 + ys.length := by rw [List.length_append, List.length_append]; rfl
theorem occ3 {xs ys : List Nat} (hx : 46 ∉ xs) (hy : 46 ∉ ys) (limit : Nat) (hl : 0 < limit) : occurrences (nS (xs ++ dots ++ ys)) (nS dots) 0 (nS (xs ++ dots ++ ys)).length limit = [xs.length] := by
  rw [occ_occL, nS_len]
  refine occL_one _ _ _ _ _ _ _ ?_ hl (Nat.zero_le _)
  refine fil_one _ 0 (Nat.zero_le _) ?_ fun i _ hi => ?_
  · rw [Nat.zero_add, ln3]
    exact Nat.lt_succ_of_le (Nat.le_trans (Nat.le_add_right _ 3) (Nat.le_add_right _ _))
  · rw [hit3, and_iff_right_of_imp hit_len, dot3 hx hy, dot3 hx hy, dot3 hx hy]
    exact Bl.three
theorem kind_nS (x : Str) : ¬ (Builtin.Str.strKind x < Builtin.Str.strKind (nS dots)) := by
  have h1 : Builtin.Str.strKind (nS dots) = 1 := by decide +kernel
  rw [h1]
  unfold Builtin.Str.strKind
  split
  · omega
  · split <;> omega
theorem split3 {xs ys : List Nat} (hx : 46 ∉ xs) (hy : 46 ∉ ys) : Txt.split (nS (xs ++ dots ++ ys)) (nS dots) = [nS xs, nS ys] := by
  have hd : dots.length = 3 := rfl
  unfold Txt.split
  rw [if_neg, occ3 hx hy _ (by omega), if_neg (by simp)]
  · show [strSub _ 0 xs.length, strSub _ (xs.length + (nS dots).length) (nS (xs ++ dots ++ ys)).length] = _
    rw [sub_nS, sub_nS, nS_len, nS_len]
    congr 1
    · rw [List.drop_zero, Nat.sub_zero, List.append_assoc, List.take_left]
    · congr 1
      have e : (xs ++ dots ++ ys).drop (xs.length + dots.length) = ys := by
        rw [← List.length_append]; exact List.drop_left
      rw [e, List.take_of_length_le (by simp only [List.length_append]; omega)]
  · simp only [Bool.or_eq_true, decide_eq_true_eq, not_or]
    refine ⟨?_, kind_nS _⟩
    rw [nS_len, nS_len]
    simp only [List.length_append, hd]
    omega
theorem dot5 {xs ys : List Nat} (hx : 46 ∉ xs) (hy : 46 ∉ ys) {j : Nat} : (xs ++ dots ++ ys ++ dots)[j]? = some 46 ↔ Bl xs.length j ∨ Bl (xs.length + 3 + ys.length) j := by
  have d0 : ∀ {k}, dots[k]? = some 46 ↔ Bl 0 k := fun {k} => (dots_at (zs := []) (j := k)).trans (or_iff_left fun z => List.not_mem_nil (List.mem_of_getElem? z.2))
  rw [List.append_assoc, List.append_assoc, app_at hx, dots_at, app_at hy, d0, Bl.shift, Bl.shift, and_or_left, Bl.shift, Bl.shift, Nat.add_assoc]
  rfl
theorem occ5 {xs ys : List Nat} (hx : 46 ∉ xs) (hy : 46 ∉ ys) (h0 : ys ≠ []) (limit : Nat) (hl : 1 < limit) : occurrences (nS (xs ++ dots ++ ys ++ dots)) (nS dots) 0 (nS (xs ++ dots ++ ys ++ dots)).length limit = [xs.length, xs.length + 3 + ys.length] := by
  have hy0 : xs.length + 3 < xs.length + 3 + ys.length := Nat.lt_add_of_pos_right (List.length_pos_iff.mpr h0)
  rw [occ_occL, nS_len]
  refine occL_two _ _ _ _ _ _ _ ?_ hl (Nat.zero_le _) (Nat.le_add_right _ _)
  refine fil_two _ 0 (Nat.zero_le _) (Nat.lt_trans (Nat.lt_add_of_pos_right (by decide)) hy0) ?_ fun i _ hi => ?_
  · rw [Nat.zero_add, List.length_append, ln3]
    exact Nat.lt_succ_of_le (Nat.le_add_right _ _)
  · rw [hit3, and_iff_right_of_imp hit_len, dot5 hx hy, dot5 hx hy, dot5 hx hy]
    exact Bl.six hy0
theorem split5 {xs ys : List Nat} (hx : 46 ∉ xs) (hy : 46 ∉ ys) (h0 : ys ≠ []) : Txt.split (nS (xs ++ dots ++ ys ++ dots)) (nS dots) = [nS xs, nS ys, nS []] := by
  have hd : dots.length = 3 := rfl
  have hy0 : 0 < ys.length := List.length_pos_iff.mpr h0
  unfold Txt.split
  rw [if_neg, occ5 hx hy h0 _ (by rw [nS_len]; simp only [List.length_append, hd]; omega), if_neg (by simp)]
  · show [strSub _ 0 xs.length, strSub _ (xs.length + (nS dots).length) (xs.length + 3 + ys.length), strSub _ (xs.length + 3 + ys.length + (nS dots).length) (nS (xs ++ dots ++ ys ++ dots)).length] = _
    rw [sub_nS, sub_nS, sub_nS, nS_len, nS_len]
    congr 1
    · rw [List.drop_zero, Nat.sub_zero, List.append_assoc, List.append_assoc, List.take_left]
    · congr 1
      · have e : (xs ++ dots ++ ys ++ dots).drop (xs.length + dots.length) = ys ++ dots := by
          rw [← List.length_append, List.append_assoc (xs ++ dots)]; exact List.drop_left
        have e2 : xs.length + 3 + ys.length - (xs.length + dots.length) = ys.length := by rw [hd]; omega
        rw [e, e2, List.take_left]
      · congr 1
        rw [List.drop_eq_nil_of_le (by simp only [List.length_append, hd]; omega)]
        simp
  · simp only [Bool.or_eq_true, decide_eq_true_eq, not_or]
    refine ⟨?_, kind_nS _⟩
    rw [nS_len, nS_len]
    simp only [List.length_append, hd]
    omega
theorem starts_nS (g x : List Nat) : Txt.startswith (nS g) (nS x) = decide (x <+: g) := by
  unfold Txt.startswith
  rw [subAt_nS, nS_len, nS_len, List.drop_zero, ← Bool.decide_and]
  congr 1
  rw [List.prefix_iff_eq_take]
  apply propext
  constructor
  · rintro ⟨_, h⟩; exact h.symm
  · intro h
    refine ⟨?_, h.symm⟩
    have := congrArg List.length h
    rw [List.length_take] at this
    rw [Nat.zero_add]
    exact Nat.le_trans (Nat.le_of_eq this) (Nat.min_le_right _ _)
theorem ends_nS (g x : List Nat) : Txt.endswith (nS g) (nS x) = decide (x <:+ g) := by
  unfold Txt.endswith
  rw [subAt_nS, nS_len, nS_len, ← Bool.decide_and]
  congr 1
  rw [List.suffix_iff_eq_drop]
  apply propext
  constructor
  · rintro ⟨h0, h⟩
    rw [Nat.zero_add] at h0
    rw [List.take_of_length_le (by rw [List.length_drop, Nat.sub_sub_self h0]; exact Nat.le_refl _)] at h
    exact h.symm
  · intro h
    have hl := congrArg List.length h
    rw [List.length_drop] at hl
    have h0 := Nat.le_trans (Nat.le_of_eq hl) (Nat.sub_le _ _)
    refine ⟨(Nat.zero_add _).symm ▸ h0, ?_⟩
    rw [List.take_of_length_le (by rw [List.length_drop, Nat.sub_sub_self h0]; exact Nat.le_refl _)]
    exact h.symm
theorem from_nat (n k : Nat) : fromIndex n (k : Int) = k := by
  unfold fromIndex
  rw [if_neg (Int.not_lt.mpr (Int.natCast_nonneg k)), Int.max_eq_right (Int.natCast_nonneg k)]
  rfl
theorem find_nil (g : List Nat) (i j : Nat) (h : i ≤ j) (hj : j ≤ g.length) : find4 (nS g) (nS []) (i : Int) (j : Int) = (i : Int) := by
  unfold find4
  rw [nS_len, from_nat, from_nat, Nat.min_eq_left hj, occ_occL, occL_first _ _ _ _ _ (fun k m => (List.mem_range'_1.mp m).1)]
  have e : List.range' i (j + 1 - i) = i :: List.range' (i + 1) (j - i) := by
    rw [Nat.succ_sub h, List.range'_succ]
  have hh : hitB (nS g) (nS []) j i = true := by rw [hit_nS]; simp [h]
  rw [e, List.filter_cons, hh]
  rfl
theorem find_one (g : List Nat) (c i : Nat) (hi : i ≤ g.length) : (c ∈ g.drop i → ∃ k, find4 (nS g) (nS [c]) (i : Int) (g.length : Int) = (k : Nat) ∧ k + 1 ≤ g.length) ∧ (c ∉ g.drop i → find4 (nS g) (nS [c]) (i : Int) (g.length : Int) = -1) := by
  have hit : ∀ k, hitB (nS g) (nS [c]) g.length k = decide (g[k]? = some c) := by
    intro k
    rw [hit_nS]
    by_cases hk : g[k]? = some c
    · have hkl := (List.getElem?_eq_some_iff.mp hk).1
      have : (g.drop k).take 1 = [c] := by
        rw [List.drop_eq_getElem_cons hkl]
        obtain ⟨_, e⟩ := List.getElem?_eq_some_iff.mp hk
        rw [e]; rfl
      rw [decide_eq_true hk]
      simp only [List.length_cons, List.length_nil, Nat.zero_add, this, decide_true, Bool.and_true, decide_eq_true_eq]
      exact hkl
    · rw [decide_eq_false hk, Bool.and_eq_false_iff]
      right
      rw [decide_eq_false_iff_not]
      intro h
      apply hk
      have := congrArg (·[0]?) h
      simpa using this
  have key : find4 (nS g) (nS [c]) (i : Int) (g.length : Int) = match ((List.range' i (g.length + 1 - i)).filter (fun k => decide (g[k]? = some c))).take 1 with | k :: _ => (k : Int) | [] => -1 := by
    unfold find4
    rw [nS_len, from_nat, from_nat, Nat.min_self, occ_occL, occL_first _ _ _ _ _ (fun k m => (List.mem_range'_1.mp m).1)]
    have : (hitB (nS g) (nS [c]) g.length) = fun k => decide (g[k]? = some c) := funext hit
    rw [this]
    all_goals rfl
  rw [key]
  constructor
  · intro hm
    obtain ⟨j, hj⟩ := List.getElem?_of_mem hm
    rw [List.getElem?_drop] at hj
    have hjl := (List.getElem?_eq_some_iff.mp hj).1
    cases hf : (List.range' i (g.length + 1 - i)).filter (fun k => decide (g[k]? = some c)) with
    | nil =>
      have : i + j ∈ (List.range' i (g.length + 1 - i)).filter (fun k => decide (g[k]? = some c)) := List.mem_filter.mpr ⟨List.mem_range'_1.mpr ⟨Nat.le_add_right _ _, by rw [Nat.add_sub_cancel' (Nat.le_succ_of_le hi)]; exact Nat.lt_succ_of_lt hjl⟩, by simpa using hj⟩
      rw [hf] at this; cases this
    | cons k r =>
      refine ⟨k, rfl, ?_⟩
      have : k ∈ (List.range' i (g.length + 1 - i)).filter (fun k => decide (g[k]? = some c)) := by rw [hf]; exact .head _
      have h2 := (List.mem_filter.mp this).2
      have h3 : g[k]? = some c := by simpa using h2
      exact (List.getElem?_eq_some_iff.mp h3).1
  · intro hm
    have : (List.range' i (g.length + 1 - i)).filter (fun k => decide (g[k]? = some c)) = [] := by
      refine List.filter_eq_nil_iff.mpr fun k hk => ?_
      simp only [decide_eq_true_eq]
      intro h
      have hik := (List.mem_range'_1.mp hk).1
      apply hm
      have : (g.drop i)[k - i]? = some c := by rw [List.getElem?_drop]; rw [Nat.add_sub_cancel' hik]; exact h
      exact List.mem_of_getElem? this
    rw [this]
    rfl
end Mine
end

section
open PySem PySem.W PyProof.Rows Builtin.Str
namespace Mine
noncomputable def tsL (ps : List (List Nat)) : List Dat := ps.map fun p => .str (nS p)
structure ElSt (w g : List Nat) (st : LSt) : Prop where
  want : st.get (Str.ofString "want") = some (.val (.str (nS w)))
  got : st.get (Str.ofString "got") = some (.val (.str (nS g)))
  m : st.get (Str.ofString "ELLIPSIS_MARKER") = some .glo
  len : st.get (Str.ofString "len") = some .glo
structure ElS (w g : List Nat) (W : List (List Nat)) (a b : Nat) (st : LSt) : Prop extends ElSt w g st where
  ws : st.get (Str.ofString "ws") = some (.own (tsL W))
  sp : st.get (Str.ofString "startpos") = some (.val (.int (a : Int)))
  ep : st.get (Str.ofString "endpos") = some (.val (.int (b : Int)))
theorem ElSt.put {w g : List Nat} {st : LSt} (h : ElSt w g st) {x : Str} {l : LV} (h1 : Str.ofString "want" ≠ x) (h2 : Str.ofString "got" ≠ x) (h3 : Str.ofString "ELLIPSIS_MARKER" ≠ x) (h4 : Str.ofString "len" ≠ x) : ElSt w g (st.put x l) :=
  ⟨by rw [LSt.get_put, if_neg h1]; exact h.want, by rw [LSt.get_put, if_neg h2]; exact h.got, by rw [LSt.get_put, if_neg h3]; exact h.m, by rw [LSt.get_put, if_neg h4]; exact h.len⟩
theorem gl_dots : fEll.O.glob (Str.ofString "ELLIPSIS_MARKER") = some (.str (nS dots)) := by
  show some (Dat.str (Str.ofString "...")) = _
  congr 1
theorem dots_len : 0 < (nS dots).length := by decide
section
variable {w g : List Nat} {st : LSt} {n : Nat}
theorem el0 (h : ElSt w g st) (hin : strIn (nS dots) (nS w) = true) : exS fEll.O (Itp.at fEll.O (n + 12)) st (stm 11 0) = some (.nx, st) := by
  (conv in (stm _ _) => whnf); simp +decide [LSt.get_put, h.want, h.m, gl_dots, hin]
theorem el1 (h : ElSt w g st) {W : List (List Nat)} (hsp : Txt.split (nS w) (nS dots) = W.map nS) (hl : w.length ≤ 100) : exS fEll.O (Itp.at fEll.O (n + 12)) st (stm 11 1) = some (.nx, st.put (Str.ofString "ws") (.own (tsL W))) := by
  have h1 : (nS w).length ≤ 4096 := by rw [nS_len]; omega
  have e : (W.map nS).map Dat.str = tsL W := by rw [List.map_map]; rfl
  have := dots_len
  (conv in (stm _ _) => whnf); simp +decide [LSt.get_put, h.want, h.m, gl_dots, h1, hsp, this, -List.map_map, e]
theorem el2 (h : ElSt w g st) {W : List (List Nat)} (hw : st.get (Str.ofString "ws") = some (.own (tsL W))) (h2 : 2 ≤ W.length) (h3 : W.length ≤ 10) : exS fEll.O (Itp.at fEll.O (n + 12)) st (stm 11 2) = some (.nx, st) := by
  have e : (tsL W).length = W.length := by simp [tsL]
  have h4 : (tsL W).length ≤ 4096 := by omega
  have h5 : (2 : Int) ≤ W.length := by omega
  (conv in (stm _ _) => whnf); simp +decide [LSt.get_put, hw, h.len, bi_len _ h4, e, h5]
theorem el3 (h : ElSt w g st) {W : List (List Nat)} (hw : st.get (Str.ofString "ws") = some (.own (tsL W))) (hg : g.length ≤ 100) : ∃ st', exS fEll.O (Itp.at fEll.O (n + 12)) st (stm 11 3) = some (.nx, st') ∧ ElS w g W 0 g.length st' := by
  have h4 : (nS g).length ≤ 4096 := by rw [nS_len]; omega
  refine ⟨(st.put (Str.ofString "startpos") (.val (.int 0))).put (Str.ofString "endpos") (.val (.int (g.length : Int))), ?_, ?_⟩
  · have hsw : ∀ c k p f q as kw p', swapOk [.Constant c k p, .Call (.Name f q) as kw p'] = true := fun _ _ _ _ _ _ _ _ => rfl
    have hb := bi_lens _ h4
    rw [nS_len] at hb
    (conv in (stm _ _) => whnf); simp +decide [LSt.get_put, h.got, h.len, hb, hsw]
    done
  · exact { toElSt := (h.put (by decide) (by decide) (by decide) (by decide)).put (by decide) (by decide) (by decide) (by decide), ws := by (repeat (refine npt ?_ rfl)); exact hw, sp := by (repeat (refine npt ?_ rfl)); exact spt, ep := by (repeat (refine npt ?_ rfl)); exact spt }
end
end Mine
end

section
open PySem PySem.W PyProof.Rows Builtin.Str
namespace Mine
theorem m_starts (x y : Str) : meth (Str.ofString "startswith") (.str x) [.str y] = some (.bool (Txt.startswith x y)) := rfl
theorem m_ends (x y : Str) : meth (Str.ofString "endswith") (.str x) [.str y] = some (.bool (Txt.endswith x y)) := rfl
theorem m_find (x y : Str) (i j : Nat) (hi : i ≤ 4000) (hj : j ≤ 4000) : meth (Str.ofString "find") (.str x) [.str y, .int (i : Int), .int (j : Int)] = some (.int (find4 x y i j)) := by
  show (if Str.ofString "find" = Str.ofString "find" ∧ (0 : Int) ≤ (i : Int) ∧ (0 : Int) ≤ (j : Int) ∧ (i : Int) ≤ 4096 ∧ (j : Int) ≤ 4096 then some (Dat.int (find4 x y i j)) else none) = _
  rw [if_pos ⟨rfl, by omega, by omega, by omega, by omega⟩]
theorem tsL_cons (x : List Nat) (r : List (List Nat)) : tsL (x :: r) = .str (nS x) :: tsL r := rfl
theorem tsL_snoc (x : List Nat) (r : List (List Nat)) : tsL (r ++ [x]) = tsL r ++ [.str (nS x)] := by simp [tsL]
theorem tsL_len (r : List (List Nat)) : (tsL r).length = r.length := by simp [tsL]
theorem ElS.put {w g : List Nat} {W : List (List Nat)} {a b : Nat} {st : LSt} (h : ElS w g W a b st) {x : Str} {l : LV} (h1 : Str.ofString "want" ≠ x) (h2 : Str.ofString "got" ≠ x) (h3 : Str.ofString "ELLIPSIS_MARKER" ≠ x) (h4 : Str.ofString "len" ≠ x) (h5 : Str.ofString "ws" ≠ x) (h6 : Str.ofString "startpos" ≠ x) (h7 : Str.ofString "endpos" ≠ x) : ElS w g W a b (st.put x l) :=
  { toElSt := h.toElSt.put h1 h2 h3 h4, ws := by rw [LSt.get_put, if_neg h5]; exact h.ws, sp := by rw [LSt.get_put, if_neg h6]; exact h.sp, ep := by rw [LSt.get_put, if_neg h7]; exact h.ep }
theorem ElS.putW {w g : List Nat} {W W' : List (List Nat)} {a b : Nat} {st : LSt} (h : ElS w g W a b st) : ElS w g W' a b (st.put (Str.ofString "ws") (.own (tsL W'))) :=
  { toElSt := h.toElSt.put (by decide) (by decide) (by decide) (by decide), ws := by rw [LSt.get_put, if_pos rfl], sp := by rw [LSt.get_put, if_neg (by decide)]; exact h.sp, ep := by rw [LSt.get_put, if_neg (by decide)]; exact h.ep }
theorem ElS.putA {w g : List Nat} {W : List (List Nat)} {a a' b : Nat} {st : LSt} (h : ElS w g W a b st) : ElS w g W a' b (st.put (Str.ofString "startpos") (.val (.int (a' : Int)))) :=
  { toElSt := h.toElSt.put (by decide) (by decide) (by decide) (by decide), ws := by rw [LSt.get_put, if_neg (by decide)]; exact h.ws, sp := by rw [LSt.get_put, if_pos rfl], ep := by rw [LSt.get_put, if_neg (by decide)]; exact h.ep }
theorem ElS.putB {w g : List Nat} {W : List (List Nat)} {a b b' : Nat} {st : LSt} (h : ElS w g W a b st) : ElS w g W a b' (st.put (Str.ofString "endpos") (.val (.int (b' : Int)))) :=
  { toElSt := h.toElSt.put (by decide) (by decide) (by decide) (by decide), ws := by rw [LSt.get_put, if_neg (by decide)]; exact h.ws, sp := by rw [LSt.get_put, if_neg (by decide)]; exact h.sp, ep := by rw [LSt.get_put, if_pos rfl] }
section
variable {w g : List Nat} {st : LSt} {n a b : Nat} {W : List (List Nat)}
theorem el4 {x : List Nat} (h : ElS w g (x :: W) a b st) (hl : W.length ≤ 9) : exS fEll.O (Itp.at fEll.O (n + 12)) st (stm 11 4) = some (.nx, st.put (Str.ofString "w") (.val (.str (nS x)))) := by
  have h1 := h.ws
  rw [tsL_cons] at h1
  have h2 : idxAt (Dat.str (nS x) :: tsL W) 0 = some 0 := idxNat _ 0 (by simp) (by simp [tsL_len]; omega)
  (conv in (stm _ _) => whnf); simp +decide [LSt.get_put, h1, h2]
theorem el6 {x : List Nat} (h : ElS w g (W ++ [x]) a b st) (hl : W.length ≤ 9) : exS fEll.O (Itp.at fEll.O (n + 12)) st (stm 11 6) = some (.nx, st.put (Str.ofString "w") (.val (.str (nS x)))) := by
  have h1 := h.ws
  rw [tsL_snoc] at h1
  have h2 := idxLast (tsL W) (.str (nS x)) (by rw [tsL_len]; omega)
  (conv in (stm _ _) => whnf); simp +decide [LSt.get_put, h1, h2]
theorem el5a (hw : st.get (Str.ofString "w") = some (.val (.str (nS [])))) : exS fEll.O (Itp.at fEll.O (n + 16)) st (stm 11 5) = some (.nx, st) := by
  have : (nS []).length = 0 := rfl
  (conv in (stm _ _) => whnf); simp +decide [LSt.get_put, hw, this]
theorem el7a (hw : st.get (Str.ofString "w") = some (.val (.str (nS [])))) : exS fEll.O (Itp.at fEll.O (n + 16)) st (stm 11 7) = some (.nx, st) := by
  have : (nS []).length = 0 := rfl
  (conv in (stm _ _) => whnf); simp +decide [LSt.get_put, hw, this]
theorem el5b {x : List Nat} (h : ElS w g (x :: W) a b st) (hw : st.get (Str.ofString "w") = some (.val (.str (nS x)))) (hx : x ≠ []) (hl : x.length ≤ 100) (hW : W.length ≤ 9) :
    ∃ st', exS fEll.O (Itp.at fEll.O (n + 16)) st (stm 11 5) = some (if x <+: g then .nx else .ret (.st (.bool false)), st') ∧ (x <+: g → ElS w g W x.length b st') := by
  have h0 : (nS x).length ≠ 0 := by rw [nS_len]; exact fun z => hx (List.length_eq_zero_iff.mp z)
  have h1 : (nS x).length ≤ 4096 := by rw [nS_len]; omega
  have h2 : (tsL (x :: W)).length ≤ 4096 := by rw [tsL_len, List.length_cons]; omega
  have h3 : idxAt (tsL (x :: W)) 0 = some 0 := idxNat _ 0 (by rw [tsL_len, List.length_cons]; omega) h2
  have h4 : (tsL (x :: W)).eraseIdx 0 = tsL W := rfl
  have h5 := bi_lens _ h1
  have h6 := h.ws
  rw [nS_len] at h5
  by_cases hp : x <+: g
  · refine ⟨(st.put (Str.ofString "startpos") (.val (.int (x.length : Int)))).put (Str.ofString "ws") (.own (tsL W)), ?_, fun _ => (h.putA (a' := x.length)).putW⟩
    rw [if_pos hp]
    (conv in (stm _ _) => whnf); simp +decide [LSt.get_put, hw, h0, h1, h.got, m_starts, starts_nS, hp, h.len, h5, h6, h3, h4, -List.eraseIdx_zero]
  · refine ⟨st, ?_, fun z => absurd z hp⟩
    rw [if_neg hp]
    (conv in (stm _ _) => whnf); simp +decide [LSt.get_put, hw, h0, h1, h.got, m_starts, starts_nS, hp, h.len]
theorem el7b {x : List Nat} (h : ElS w g (W ++ [x]) a b st) (hw : st.get (Str.ofString "w") = some (.val (.str (nS x)))) (hx : x ≠ []) (hl : x.length ≤ 100) (hW : W.length ≤ 9) (hb : x <:+ g → x.length ≤ b) :
    ∃ st', exS fEll.O (Itp.at fEll.O (n + 16)) st (stm 11 7) = some (if x <:+ g then .nx else .ret (.st (.bool false)), st') ∧ (x <:+ g → ElS w g W a (b - x.length) st') := by
  have h0 : (nS x).length ≠ 0 := by rw [nS_len]; exact fun z => hx (List.length_eq_zero_iff.mp z)
  have h1 : (nS x).length ≤ 4096 := by rw [nS_len]; omega
  have h3 := idxLast (tsL W) (.str (nS x)) (by rw [tsL_len]; omega)
  have h4 : (tsL W ++ [Dat.str (nS x)]).eraseIdx (tsL W).length = tsL W := by rw [List.eraseIdx_append_of_length_le (Nat.le_refl _)]; simp
  have h5 := bi_lens _ h1
  have h6 := h.ws
  rw [tsL_snoc] at h6
  rw [nS_len] at h5
  by_cases hp : x <:+ g
  · have e : (b : Int) - (x.length : Int) = ((b - x.length : Nat) : Int) := by have := hb hp; omega
    refine ⟨(st.put (Str.ofString "endpos") (.val (.int ((b - x.length : Nat) : Int)))).put (Str.ofString "ws") (.own (tsL W)), ?_, fun _ => (h.putB (b' := b - x.length)).putW⟩
    rw [if_pos hp]
    (conv in (stm _ _) => whnf); simp +decide [LSt.get_put, hw, h0, h1, h.got, m_ends, ends_nS, hp, h.len, h5, h6, h3, h4, h.ep, e]
  · refine ⟨st, ?_, fun z => absurd z hp⟩
    rw [if_neg hp]
    (conv in (stm _ _) => whnf); simp +decide [LSt.get_put, hw, h0, h1, h.got, m_ends, ends_nS, hp, h.len]
theorem el8 (h : ElS w g W a b st) : exS fEll.O (Itp.at fEll.O (n + 16)) st (stm 11 8) = some (if a ≤ b then .nx else .ret (.st (.bool false)), st) := by
  by_cases hh : a ≤ b
  · have h1 : ¬ ((b : Int) < (a : Int)) := by omega
    rw [if_pos hh]
    (conv in (stm _ _) => whnf); simp +decide [LSt.get_put, h.sp, h.ep, h1]
  · have h1 : ((b : Int) < (a : Int)) := by omega
    rw [if_neg hh]
    (conv in (stm _ _) => whnf); simp +decide [LSt.get_put, h.sp, h.ep, h1]
end
end Mine
end

section
open PySem PySem.W PyProof.Rows Builtin.Str
namespace Mine
structure ElL (g : List Nat) (a b : Nat) (st : LSt) : Prop where
  got : st.get (Str.ofString "got") = some (.val (.str (nS g)))
  len : st.get (Str.ofString "len") = some .glo
  sp : st.get (Str.ofString "startpos") = some (.val (.int (a : Int)))
  ep : st.get (Str.ofString "endpos") = some (.val (.int (b : Int)))
section
variable {w g : List Nat} {st : LSt} {n a b : Nat} {W : List (List Nat)}
theorem el_turn {x : List Nat} (h : ElL g a b st) (ha : a ≤ 4000) (hb : b ≤ 4000) (hx : x.length ≤ 100) :
    (∀ k : Nat, find4 (nS g) (nS x) a b = k → ∃ st', (Itp.at fEll.O (n + 16)).exs (st.put (Str.ofString "w") (.val (.str (nS x)))) (blk (stm 11 9)) = some (.nx, st') ∧ ElL g (k + x.length) b st') ∧
    (find4 (nS g) (nS x) a b = -1 → ∃ st', (Itp.at fEll.O (n + 16)).exs (st.put (Str.ofString "w") (.val (.str (nS x)))) (blk (stm 11 9)) = some (.ret (.st (.bool false)), st')) := by
  have h1 : (nS x).length ≤ 4096 := by rw [nS_len]; omega
  have h5 := bi_lens _ h1
  rw [nS_len] at h5
  have hf := m_find (nS g) (nS x) a b ha hb
  constructor
  · intro k hk
    rw [hk] at hf
    have h0 : ¬ ((k : Int) < 0) := by omega
    refine ⟨((st.put (Str.ofString "w") (.val (.str (nS x)))).put (Str.ofString "startpos") (.val (.int (k : Int)))).put (Str.ofString "startpos") (.val (.int ((k : Int) + (x.length : Int)))), ?_, ?_⟩
    · (conv in (stm _ _) => whnf); simp +decide [LSt.get_put, h.got, h.sp, h.ep, hf, h0, h.len, h5]
    · exact ⟨by (repeat (refine npt ?_ rfl)); exact h.got, by (repeat (refine npt ?_ rfl)); exact h.len, by (repeat (refine npt ?_ rfl)); exact spt, by (repeat (refine npt ?_ rfl)); exact h.ep⟩
  · intro hk
    rw [hk] at hf
    refine ⟨(st.put (Str.ofString "w") (.val (.str (nS x)))).put (Str.ofString "startpos") (.val (.int (-1))), ?_⟩
    (conv in (stm _ _) => whnf); simp +decide [LSt.get_put, h.got, h.sp, h.ep, hf, h.len, h5]
theorem el_for (I : Itp) (O : Orc) (st : LSt) : exS O I st (stm 11 9) = if O.loc (Str.ofString "w") = false then none else (itemsOf I (evV I) (frz st (tstOf (stm 11 9))) (tstOf (stm 11 9))).bind fun ds => forLoop I (Str.ofString "w") (blk (stm 11 9)) (frz st (tstOf (stm 11 9))) ds := rfl
theorem el_start (h : ElS w g W a b st) (hW : W.length ≤ 9) : ∃ st', exS fEll.O (Itp.at fEll.O (n + 12)) st (stm 11 9) = forLoop (Itp.at fEll.O (n + 12)) (Str.ofString "w") (blk (stm 11 9)) st' (tsL W) ∧ ElL g a b st' := by
  have hfz : frz st (tstOf (stm 11 9)) = st.put (Str.ofString "ws") (.val (.list (tsL W))) := frz_own (p := (tstOf (stm 11 9)).pos) h.ws
  have hit : itemsOf (Itp.at fEll.O (n + 12)) (evV (Itp.at fEll.O (n + 12))) (st.put (Str.ofString "ws") (.val (.list (tsL W)))) (tstOf (stm 11 9)) = some (tsL W) := by
    have : (tsL W).length ≤ 4096 := by rw [tsL_len]; omega
    (conv in (stm _ _) => whnf); simp +decide [LSt.get_put, this]
  refine ⟨st.put (Str.ofString "ws") (.val (.list (tsL W))), ?_, ⟨by (repeat (refine npt ?_ rfl)); exact h.got, by (repeat (refine npt ?_ rfl)); exact h.len, by (repeat (refine npt ?_ rfl)); exact h.sp, by (repeat (refine npt ?_ rfl)); exact h.ep⟩⟩
  rw [el_for, if_neg (by decide), hfz, hit]
  rfl
theorem el9n (h : ElS w g [] a b st) : ∃ st', exS fEll.O (Itp.at fEll.O (n + 16)) st (stm 11 9) = some (.nx, st') := by
  obtain ⟨st1, e1, _⟩ := el_start (n := n + 4) h (by simp)
  exact ⟨st1, by rw [e1]; rfl⟩
theorem el9e (h : ElS w g [[]] a b st) (hab : a ≤ b) (hb : b ≤ g.length) (hg : g.length ≤ 100) : ∃ st', exS fEll.O (Itp.at fEll.O (n + 16)) st (stm 11 9) = some (.nx, st') := by
  obtain ⟨st1, e1, L⟩ := el_start (n := n + 4) h (by simp)
  obtain ⟨st2, e2, _⟩ := (el_turn (n := n) (x := []) L (by omega) (by omega) (by simp)).1 a (find_nil g a b hab hb)
  refine ⟨st2, ?_⟩
  rw [e1]
  show forLoop _ _ _ st1 [.str (nS [])] = _
  rw [for_cons, e2]
  rfl
theorem el9c {c : Nat} (h : ElS w g [[c], []] a g.length st) (hab : a ≤ g.length) (hg : g.length ≤ 100) : ∃ st', exS fEll.O (Itp.at fEll.O (n + 16)) st (stm 11 9) = some (if c ∈ g.drop a then .nx else .ret (.st (.bool false)), st') := by
  obtain ⟨st1, e1, L⟩ := el_start (n := n + 4) h (by simp)
  obtain ⟨f1, f2⟩ := find_one g c a hab
  by_cases hc : c ∈ g.drop a
  · obtain ⟨k, hk, hkl⟩ := f1 hc
    obtain ⟨st2, e2, L2⟩ := (el_turn (n := n) (x := [c]) L (by omega) (by omega) (by simp)).1 k hk
    obtain ⟨st3, e3, _⟩ := (el_turn (n := n) (x := []) L2 (by simp; omega) (by omega) (by simp)).1 (k + 1) (find_nil g (k + 1) g.length hkl (Nat.le_refl _))
    refine ⟨st3, ?_⟩
    rw [e1, if_pos hc]
    show forLoop _ _ _ st1 [.str (nS [c]), .str (nS [])] = _
    rw [for_cons, e2]
    simp only [Option.bind_some]
    rw [for_cons, e3]
    rfl
  · obtain ⟨st2, e2⟩ := (el_turn (n := n) (x := [c]) L (by omega) (by omega) (by simp)).2 (f2 hc)
    refine ⟨st2, ?_⟩
    rw [e1, if_neg hc]
    show forLoop _ _ _ st1 [.str (nS [c]), .str (nS [])] = _
    rw [for_cons, e2]
    rfl
theorem el10 : exS fEll.O (Itp.at fEll.O (n + 16)) st (stm 11 10) = some (.ret (.st (.bool true)), st) := by
  (conv in (stm _ _) => whnf); simp +decide [LSt.get_put]
theorem ell_body : bodyN 11 = [stm 11 0, stm 11 1, stm 11 2, stm 11 3, stm 11 4, stm 11 5, stm 11 6, stm 11 7, stm 11 8, stm 11 9, stm 11 10] := rfl
theorem ell_head (h : ElSt w g st) (hin : strIn (nS dots) (nS w) = true) (hsp : Txt.split (nS w) (nS dots) = W.map nS) (hl : w.length ≤ 100) (h2 : 2 ≤ W.length) (h3 : W.length ≤ 9) (hg : g.length ≤ 100) :
    ∃ st', (Itp.at fEll.O 100).exs st (bodyN 11) = (Itp.at fEll.O 96).exs st' [stm 11 4, stm 11 5, stm 11 6, stm 11 7, stm 11 8, stm 11 9, stm 11 10] ∧ ElS w g W 0 g.length st' := by
  have h' : ElSt w g (st.put (Str.ofString "ws") (.own (tsL W))) := h.put (by decide) (by decide) (by decide) (by decide)
  have hw : (st.put (Str.ofString "ws") (.own (tsL W))).get (Str.ofString "ws") = some (.own (tsL W)) := by rw [LSt.get_put, if_pos rfl]
  obtain ⟨st3, e3, s3⟩ := el3 (n := 84) h' hw hg
  refine ⟨st3, ?_, s3⟩
  rw [ell_body, exs_c, el0 (n := 87) h hin]
  simp only [Option.bind_some]
  rw [exs_c, el1 (n := 86) h hsp hl]
  simp only [Option.bind_some]
  rw [exs_c, el2 (n := 85) h' hw h2 (by omega)]
  simp only [Option.bind_some]
  rw [exs_c, e3]
  rfl
end
theorem out_b (b : Bool) (st : LSt) : outOf (some (.ret (.st (.bool b)), st)) = some (.bool b) := rfl
theorem strIn_of {w : List Nat} {i : Nat} (hi : i + 3 ≤ w.length) (h : (w.drop i).take dots.length = dots) : strIn (nS dots) (nS w) = true := by
  unfold strIn
  rw [StrLaws.found_iff]
  exact ⟨i, by rw [nS_len, nS_len]; exact hi, by rw [subAt_nS, decide_eq_true h]⟩
theorem hit_at (xs ys : List Nat) : ((xs ++ dots ++ ys).drop xs.length).take dots.length = dots := by
  rw [List.append_assoc, List.drop_left, List.take_left]
theorem ellB {x g : List Nat} (hx : x ≠ []) (hd : 46 ∉ x) (hl : x.length ≤ 50) (hg : g.length ≤ 100) : spEll [.str (nS (x ++ dots)), .str (nS g)] = some (.bool (decide (x <+: g))) := by
  have hd3 : dots.length = 3 := rfl
  show outOf ((Itp.at fEll.O 100).exs [(Str.ofString "want", LV.val (.str (nS (x ++ dots)))), (Str.ofString "got", LV.val (.str (nS g))), (Str.ofString "ELLIPSIS_MARKER", LV.glo), (Str.ofString "len", LV.glo)] (bodyN 11)) = _
  have e : x ++ dots = x ++ dots ++ [] := by rw [List.append_nil]
  obtain ⟨st, e0, s0⟩ := ell_head (w := x ++ dots) (g := g) (W := [x, []]) (st := [(Str.ofString "want", LV.val (.str (nS (x ++ dots)))), (Str.ofString "got", LV.val (.str (nS g))), (Str.ofString "ELLIPSIS_MARKER", LV.glo), (Str.ofString "len", LV.glo)])
    ⟨rfl, rfl, rfl, rfl⟩ (strIn_of (i := x.length) (by simp [hd3]) (by rw [e]; exact hit_at _ _)) (by rw [e]; exact split3 hd (by simp)) (by simp only [List.length_append, hd3]; omega) (by simp) (by simp) hg
  rw [e0, exs_c, el4 (n := 83) s0 (by simp)]
  simp only [Option.bind_some]
  have s1 : ElS (x ++ dots) g [x, []] 0 g.length (st.put (Str.ofString "w") (.val (.str (nS x)))) := s0.put (by decide) (by decide) (by decide) (by decide) (by decide) (by decide) (by decide)
  obtain ⟨st2, e2, s2⟩ := el5b (n := 78) s1 (by rw [LSt.get_put, if_pos rfl]) hx (by omega) (by simp)
  rw [exs_c, e2]
  by_cases hp : x <+: g
  · rw [if_pos hp, decide_eq_true hp]
    simp only [Option.bind_some]
    have s2 : ElS (x ++ dots) g ([] ++ [[]]) x.length g.length st2 := s2 hp
    have hpl : x.length ≤ g.length := hp.length_le
    rw [exs_c, el6 (n := 81) s2 (by simp)]
    simp only [Option.bind_some]
    rw [exs_c, el7a (n := 76) (by rw [LSt.get_put, if_pos rfl])]
    simp only [Option.bind_some]
    have s3 : ElS (x ++ dots) g [[]] x.length g.length (st2.put (Str.ofString "w") (.val (.str (nS [])))) := s2.put (by decide) (by decide) (by decide) (by decide) (by decide) (by decide) (by decide)
    rw [exs_c, el8 (n := 75) s3, if_pos hpl]
    simp only [Option.bind_some]
    obtain ⟨st4, e4⟩ := el9e (n := 74) s3 hpl (Nat.le_refl _) hg
    rw [exs_c, e4]
    simp only [Option.bind_some]
    rw [exs_c, el10 (n := 73)]
    rfl
  · rw [if_neg hp, decide_eq_false hp]
    rfl
end Mine
end

section
open PySem PySem.W PyProof.Rows Builtin.Str
namespace Mine
theorem ellA {x g : List Nat} (hx : x ≠ []) (hd : 46 ∉ x) (hl : x.length ≤ 50) (hg : g.length ≤ 100) : spEll [.str (nS (dots ++ x)), .str (nS g)] = some (.bool (decide (x <:+ g))) := by
  have hd3 : dots.length = 3 := rfl
  show outOf ((Itp.at fEll.O 100).exs [(Str.ofString "want", LV.val (.str (nS (dots ++ x)))), (Str.ofString "got", LV.val (.str (nS g))), (Str.ofString "ELLIPSIS_MARKER", LV.glo), (Str.ofString "len", LV.glo)] (bodyN 11)) = _
  have e : dots ++ x = [] ++ dots ++ x := rfl
  obtain ⟨st, e0, s0⟩ := ell_head (w := dots ++ x) (g := g) (W := [[], x]) (st := [(Str.ofString "want", LV.val (.str (nS (dots ++ x)))), (Str.ofString "got", LV.val (.str (nS g))), (Str.ofString "ELLIPSIS_MARKER", LV.glo), (Str.ofString "len", LV.glo)])
    ⟨rfl, rfl, rfl, rfl⟩ (strIn_of (i := 0) (by simp [hd3]) (by rw [e]; exact hit_at [] _)) (by rw [e]; exact split3 (by simp) hd) (by simp only [List.length_append, hd3]; omega) (by simp) (by simp) hg
  rw [e0, exs_c, el4 (n := 83) s0 (by simp)]
  simp only [Option.bind_some]
  have s1 : ElS (dots ++ x) g ([[]] ++ [x]) 0 g.length (st.put (Str.ofString "w") (.val (.str (nS [])))) := s0.put (by decide) (by decide) (by decide) (by decide) (by decide) (by decide) (by decide)
  rw [exs_c, el5a (n := 78) (by rw [LSt.get_put, if_pos rfl])]
  simp only [Option.bind_some]
  rw [exs_c, el6 (n := 81) s1 (by simp)]
  simp only [Option.bind_some]
  have s2 : ElS (dots ++ x) g ([[]] ++ [x]) 0 g.length ((st.put (Str.ofString "w") (.val (.str (nS [])))).put (Str.ofString "w") (.val (.str (nS x)))) := s1.put (by decide) (by decide) (by decide) (by decide) (by decide) (by decide) (by decide)
  obtain ⟨st2, e2, s3⟩ := el7b (n := 76) s2 (by rw [LSt.get_put, if_pos rfl]) hx (by omega) (by simp) (fun z => z.length_le)
  rw [exs_c, e2]
  by_cases hp : x <:+ g
  · rw [if_pos hp, decide_eq_true hp]
    simp only [Option.bind_some]
    have s3 := s3 hp
    rw [exs_c, el8 (n := 75) s3, if_pos (Nat.zero_le _)]
    simp only [Option.bind_some]
    obtain ⟨st4, e4⟩ := el9e (n := 74) s3 (Nat.zero_le _) (by omega) hg
    rw [exs_c, e4]
    simp only [Option.bind_some]
    rw [exs_c, el10 (n := 73)]
    rfl
  · rw [if_neg hp, decide_eq_false hp]
    rfl
theorem ellC {x g : List Nat} {c : Nat} (hx : x ≠ []) (hd : 46 ∉ x) (hc : 46 ≠ c) (hl : x.length ≤ 50) (hg : g.length ≤ 100) : spEll [.str (nS (x ++ dots ++ [c])), .str (nS g)] = some (.bool (decide (x <+: g ∧ [c] <:+ g ∧ x.length + 1 ≤ g.length))) := by
  have hd3 : dots.length = 3 := rfl
  show outOf ((Itp.at fEll.O 100).exs [(Str.ofString "want", LV.val (.str (nS (x ++ dots ++ [c])))), (Str.ofString "got", LV.val (.str (nS g))), (Str.ofString "ELLIPSIS_MARKER", LV.glo), (Str.ofString "len", LV.glo)] (bodyN 11)) = _
  obtain ⟨st, e0, s0⟩ := ell_head (w := x ++ dots ++ [c]) (g := g) (W := [x, [c]]) (st := [(Str.ofString "want", LV.val (.str (nS (x ++ dots ++ [c])))), (Str.ofString "got", LV.val (.str (nS g))), (Str.ofString "ELLIPSIS_MARKER", LV.glo), (Str.ofString "len", LV.glo)])
    ⟨rfl, rfl, rfl, rfl⟩ (strIn_of (i := x.length) (by simp [hd3]) (hit_at _ _)) (split3 hd (by simpa using hc)) (by simp only [List.length_append, hd3, List.length_singleton]; omega) (by simp) (by simp) hg
  rw [e0, exs_c, el4 (n := 83) s0 (by simp)]
  simp only [Option.bind_some]
  have s1 : ElS (x ++ dots ++ [c]) g [x, [c]] 0 g.length (st.put (Str.ofString "w") (.val (.str (nS x)))) := s0.put (by decide) (by decide) (by decide) (by decide) (by decide) (by decide) (by decide)
  obtain ⟨st2, e2, s2⟩ := el5b (n := 78) s1 (by rw [LSt.get_put, if_pos rfl]) hx (by omega) (by simp)
  rw [exs_c, e2]
  by_cases hp : x <+: g
  · rw [if_pos hp]
    simp only [Option.bind_some]
    have s2 : ElS (x ++ dots ++ [c]) g ([] ++ [[c]]) x.length g.length st2 := s2 hp
    rw [exs_c, el6 (n := 81) s2 (by simp)]
    simp only [Option.bind_some]
    have s3 : ElS (x ++ dots ++ [c]) g ([] ++ [[c]]) x.length g.length (st2.put (Str.ofString "w") (.val (.str (nS [c])))) := s2.put (by decide) (by decide) (by decide) (by decide) (by decide) (by decide) (by decide)
    obtain ⟨st3, e3, s4⟩ := el7b (n := 76) s3 (by rw [LSt.get_put, if_pos rfl]) (by simp) (by simp) (by simp) (fun z => z.length_le)
    rw [exs_c, e3]
    by_cases hs : [c] <:+ g
    · rw [if_pos hs]
      simp only [Option.bind_some]
      have s4 := s4 hs
      rw [exs_c, el8 (n := 75) s4]
      have hgl := hs.length_le
      simp only [List.length_cons, List.length_nil, Nat.zero_add] at hgl s4 ⊢
      by_cases hle : x.length + 1 ≤ g.length
      · rw [if_pos (by omega), decide_eq_true ⟨hp, hs, hle⟩]
        simp only [Option.bind_some]
        obtain ⟨st4, e4⟩ := el9n (n := 74) s4
        rw [exs_c, e4]
        simp only [Option.bind_some]
        rw [exs_c, el10 (n := 73)]
        rfl
      · rw [if_neg (by omega), decide_eq_false fun z => hle z.2.2]
        rfl
    · rw [if_neg hs, decide_eq_false fun z => hs z.2.1]
      rfl
  · rw [if_neg hp, decide_eq_false fun z => hp z.1]
    rfl
theorem ellD {x g : List Nat} {c : Nat} (hx : x ≠ []) (hd : 46 ∉ x) (hc : 46 ≠ c) (hl : x.length ≤ 50) (hg : g.length ≤ 100) : spEll [.str (nS (x ++ dots ++ [c] ++ dots)), .str (nS g)] = some (.bool (decide (x <+: g ∧ c ∈ g.drop x.length))) := by
  have hd3 : dots.length = 3 := rfl
  show outOf ((Itp.at fEll.O 100).exs [(Str.ofString "want", LV.val (.str (nS (x ++ dots ++ [c] ++ dots)))), (Str.ofString "got", LV.val (.str (nS g))), (Str.ofString "ELLIPSIS_MARKER", LV.glo), (Str.ofString "len", LV.glo)] (bodyN 11)) = _
  obtain ⟨st, e0, s0⟩ := ell_head (w := x ++ dots ++ [c] ++ dots) (g := g) (W := [x, [c], []]) (st := [(Str.ofString "want", LV.val (.str (nS (x ++ dots ++ [c] ++ dots)))), (Str.ofString "got", LV.val (.str (nS g))), (Str.ofString "ELLIPSIS_MARKER", LV.glo), (Str.ofString "len", LV.glo)])
    ⟨rfl, rfl, rfl, rfl⟩ (strIn_of (i := x.length) (by simp [hd3]) (by rw [List.append_assoc (x ++ dots)]; exact hit_at _ _)) (split5 hd (by simpa using hc) (by simp)) (by simp only [List.length_append, hd3, List.length_singleton]; omega) (by simp) (by simp) hg
  rw [e0, exs_c, el4 (n := 83) s0 (by simp)]
  simp only [Option.bind_some]
  have s1 : ElS (x ++ dots ++ [c] ++ dots) g [x, [c], []] 0 g.length (st.put (Str.ofString "w") (.val (.str (nS x)))) := s0.put (by decide) (by decide) (by decide) (by decide) (by decide) (by decide) (by decide)
  obtain ⟨st2, e2, s2⟩ := el5b (n := 78) s1 (by rw [LSt.get_put, if_pos rfl]) hx (by omega) (by simp)
  rw [exs_c, e2]
  by_cases hp : x <+: g
  · rw [if_pos hp]
    simp only [Option.bind_some]
    have hpl : x.length ≤ g.length := hp.length_le
    have s2 : ElS (x ++ dots ++ [c] ++ dots) g ([[c]] ++ [[]]) x.length g.length st2 := s2 hp
    rw [exs_c, el6 (n := 81) s2 (by simp)]
    simp only [Option.bind_some]
    rw [exs_c, el7a (n := 76) (by rw [LSt.get_put, if_pos rfl])]
    simp only [Option.bind_some]
    have s3 : ElS (x ++ dots ++ [c] ++ dots) g [[c], []] x.length g.length (st2.put (Str.ofString "w") (.val (.str (nS [])))) := s2.put (by decide) (by decide) (by decide) (by decide) (by decide) (by decide) (by decide)
    rw [exs_c, el8 (n := 75) s3, if_pos hpl]
    simp only [Option.bind_some]
    obtain ⟨st4, e4⟩ := el9c (n := 74) s3 hpl hg
    rw [exs_c, e4]
    by_cases hm : c ∈ g.drop x.length
    · rw [if_pos hm, decide_eq_true ⟨hp, hm⟩]
      simp only [Option.bind_some]
      rw [exs_c, el10 (n := 73)]
      rfl
    · rw [if_neg hm, decide_eq_false fun z => hm z.2]
      rfl
  · rw [if_neg hp, decide_eq_false fun z => hp z.1]
    rfl
end Mine
end

section
open PySem PySem.W PyProof.Rows Builtin.Str
namespace Mine
namespace Tr
noncomputable def lastS (k : Nat) : Tr → Int
  | lf c => c
  | nd j _ r => if j < k then 256 + (j : Int) else r.lastS k
noncomputable def firstS (k : Nat) : Tr → Int
  | lf c => c
  | nd j l _ => if j < k then 256 + (j : Int) else l.firstS k
theorem wf_inj {P : List (Int × Int)} : ∀ {s t : Tr}, s.Wf P → t.Wf P → s.sym = t.sym → s = t
  | lf c, lf d, _, _, e => by have : c = d := e; rw [this]
  | lf c, nd k l r, h, _, e => by have h2 := h.2; have : c = 256 + (k : Int) := e; omega
  | nd k l r, lf c, _, h, e => by have h2 := h.2; have : 256 + (k : Int) = c := e; omega
  | nd k l r, nd j x y, h, h', e => by
    have : 256 + (k : Int) = 256 + (j : Int) := e
    have hk : k = j := by omega
    subst hk
    have h1 := h.1
    rw [h'.1] at h1
    injection h1 with h1
    injection h1 with h1 h2
    rw [wf_inj h.2.2.2.1 h'.2.2.2.1 h1.symm, wf_inj h.2.2.2.2 h'.2.2.2.2 h2.symm]
theorem last_par {P : List (Int × Int)} {k : Nat} {l : Int} (hl : l < 256 + (k : Int)) : ∀ {s : Tr} {b : Int}, s.Wf P → s.sym < b → ((∃ u, par b s.rsp l = some u ∧ 256 + (k : Int) < u) ↔ (256 + (k : Int) < b ∧ s.lastS (k + 1) = l))
  | lf c, b, _, _ => by
    show (∃ u, (if c = l then some b else none) = some u ∧ _) ↔ (_ ∧ c = l)
    by_cases h : c = l
    · simp [h]
    · simp [h]
  | nd j x y, b, wf, hb => by
    have hb : 256 + (j : Int) < b := hb
    show (∃ u, (if 256 + (j : Int) = l then some b else par (256 + (j : Int)) y.rsp l) = some u ∧ _) ↔ (_ ∧ (if j < k + 1 then 256 + (j : Int) else y.lastS (k + 1)) = l)
    by_cases h : 256 + (j : Int) = l
    · rw [if_pos h, if_pos (by omega)]
      simp [h]
    · rw [if_neg h, last_par hl wf.2.2.2.2 wf.2.2.1]
      by_cases hj : j < k + 1
      · rw [if_pos hj]
        constructor
        · intro z; omega
        · intro z; exact absurd z.2 h
      · rw [if_neg hj]
        constructor
        · intro z; exact ⟨by omega, z.2⟩
        · intro z; exact ⟨by omega, z.2⟩
theorem first_par {P : List (Int × Int)} {k : Nat} {r : Int} (hr : r < 256 + (k : Int)) : ∀ {t : Tr} {b : Int}, t.Wf P → t.sym < b → ((∃ v, par b t.lsp r = some v ∧ 256 + (k : Int) ≤ v) ↔ (256 + (k : Int) ≤ b ∧ t.firstS k = r))
  | lf c, b, _, _ => by
    show (∃ u, (if c = r then some b else none) = some u ∧ _) ↔ (_ ∧ c = r)
    by_cases h : c = r
    · simp [h]
    · simp [h]
  | nd j x y, b, wf, hb => by
    have hb : 256 + (j : Int) < b := hb
    show (∃ u, (if 256 + (j : Int) = r then some b else par (256 + (j : Int)) x.lsp r) = some u ∧ _) ↔ (_ ∧ (if j < k then 256 + (j : Int) else x.firstS k) = r)
    by_cases h : 256 + (j : Int) = r
    · rw [if_pos h, if_pos (by omega)]
      simp [h]
    · rw [if_neg h, first_par hr wf.2.2.2.1 wf.2.1]
      by_cases hj : j < k
      · rw [if_pos hj]
        constructor
        · intro z; omega
        · intro z; exact absurd z.2 h
      · rw [if_neg hj]
        constructor
        · intro z; exact ⟨by omega, z.2⟩
        · intro z; exact ⟨by omega, z.2⟩
end Tr
noncomputable def PWf (P : List (Int × Int)) : Prop := ∀ (k : Nat) (l r : Int), P[k]? = some (l, r) → l < 256 + (k : Int) ∧ r < 256 + (k : Int)
noncomputable def Al (P : List (Int × Int)) (b : Int) (s t : Tr) : Prop := ∀ (k : Nat) (l r : Int), P[k]? = some (l, r) → 256 + (k : Int) < b → ¬ (s.lastS (k + 1) = l ∧ t.firstS k = r)
theorem bad_iff {P : List (Int × Int)} {b : Int} {s t : Tr} (ws : s.Wf P) (wt : t.Wf P) (hs : s.sym < b) (ht : t.sym < b) {k : Nat} {l r : Int} (hl : l < 256 + (k : Int)) (hr : r < 256 + (k : Int)) : badL b s.rsp t.lsp k (l, r) = true ↔ (256 + (k : Int) < b ∧ s.lastS (k + 1) = l ∧ t.firstS k = r) := by
  have h1 := Tr.last_par hl ws hs
  have h2 := Tr.first_par hr wt ht
  unfold badL
  cases e1 : par b s.rsp l with
  | none =>
    rw [e1] at h1
    constructor
    · intro z; cases z
    · rintro ⟨z1, z2, z3⟩
      obtain ⟨u, z, _⟩ := h1.mpr ⟨z1, z2⟩
      cases z
  | some u =>
    rw [e1] at h1
    cases e2 : par b t.lsp r with
    | none =>
      rw [e2] at h2
      constructor
      · intro z; cases z
      · rintro ⟨z1, z2, z3⟩
        obtain ⟨u, z, _⟩ := h2.mpr ⟨by omega, z3⟩
        cases z
    | some v =>
      rw [e2] at h2
      simp only [Bool.and_eq_true, decide_eq_true_eq]
      constructor
      · rintro ⟨z1, z2⟩
        have a1 := h1.mp ⟨u, rfl, z1⟩
        have a2 := h2.mp ⟨v, rfl, z2⟩
        exact ⟨a1.1, a1.2, a2.2⟩
      · rintro ⟨z1, z2, z3⟩
        obtain ⟨u', q1, q2⟩ := h1.mpr ⟨z1, z2⟩
        obtain ⟨v', q3, q4⟩ := h2.mpr ⟨by omega, z3⟩
        cases q1; cases q3
        exact ⟨q2, q4⟩
theorem along_iff {P : List (Int × Int)} (hP : PWf P) {b : Int} {s t : Tr} (ws : s.Wf P) (wt : t.Wf P) (hs : s.sym < b) (ht : t.sym < b) : alongT P b s.rsp t.lsp = true ↔ Al P b s t := by
  unfold alongT Al
  rw [Bool.not_eq_true', List.any_eq_false]
  constructor
  · intro h k l r hk hb z
    have hkl := (List.getElem?_eq_some_iff.mp hk).1
    have := h k (List.mem_range.mpr hkl)
    apply this
    unfold badK
    rw [hk]
    exact (bad_iff ws wt hs ht (hP k l r hk).1 (hP k l r hk).2).mpr ⟨hb, z.1, z.2⟩
  · intro h k hk z
    have hkl := List.mem_range.mp hk
    have e := List.getElem?_eq_getElem hkl
    unfold badK at z
    rw [e] at z
    have e' : P[k]? = some (P[k].1, P[k].2) := e
    have := (bad_iff ws wt hs ht (hP k _ _ e').1 (hP k _ _ e').2).mp z
    exact h k _ _ e' this.1 this.2
noncomputable def Tr.Good (P : List (Int × Int)) : Tr → Prop
  | .lf _ => True
  | .nd j l r => l.Good P ∧ r.Good P ∧ Al P (256 + (j : Int)) l r
noncomputable def adj (Q : Tr → Tr → Prop) : List Tr → Prop
  | [] => True
  | [_] => True
  | s :: t :: r => Q s t ∧ adj Q (t :: r)
theorem adj_app {Q : Tr → Tr → Prop} : ∀ {A B : List Tr}, adj Q (A ++ B) ↔ adj Q A ∧ adj Q B ∧ ∀ a b, A.getLast? = some a → B.head? = some b → Q a b
  | [], B => by simp [adj]
  | [s], [] => by simp [adj]
  | [s], t :: r => by
    show (Q s t ∧ adj Q (t :: r)) ↔ (True ∧ adj Q (t :: r) ∧ ∀ a b, some s = some a → some t = some b → Q a b)
    constructor
    · rintro ⟨h1, h2⟩; exact ⟨trivial, h2, fun a b e1 e2 => by cases e1; cases e2; exact h1⟩
    · rintro ⟨_, h2, h3⟩; exact ⟨h3 _ _ rfl rfl, h2⟩
  | s :: s' :: A, B => by
    have ih := adj_app (Q := Q) (A := s' :: A) (B := B)
    show (Q s s' ∧ adj Q (s' :: A ++ B)) ↔ ((Q s s' ∧ adj Q (s' :: A)) ∧ adj Q B ∧ ∀ a b, (s :: s' :: A).getLast? = some a → B.head? = some b → Q a b)
    rw [ih, List.getLast?_cons_cons]
    constructor
    · rintro ⟨h1, h2, h3, h4⟩; exact ⟨⟨h1, h2⟩, h3, h4⟩
    · rintro ⟨⟨h1, h2⟩, h3, h4⟩; exact ⟨h1, h2, h3, h4⟩
theorem adj_imp {Q Q' : Tr → Tr → Prop} (h : ∀ a b, Q a b → Q' a b) : ∀ {A : List Tr}, adj Q A → adj Q' A
  | [], _ => trivial
  | [_], _ => trivial
  | _ :: _ :: _, z => ⟨h _ _ z.1, adj_imp h z.2⟩
end Mine
end

section
open PySem PySem.W PyProof.Rows Builtin.Str
namespace Mine
namespace Tr
noncomputable def cut (k : Nat) : Tr → List Tr
  | lf c => [lf c]
  | nd j l r => if j < k then [nd j l r] else l.cut k ++ r.cut k
theorem cut_small {k : Nat} : ∀ {t : Tr}, t.sym < 256 + (k : Int) → t.cut k = [t]
  | lf c, _ => rfl
  | nd j l r, h => by
    have h : 256 + (j : Int) < 256 + (k : Int) := h
    rw [cut, if_pos (by omega)]
theorem lf_small {P : List (Int × Int)} {c : Int} (h : (lf c).Wf P) (k : Nat) : (lf c).sym < 256 + (k : Int) := by
  have := h.2
  show c < _
  omega
theorem last_small {k : Nat} : ∀ {t : Tr}, t.sym < 256 + (k : Int) → t.lastS k = t.sym
  | lf c, _ => rfl
  | nd j l r, h => by
    have h : 256 + (j : Int) < 256 + (k : Int) := h
    rw [lastS, if_pos (by omega)]
    rfl
theorem first_small {k : Nat} : ∀ {t : Tr}, t.sym < 256 + (k : Int) → t.firstS k = t.sym
  | lf c, _ => rfl
  | nd j l r, h => by
    have h : 256 + (j : Int) < 256 + (k : Int) := h
    rw [firstS, if_pos (by omega)]
    rfl
theorem cut0_txt {P : List (Int × Int)} : ∀ {t : Tr}, t.Wf P → (t.cut 0).map sym = t.txt
  | lf c, _ => rfl
  | nd j l r, h => by
    rw [cut, if_neg (by omega), List.map_append, cut0_txt h.2.2.2.1, cut0_txt h.2.2.2.2]
    rfl
theorem cut_good {P : List (Int × Int)} {k : Nat} {l r : Int} (hk : P[k]? = some (l, r)) : ∀ {t : Tr}, t.Wf P → t.Good P → adj (fun s t => ¬ (s.sym = l ∧ t.firstS k = r)) (t.cut (k + 1)) ∧ (∀ x ∈ t.cut (k + 1), x.Wf P ∧ x.sym < 256 + ((k + 1 : Nat) : Int)) ∧
    (∃ a, (t.cut (k + 1)).getLast? = some a ∧ a.sym = t.lastS (k + 1)) ∧ (∃ b, (t.cut (k + 1)).head? = some b ∧ b.firstS k = t.firstS k)
  | lf c, wf, _ => ⟨trivial, fun x hx => by
      have : x = lf c := by simpa [cut] using hx
      subst this
      exact ⟨wf, lf_small wf _⟩, ⟨lf c, rfl, rfl⟩, ⟨lf c, rfl, rfl⟩⟩
  | nd j x y, wf, g => by
    by_cases hj : j < k + 1
    · have e : (nd j x y).cut (k + 1) = [nd j x y] := by rw [cut, if_pos hj]
      rw [e]
      refine ⟨trivial, fun z hz => ?_, ⟨_, rfl, ?_⟩, ⟨_, rfl, rfl⟩⟩
      · have : z = nd j x y := by simpa using hz
        subst this
        refine ⟨wf, ?_⟩
        show 256 + (j : Int) < _
        omega
      · rw [lastS, if_pos hj]; rfl
    · have e : (nd j x y).cut (k + 1) = x.cut (k + 1) ++ y.cut (k + 1) := by rw [cut, if_neg hj]
      obtain ⟨x1, x2, ⟨xa, x3, x4⟩, ⟨xb, x5, x6⟩⟩ := cut_good hk wf.2.2.2.1 g.1
      obtain ⟨y1, y2, ⟨ya, y3, y4⟩, ⟨yb, y5, y6⟩⟩ := cut_good hk wf.2.2.2.2 g.2.1
      rw [e]
      refine ⟨adj_app.mpr ⟨x1, y1, fun a b ha hb => ?_⟩, fun z hz => ?_, ⟨ya, ?_, ?_⟩, ⟨xb, ?_, ?_⟩⟩
      · rw [x3] at ha; rw [y5] at hb
        cases ha; cases hb
        rw [x4, y6]
        exact g.2.2 k l r hk (by omega)
      · rcases List.mem_append.mp hz with hz | hz
        · exact x2 z hz
        · exact y2 z hz
      · rw [List.getLast?_append, y3]; rfl
      · rw [y4, lastS, if_neg (by omega)]
      · rw [List.head?_append, x5]; rfl
      · rw [x6, firstS, if_neg (by omega)]
theorem cut_cut {P : List (Int × Int)} {k : Nat} : ∀ {t : Tr}, t.Wf P → (t.cut (k + 1)).flatMap (cut k) = t.cut k
  | lf c, _ => rfl
  | nd j x y, wf => by
    by_cases hj : j < k + 1
    · have e : (nd j x y).cut (k + 1) = [nd j x y] := by rw [cut, if_pos hj]
      rw [e]
      simp
    · have e : (nd j x y).cut (k + 1) = x.cut (k + 1) ++ y.cut (k + 1) := by rw [cut, if_neg hj]
      have e2 : (nd j x y).cut k = x.cut k ++ y.cut k := by rw [cut, if_neg (by omega)]
      rw [e, e2, List.flatMap_append, cut_cut wf.2.2.2.1, cut_cut wf.2.2.2.2]
end Tr
theorem mrg_no {k : Nat} {l r s : Int} {D : List Int} (h : ¬ (D.getLast? = some l ∧ s = r)) : mrg k l r D s = D ++ [s] := by
  unfold mrg; rw [if_neg h]
theorem last_syms {X : List Tr} {l : Int} : (X.map Tr.sym).getLast? = some l ↔ ∃ a, X.getLast? = some a ∧ a.sym = l := by
  rw [List.getLast?_map, Option.map_eq_some_iff]
theorem stage_back {P : List (Int × Int)} {k : Nat} {l r : Int} (hk : P[k]? = some (l, r)) : ∀ (X D : List Tr), (∀ x ∈ X, x.Wf P ∧ x.sym < 256 + ((k + 1 : Nat) : Int)) → adj (fun s t => ¬ (s.sym = l ∧ t.firstS k = r)) (D ++ X) →
    ((X.flatMap (Tr.cut k)).map Tr.sym).foldl (mrg k l r) (D.map Tr.sym) = (D ++ X).map Tr.sym
  | [], D, _, _ => by simp
  | t :: X, D, hX, ha => by
    have ht := hX t (.head _)
    have hX' : ∀ x ∈ X, x.Wf P ∧ x.sym < 256 + ((k + 1 : Nat) : Int) := fun x m => hX x (.tail _ m)
    have ha' : adj (fun s t => ¬ (s.sym = l ∧ t.firstS k = r)) ((D ++ [t]) ++ X) := by rw [List.append_assoc]; exact ha
    have hb : ∀ a, D.getLast? = some a → ¬ (a.sym = l ∧ t.firstS k = r) := fun a e => (adj_app.mp ha).2.2 a t e rfl
    have step : ((t.cut k).map Tr.sym).foldl (mrg k l r) (D.map Tr.sym) = (D ++ [t]).map Tr.sym := by
      by_cases hs : t.sym < 256 + (k : Int)
      · rw [Tr.cut_small hs, List.map_cons, List.map_nil, List.foldl_cons, List.foldl_nil, mrg_no]
        · rw [List.map_append]; rfl
        · rintro ⟨z1, z2⟩
          obtain ⟨a, e1, e2⟩ := last_syms.mp z1
          exact hb a e1 ⟨e2, by rw [Tr.first_small hs]; exact z2⟩
      · cases t with
        | lf c => exact absurd (Tr.lf_small ht.1 k) hs
        | nd j x y =>
          have h1 : 256 + (j : Int) < 256 + ((k + 1 : Nat) : Int) := ht.2
          have h2 : ¬ (256 + (j : Int) < 256 + (k : Int)) := hs
          have hjk : j = k := by omega
          subst hjk
          have wf := ht.1
          have e := wf.1
          rw [hk] at e
          injection e with e
          injection e with e1 e2
          have ec : (Tr.nd j x y).cut j = [x, y] := by
            rw [Tr.cut, if_neg (by omega), Tr.cut_small wf.2.1, Tr.cut_small wf.2.2.1]
            rfl
          have ef : (Tr.nd j x y).firstS j = x.sym := by
            rw [Tr.firstS, if_neg (by omega), Tr.first_small wf.2.1]
          rw [ec, List.map_cons, List.map_cons, List.map_nil, List.foldl_cons, List.foldl_cons, List.foldl_nil, mrg_no (D := D.map Tr.sym) (s := x.sym)]
          · unfold mrg
            rw [if_pos (by rw [List.getLast?_concat]; exact ⟨by rw [e1], e2.symm⟩), List.dropLast_concat, List.map_append]
            rfl
          · rintro ⟨z1, z2⟩
            obtain ⟨a, q1, q2⟩ := last_syms.mp z1
            exact hb a q1 ⟨q2, by rw [ef]; exact z2⟩
    rw [List.flatMap_cons, List.map_append, List.foldl_append, step, stage_back hk X (D ++ [t]) hX' ha', List.append_assoc]
    rfl
structure Valid (P : List (Int × Int)) (b : Int) (R : List Tr) : Prop where
  wf : ∀ t ∈ R, t.Wf P
  good : ∀ t ∈ R, t.Good P
  adj : adj (Al P b) R
theorem row_cut {P : List (Int × Int)} {b : Int} {k : Nat} {l r : Int} (hk : P[k]? = some (l, r)) (hb : 256 + (k : Int) < b) : ∀ {R : List Tr}, Valid P b R → adj (fun s t => ¬ (s.sym = l ∧ t.firstS k = r)) (R.flatMap (Tr.cut (k + 1))) ∧ (∀ x ∈ R.flatMap (Tr.cut (k + 1)), x.Wf P ∧ x.sym < 256 + ((k + 1 : Nat) : Int)) ∧
    (∀ t R', R = t :: R' → ∃ b, (R.flatMap (Tr.cut (k + 1))).head? = some b ∧ b.firstS k = t.firstS k)
  | [], _ => ⟨trivial, by simp, (fun _ _ e => nomatch e)⟩
  | [t], V => by
    obtain ⟨x1, x2, _, ⟨xb, x5, x6⟩⟩ := Tr.cut_good hk (V.wf t (.head _)) (V.good t (.head _))
    have e : [t].flatMap (Tr.cut (k + 1)) = t.cut (k + 1) := by simp
    rw [e]
    exact ⟨x1, x2, fun t' R' e => by cases e; exact ⟨xb, x5, x6⟩⟩
  | s :: t :: R, V => by
    obtain ⟨x1, x2, ⟨xa, x3, x4⟩, ⟨xb, x5, x6⟩⟩ := Tr.cut_good hk (V.wf s (.head _)) (V.good s (.head _))
    obtain ⟨y1, y2, y3⟩ := row_cut hk hb (R := t :: R) ⟨fun x m => V.wf x (.tail _ m), fun x m => V.good x (.tail _ m), V.adj.2⟩
    rw [List.flatMap_cons]
    refine ⟨adj_app.mpr ⟨x1, y1, fun a c ha hc => ?_⟩, fun z hz => ?_, fun t' R' e => ?_⟩
    · obtain ⟨c', q1, q2⟩ := y3 t R rfl
      rw [x3] at ha; rw [q1] at hc
      cases ha; cases hc
      rw [x4, q2]
      exact V.adj.1 k l r hk hb
    · rcases List.mem_append.mp hz with hz | hz
      · exact x2 z hz
      · exact y2 z hz
    · cases e
      refine ⟨xb, ?_, x6⟩
      rw [List.head?_append, x5]; rfl
noncomputable def syms (R : List Tr) : List Int := R.map Tr.sym
noncomputable def txtR (R : List Tr) : List Int := R.flatMap Tr.txt
theorem stage_valid {P : List (Int × Int)} {b : Int} {k : Nat} {l r : Int} (hk : P[k]? = some (l, r)) (hb : 256 + (k : Int) < b) {R : List Tr} (V : Valid P b R) : stepT P (syms (R.flatMap (Tr.cut k))) k = syms (R.flatMap (Tr.cut (k + 1))) := by
  obtain ⟨h1, h2, _⟩ := row_cut hk hb V
  unfold stepT
  rw [hk]
  have e : (R.flatMap (Tr.cut (k + 1))).flatMap (Tr.cut k) = R.flatMap (Tr.cut k) := by
    rw [List.flatMap_assoc]
    have : ∀ R' : List Tr, (∀ t ∈ R', t.Wf P) → R'.flatMap (fun x => (x.cut (k + 1)).flatMap (Tr.cut k)) = R'.flatMap (Tr.cut k) := by
      intro R' hw
      induction R' with
      | nil => rfl
      | cons t R' ih => rw [List.flatMap_cons, List.flatMap_cons, Tr.cut_cut (hw t (.head _)), ih fun x m => hw x (.tail _ m)]
    exact this R V.wf
  have := stage_back hk (R.flatMap (Tr.cut (k + 1))) [] h2 (by simpa using h1)
  rw [e] at this
  simpa [stageT, syms] using this
theorem joined_valid {P : List (Int × Int)} {b : Int} (hb : 256 + (P.length : Int) ≤ b) {R : List Tr} (V : Valid P b R) (hR : ∀ t ∈ R, t.sym < 256 + (P.length : Int)) : joinT P (txtR R) = syms R := by
  have key : ∀ n, n ≤ P.length → (List.range n).foldl (stepT P) (txtR R) = syms (R.flatMap (Tr.cut n)) := by
    intro n
    induction n with
    | zero =>
      intro _
      have : ∀ R' : List Tr, (∀ t ∈ R', t.Wf P) → txtR R' = syms (R'.flatMap (Tr.cut 0)) := by
        intro R' hw
        induction R' with
        | nil => rfl
        | cons t R' ih =>
          show t.txt ++ txtR R' = _
          rw [ih fun x m => hw x (.tail _ m), ← Tr.cut0_txt (hw t (.head _))]
          simp [syms]
      exact this R V.wf
    | succ n ih =>
      intro hn
      have hkl : n < P.length := hn
      rw [List.range_succ, List.foldl_append, ih (by omega), List.foldl_cons, List.foldl_nil]
      exact stage_valid (l := P[n].1) (r := P[n].2) (List.getElem?_eq_getElem hkl) (by omega) V
  unfold joinT
  rw [key _ (Nat.le_refl _)]
  have : ∀ R' : List Tr, (∀ t ∈ R', t.sym < 256 + (P.length : Int)) → R'.flatMap (Tr.cut P.length) = R' := by
    intro R' hw
    induction R' with
    | nil => rfl
    | cons t R' ih => rw [List.flatMap_cons, Tr.cut_small (hw t (.head _)), ih fun x m => hw x (.tail _ m)]; rfl
  rw [this R hR]
end Mine
end

section
open PySem PySem.W PyProof.Rows Builtin.Str
namespace Mine
theorem syms_app (A B : List Tr) : syms (A ++ B) = syms A ++ syms B := List.map_append ..
theorem txtR_app (A B : List Tr) : txtR (A ++ B) = txtR A ++ txtR B := List.flatMap_append ..
theorem stage_fwd {P : List (Int × Int)} (hP : PWf P) {k : Nat} {l r : Int} (hk : P[k]? = some (l, r)) : ∀ (X D : List Tr), Valid P (256 + ((k + 1 : Nat) : Int)) D → (∀ t ∈ D, t.sym < 256 + ((k + 1 : Nat) : Int)) → Valid P (256 + (k : Int)) X → (∀ t ∈ X, t.sym < 256 + (k : Int)) →
    (∀ d t, D.getLast? = some d → X.head? = some t → Al P (256 + (k : Int)) d t) →
    ∃ R, Valid P (256 + ((k + 1 : Nat) : Int)) R ∧ (∀ t ∈ R, t.sym < 256 + ((k + 1 : Nat) : Int)) ∧ txtR R = txtR D ++ txtR X ∧ syms R = (syms X).foldl (mrg k l r) (syms D)
  | [], D, VD, hD, _, _, _ => ⟨D, VD, hD, by simp [txtR], rfl⟩
  | t :: X, D, VD, hD, VX, hX, J => by
    have wt := VX.wf t (.head _)
    have gt := VX.good t (.head _)
    have ht := hX t (.head _)
    have VX' : Valid P (256 + (k : Int)) X := ⟨fun x m => VX.wf x (.tail _ m), fun x m => VX.good x (.tail _ m), by
      have := VX.adj
      rw [show t :: X = [t] ++ X from rfl, adj_app] at this
      exact this.2.1⟩
    have hX' : ∀ x ∈ X, x.sym < 256 + (k : Int) := fun x m => hX x (.tail _ m)
    have JX : ∀ u, X.head? = some u → Al P (256 + (k : Int)) t u := fun u hu => by
      have := VX.adj
      rw [show t :: X = [t] ++ X from rfl, adj_app] at this
      exact this.2.2 t u rfl hu
    have e0 : (syms (t :: X)).foldl (mrg k l r) (syms D) = (syms X).foldl (mrg k l r) (mrg k l r (syms D) t.sym) := rfl
    have e1 : txtR (t :: X) = t.txt ++ txtR X := rfl
    by_cases hc : (syms D).getLast? = some l ∧ t.sym = r
    · obtain ⟨d, hd, hdl⟩ := last_syms.mp hc.1
      obtain ⟨D0, rfl⟩ : ∃ D0, D = D0 ++ [d] := by
        rcases List.eq_nil_or_concat D with rfl | ⟨D0, z, rfl⟩
        · cases hd
        · rw [List.concat_eq_append, List.getLast?_append] at hd
          have : z = d := by simpa using hd
          exact ⟨D0, by rw [List.concat_eq_append, this]⟩
      have hlr := hP k l r hk
      have wd := VD.wf d (by simp)
      have gd := VD.good d (by simp)
      have hdt : Al P (256 + (k : Int)) d t := J d t hd rfl
      have hdk : d.sym < 256 + (k : Int) := by rw [hdl]; exact hlr.1
      have wn : (Tr.nd k d t).Wf P := ⟨by rw [hdl, hc.2]; exact hk, hdk, ht, wd, wt⟩
      have aD := adj_app.mp VD.adj
      have VN : Valid P (256 + ((k + 1 : Nat) : Int)) (D0 ++ [Tr.nd k d t]) := by
        refine ⟨fun x m => ?_, fun x m => ?_, adj_app.mpr ⟨aD.1, trivial, fun a b ha hb => ?_⟩⟩
        · rcases List.mem_append.mp m with m | m
          · exact VD.wf x (List.mem_append_left _ m)
          · rw [List.mem_singleton.mp m]; exact wn
        · rcases List.mem_append.mp m with m | m
          · exact VD.good x (List.mem_append_left _ m)
          · rw [List.mem_singleton.mp m]; exact ⟨gd, gt, hdt⟩
        · cases hb
          intro k' l' r' hk' hb' z
          have hkk : ¬ (k < k') := by omega
          have := aD.2.2 a d ha rfl k' l' r' hk' hb'
          apply this
          refine ⟨z.1, ?_⟩
          have := z.2
          rw [Tr.firstS, if_neg hkk] at this
          exact this
      have hN : ∀ x ∈ D0 ++ [Tr.nd k d t], x.sym < 256 + ((k + 1 : Nat) : Int) := fun x m => by
        rcases List.mem_append.mp m with m | m
        · exact hD x (List.mem_append_left _ m)
        · rw [List.mem_singleton.mp m]
          show 256 + (k : Int) < _
          omega
      obtain ⟨R, r1, r2, r3, r4⟩ := stage_fwd hP hk X (D0 ++ [Tr.nd k d t]) VN hN VX' hX' (fun a u ha hu => by
        rw [List.getLast?_concat] at ha
        cases ha
        intro k' l' r' hk' hb' z
        have hkk : ¬ (k < k' + 1) := by omega
        apply JX u hu k' l' r' hk' hb'
        refine ⟨?_, z.2⟩
        have := z.1
        rw [Tr.lastS, if_neg hkk] at this
        exact this)
      refine ⟨R, r1, r2, ?_, ?_⟩
      · rw [r3, e1, txtR_app, txtR_app]
        show txtR D0 ++ (d.txt ++ t.txt ++ []) ++ txtR X = txtR D0 ++ (d.txt ++ []) ++ (t.txt ++ txtR X)
        simp
      · rw [r4, e0]
        have : mrg k l r (syms (D0 ++ [d])) t.sym = syms (D0 ++ [Tr.nd k d t]) := by
          unfold mrg
          rw [if_pos hc, syms_app, syms_app]
          show (syms D0 ++ [d.sym]).dropLast ++ _ = syms D0 ++ [256 + (k : Int)]
          rw [List.dropLast_concat]
        rw [this]
    · have VN : Valid P (256 + ((k + 1 : Nat) : Int)) (D ++ [t]) := by
        refine ⟨fun x m => ?_, fun x m => ?_, adj_app.mpr ⟨VD.adj, trivial, fun a b ha hb => ?_⟩⟩
        · rcases List.mem_append.mp m with m | m
          · exact VD.wf x m
          · rw [List.mem_singleton.mp m]; exact wt
        · rcases List.mem_append.mp m with m | m
          · exact VD.good x m
          · rw [List.mem_singleton.mp m]; exact gt
        · cases hb
          intro k' l' r' hk' hb' z
          by_cases hkk : k' = k
          · subst hkk
            rw [hk] at hk'
            injection hk' with q
            injection q with q1 q2
            subst q1; subst q2
            have ha' : a.sym < 256 + ((k' + 1 : Nat) : Int) := hD a (List.mem_of_getLast? ha)
            rw [Tr.last_small ha', Tr.first_small ht] at z
            exact hc ⟨last_syms.mpr ⟨a, ha, z.1⟩, z.2⟩
          · exact J a t ha rfl k' l' r' hk' (by omega) z
      have hN : ∀ x ∈ D ++ [t], x.sym < 256 + ((k + 1 : Nat) : Int) := fun x m => by
        rcases List.mem_append.mp m with m | m
        · exact hD x m
        · rw [List.mem_singleton.mp m]
          omega
      obtain ⟨R, r1, r2, r3, r4⟩ := stage_fwd hP hk X (D ++ [t]) VN hN VX' hX' (fun a u ha hu => by
        rw [List.getLast?_concat] at ha
        cases ha
        exact JX u hu)
      refine ⟨R, r1, r2, ?_, ?_⟩
      · rw [r3, e1, txtR_app]
        show txtR D ++ (t.txt ++ []) ++ txtR X = txtR D ++ (t.txt ++ txtR X)
        simp
      · rw [r4, e0, mrg_no hc, syms_app]
        rfl
theorem joined_exists {P : List (Int × Int)} (hP : PWf P) {xs : List Int} (hx : ∀ x ∈ xs, 0 < x ∧ x < 256) : ∃ R, Valid P (256 + (P.length : Int)) R ∧ (∀ t ∈ R, t.sym < 256 + (P.length : Int)) ∧ txtR R = xs ∧ syms R = joinT P xs := by
  have key : ∀ n, n ≤ P.length → ∃ R, Valid P (256 + (n : Int)) R ∧ (∀ t ∈ R, t.sym < 256 + (n : Int)) ∧ txtR R = xs ∧ syms R = (List.range n).foldl (stepT P) xs := by
    intro n
    induction n with
    | zero =>
      intro _
      refine ⟨xs.map .lf, ⟨fun t m => ?_, fun t m => ?_, ?_⟩, fun t m => ?_, ?_, ?_⟩
      · obtain ⟨x, hm, rfl⟩ := List.mem_map.mp m; exact hx x hm
      · obtain ⟨x, hm, rfl⟩ := List.mem_map.mp m; trivial
      · have : ∀ A : List Tr, adj (Al P (256 + ((0 : Nat) : Int))) A := by
          intro A
          induction A with
          | nil => trivial
          | cons a A ih =>
            cases A with
            | nil => trivial
            | cons b A => exact ⟨fun k l r _ hb => absurd hb (by omega), ih⟩
        exact this _
      · obtain ⟨x, hm, rfl⟩ := List.mem_map.mp m
        have := (hx x hm).2
        show x < _
        omega
      · unfold txtR
        rw [List.flatMap_map]
        clear hx
        induction xs with
        | nil => rfl
        | cons x xs ih => rw [List.flatMap_cons, ih]; rfl
      · unfold syms
        rw [List.map_map]
        have : (Tr.sym ∘ Tr.lf) = id := rfl
        rw [this, List.map_id]
        rfl
    | succ n ih =>
      intro hn
      obtain ⟨R, r1, r2, r3, r4⟩ := ih (by omega)
      have hkl : n < P.length := hn
      have e : P[n]? = some (P[n].1, P[n].2) := List.getElem?_eq_getElem hkl
      obtain ⟨R', q1, q2, q3, q4⟩ := stage_fwd hP e R [] ⟨fun _ m => (nomatch m), fun _ m => (nomatch m), trivial⟩ (fun _ m => nomatch m) r1 r2 (fun _ _ h => nomatch h)
      refine ⟨R', q1, q2, by rw [q3, r3]; rfl, ?_⟩
      rw [q4, List.range_succ, List.foldl_append, ← r4, List.foldl_cons, List.foldl_nil]
      unfold stepT
      rw [e]
      rfl
  obtain ⟨R, r1, r2, r3, r4⟩ := key P.length (Nat.le_refl _)
  exact ⟨R, r1, r2, r3, r4⟩
theorem al_up {P : List (Int × Int)} {b b' : Int} {s t : Tr} (hb : 256 + (P.length : Int) ≤ b) (h : Al P b s t) : Al P b' s t := fun k l r hk _ z => by
  have hkl := (List.getElem?_eq_some_iff.mp hk).1
  exact h k l r hk (by omega) z
theorem Valid.up {P : List (Int × Int)} {b b' : Int} {R : List Tr} (hb : 256 + (P.length : Int) ≤ b) (V : Valid P b R) : Valid P b' R := ⟨V.wf, V.good, adj_imp (fun _ _ h => al_up hb h) V.adj⟩
theorem syms_inj {P : List (Int × Int)} : ∀ {A B : List Tr}, (∀ t ∈ A, t.Wf P) → (∀ t ∈ B, t.Wf P) → syms A = syms B → A = B
  | [], [], _, _, _ => rfl
  | [], _ :: _, _, _, e => nomatch e
  | _ :: _, [], _, _, e => nomatch e
  | s :: A, t :: B, hA, hB, e => by
    have e1 : s.sym :: syms A = t.sym :: syms B := e
    injection e1 with e1 e2
    rw [Tr.wf_inj (hA s (.head _)) (hB t (.head _)) e1, syms_inj (fun x m => hA x (.tail _ m)) (fun x m => hB x (.tail _ m)) e2]
theorem wf_lt {P : List (Int × Int)} : ∀ {t : Tr}, t.Wf P → t.sym < 256 + (P.length : Int)
  | .lf c, h => by have := h.2; show c < _; omega
  | .nd k l r, h => by
    have hkl := (List.getElem?_eq_some_iff.mp h.1).1
    show 256 + (k : Int) < _
    omega
theorem wf_txt {P : List (Int × Int)} : ∀ {t : Tr}, t.Wf P → ∀ x ∈ t.txt, 0 < x ∧ x < 256
  | .lf c, h, x, m => by
    have : x = c := by simpa [Tr.txt] using m
    rw [this]; exact h
  | .nd k l r, h, x, m => by
    rcases List.mem_append.mp m with m | m
    · exact wf_txt h.2.2.2.1 x m
    · exact wf_txt h.2.2.2.2 x m
theorem valid_iff {P : List (Int × Int)} (hP : PWf P) {b : Int} (hb : 256 + (P.length : Int) ≤ b) {R : List Tr} (hw : ∀ t ∈ R, t.Wf P) : Valid P b R ↔ joinT P (txtR R) = syms R := by
  constructor
  · intro V; exact joined_valid hb V fun t m => wf_lt (hw t m)
  · intro e
    obtain ⟨R', r1, _, r3, r4⟩ := joined_exists hP (xs := txtR R) (fun x m => by
      obtain ⟨t, ht, hx⟩ := List.mem_flatMap.mp m
      exact wf_txt (hw t ht) x hx)
    have : R' = R := syms_inj r1.wf hw (r4.trans e)
    rw [← this]
    exact r1.up (Int.le_refl _)
end Mine
end

section
open PySem PySem.W PyProof.Rows Builtin.Str
namespace Mine
noncomputable def forest (low : Int) (ts : List Tr) : List Tr := .lf low :: .lf 255 :: ts
noncomputable def es (F : List Tr) : List (Int × Str) := F.map fun t => (t.sym, sOf t.txt)
noncomputable def dS (A : List Tr) : List Dat := A.map fun t => .int t.sym
structure Wd (low : Int) (P : List (Int × Int)) (ts : List Tr) : Prop where
  lo : 0 < low ∧ low ≤ 45
  len : P.length = ts.length
  le4 : ts.length ≤ 4
  wf : ∀ t ∈ ts, t.Wf P
  sym : ∀ (k : Nat) (t : Tr), ts[k]? = some t → t.sym = 256 + (k : Int)
  small : ∀ t ∈ ts, t.txt.length ≤ 5
  lets : ∀ t ∈ ts, ∀ x ∈ t.txt, x = low ∨ x = 255
  pwf : PWf P
theorem sp_len (t : Tr) : t.rsp.length ≤ t.txt.length ∧ t.lsp.length ≤ t.txt.length ∧ 0 < t.txt.length := by
  induction t with
  | lf _ => exact ⟨Nat.le_refl _, Nat.le_refl _, Nat.zero_lt_one⟩
  | nd k l r a b =>
    have e3 : (Tr.nd k l r).txt.length = l.txt.length + r.txt.length := List.length_append
    rw [e3]
    exact ⟨Nat.le_trans (Nat.le_of_eq (Nat.add_comm _ 1)) (Nat.add_le_add a.2.2 b.1), Nat.add_le_add a.2.1 b.2.2, Nat.add_pos_left a.2.2 _⟩
theorem sp_le {P : List (Int × Int)} : ∀ {t : Tr}, t.Wf P → (∀ x ∈ t.rsp, x ≤ t.sym) ∧ (∀ x ∈ t.lsp, x ≤ t.sym)
  | .lf c, _ => by
    refine ⟨fun x m => ?_, fun x m => ?_⟩
    · have : x = c := by simpa [Tr.rsp] using m
      rw [this]; exact Int.le_refl _
    · have : x = c := by simpa [Tr.lsp] using m
      rw [this]; exact Int.le_refl _
  | .nd k l r, h => by
    obtain ⟨a1, a2⟩ := sp_le h.2.2.2.1
    obtain ⟨b1, b2⟩ := sp_le h.2.2.2.2
    have h1 := h.2.1
    have h2 := h.2.2.1
    refine ⟨fun x m => ?_, fun x m => ?_⟩
    · rcases List.mem_cons.mp m with rfl | m
      · exact Int.le_refl _
      · exact Int.le_of_lt (Int.lt_of_le_of_lt (b1 x m) h2)
    · rcases List.mem_cons.mp m with rfl | m
      · exact Int.le_refl _
      · exact Int.le_of_lt (Int.lt_of_le_of_lt (a2 x m) h1)
theorem wf_app {P Q : List (Int × Int)} : ∀ {t : Tr}, t.Wf P → t.Wf (P ++ Q)
  | .lf _, h => h
  | .nd k l r, h => ⟨by
      have hk := (List.getElem?_eq_some_iff.mp h.1).1
      rw [List.getElem?_append_left hk]; exact h.1, h.2.1, h.2.2.1, wf_app h.2.2.2.1, wf_app h.2.2.2.2⟩
theorem no256 {k : Nat} {x : Int} (h : x ≤ 255) : x ≠ 256 + (k : Int) := fun e => absurd (Int.le_trans (Int.le_add_of_nonneg_right (Int.natCast_nonneg k)) (e ▸ h)) (by decide)
theorem sym_inj {i j : Nat} (h : 256 + (i : Int) = 256 + (j : Int)) : i = j := Int.ofNat.inj (Int.add_left_cancel h)
theorem lookup_nd {α : Type} : ∀ {l : List (Int × α)} {x : Int} {v : α}, (l.map (·.1)).Nodup → (x, v) ∈ l → l.lookup x = some v
  | p :: r, x, v, nd, m => by
    rw [List.map_cons, List.nodup_cons] at nd
    rcases List.mem_cons.mp m with rfl | m
    · simp [List.lookup]
    · have : (x == p.1) = false := by
        simp only [beq_eq_false_iff_ne, ne_eq]
        rintro rfl
        exact nd.1 (List.mem_map.mpr ⟨_, m, rfl⟩)
      simp only [List.lookup, this]
      exact lookup_nd nd.2 m
theorem lookup_no {α : Type} : ∀ {l : List (Int × α)} {x : Int}, x ∉ l.map (·.1) → l.lookup x = none
  | [], _, _ => rfl
  | p :: r, x, h => by
    rw [List.map_cons, List.mem_cons, not_or] at h
    have : (x == p.1) = false := by simpa using h.1
    simp only [List.lookup, this]
    exact lookup_no h.2
section
variable {low : Int} {P : List (Int × Int)} {ts : List Tr}
theorem Wd.fwf (w : Wd low P ts) : ∀ t ∈ forest low ts, t.Wf P := by
  intro t m
  rcases List.mem_cons.mp m with rfl | m
  · exact ⟨w.lo.1, Int.lt_of_le_of_lt w.lo.2 (by decide)⟩
  · rcases List.mem_cons.mp m with rfl | m
    · exact ⟨by decide, by decide⟩
    · exact w.wf t m
theorem Wd.fsmall (w : Wd low P ts) : ∀ t ∈ forest low ts, t.txt.length ≤ 5 := by
  intro t m
  rcases List.mem_cons.mp m with rfl | m
  · exact (by decide : 1 ≤ 5)
  · rcases List.mem_cons.mp m with rfl | m
    · exact (by decide : 1 ≤ 5)
    · exact w.small t m
theorem Wd.flets (w : Wd low P ts) : ∀ t ∈ forest low ts, ∀ x ∈ t.txt, x = low ∨ x = 255 := by
  intro t m x hx
  rcases List.mem_cons.mp m with rfl | m
  · exact .inl (by simpa [Tr.txt] using hx)
  · rcases List.mem_cons.mp m with rfl | m
    · exact .inr (by simpa [Tr.txt] using hx)
    · exact w.lets t m x hx
theorem Wd.tsym (w : Wd low P ts) : ∀ t ∈ ts, ∃ k : Nat, k < ts.length ∧ t.sym = 256 + (k : Int) ∧ ts[k]? = some t := by
  intro t m
  obtain ⟨k, hk⟩ := List.getElem?_of_mem m
  exact ⟨k, (List.getElem?_eq_some_iff.mp hk).1, w.sym k t hk, hk⟩
theorem Wd.fnodup (w : Wd low P ts) : ((forest low ts).map Tr.sym).Nodup := by
  have hlo := w.lo
  have h1 : low ∉ ts.map Tr.sym := by
    intro m
    obtain ⟨t, ht, e⟩ := List.mem_map.mp m
    obtain ⟨k, _, e2, _⟩ := w.tsym t ht
    exact no256 (Int.le_trans hlo.2 (by decide)) (e.symm.trans e2)
  have h2 : (255 : Int) ∉ ts.map Tr.sym := by
    intro m
    obtain ⟨t, ht, e⟩ := List.mem_map.mp m
    obtain ⟨k, _, e2, _⟩ := w.tsym t ht
    exact no256 (Int.le_refl _) (e.symm.trans e2)
  have h3 : (ts.map Tr.sym).Nodup := by
    refine List.pairwise_iff_getElem.mpr fun i j hi hj hij e => ?_
    rw [List.length_map] at hi hj
    have e1 := w.sym i _ (List.getElem?_eq_getElem hi)
    have e2 := w.sym j _ (List.getElem?_eq_getElem hj)
    have e3 : (ts[i]).sym = (ts[j]).sym := by simpa using e
    exact Nat.ne_of_lt hij (sym_inj (e1.symm.trans (e3.trans e2)))
  show (low :: 255 :: ts.map Tr.sym).Nodup
  rw [List.nodup_cons, List.nodup_cons]
  refine ⟨fun m => ?_, h2, h3⟩
  rcases List.mem_cons.mp m with e | m
  · rw [e] at hlo; exact absurd hlo.2 (by decide)
  · exact h1 m
theorem Wd.look (w : Wd low P ts) {t : Tr} (m : t ∈ forest low ts) : (es (forest low ts)).lookup t.sym = some (sOf t.txt) := by
  refine lookup_nd ?_ (List.mem_map.mpr ⟨t, m, rfl⟩)
  unfold es
  rw [List.map_map]
  exact w.fnodup
theorem Wd.fsym_lt (w : Wd low P ts) {t : Tr} (m : t ∈ forest low ts) : t.sym < 256 + (ts.length : Int) := by
  have := wf_lt (w.fwf t m)
  rw [w.len] at this
  exact this
theorem Wd.look_no (w : Wd low P ts) : (es (forest low ts)).lookup (256 + (ts.length : Int)) = none := by
  refine lookup_no fun m => ?_
  unfold es at m
  rw [List.map_map] at m
  obtain ⟨t, ht, e⟩ := List.mem_map.mp m
  have := w.fsym_lt ht
  exact Int.ne_of_lt this e
theorem Wd.inj (w : Wd low P ts) {s t : Tr} (hs : s ∈ forest low ts) (ht : t ∈ forest low ts) (e : s.sym = t.sym) : s = t := Tr.wf_inj (w.fwf s hs) (w.fwf t ht) e
theorem Wd.flen (_ : Wd low P ts) : (forest low ts).length = ts.length + 2 := rfl
theorem Wd.plen (w : Wd low P ts) : P.length ≤ 64 := w.len ▸ Nat.le_trans w.le4 (by decide)
noncomputable def alB (P : List (Int × Int)) (b : Int) (s t : Tr) : Bool := alongT P b s.rsp t.lsp
theorem Wd.along (w : Wd low P ts) {s t : Tr} {b : Int} (hs : s ∈ forest low ts) (ht : t ∈ forest low ts) (h1 : s.sym < b) (h2 : t.sym < b) : spAlong [.list (P.map dPair), .int s.sym, .int t.sym, .int b] = some (.bool (alB P b s t)) := by
  refine along_eq w.plen (w.fwf s hs) (w.fwf t ht) (Nat.le_trans (sp_len s).1 (Nat.le_trans (w.fsmall s hs) (by decide))) (Nat.le_trans (sp_len t).2.1 (Nat.le_trans (w.fsmall t ht) (by decide))) (fun m => ?_) (fun m => ?_)
  · exact Int.not_lt.mpr ((sp_le (w.fwf s hs)).1 b m) h1
  · exact Int.not_lt.mpr ((sp_le (w.fwf t ht)).2 b m) h2
theorem Wd.alB_iff (w : Wd low P ts) {s t : Tr} {b : Int} (hs : s ∈ forest low ts) (ht : t ∈ forest low ts) (h1 : s.sym < b) (h2 : t.sym < b) : alB P b s t = true ↔ Al P b s t := along_iff w.pwf (w.fwf s hs) (w.fwf t ht) h1 h2
theorem Wd.spelled (w : Wd low P ts) {t : Tr} (hw : t.Wf P) (hl : t.txt.length ≤ 10) : spSpel [.list (P.map dPair), .int t.sym] = some (.str (sOf t.txt)) := by
  exact spel_eq w.plen hw (Nat.le_trans (Nat.le_succ _) (Nat.le_trans (Nat.le_of_eq (cnt_len t)) (Nat.le_trans (Nat.mul_le_mul_left 2 hl) (by decide))))
theorem get_snoc {α : Type} {l : List α} {a b : α} {k : Nat} (h : (l ++ [a])[k]? = some b) : l[k]? = some b ∨ (k = l.length ∧ a = b) := by
  by_cases hk : k < l.length
  · rw [List.getElem?_append_left hk] at h
    exact .inl h
  · have hk := Nat.le_of_not_lt hk
    rw [List.getElem?_append_right hk] at h
    cases Nat.le_antisymm (Nat.sub_eq_zero_iff_le.mp (Nat.lt_one_iff.mp (List.getElem?_eq_some_iff.mp h).1)) hk
    rw [Nat.sub_self] at h
    exact .inr ⟨rfl, Option.some.inj h⟩
theorem Wd.add (w : Wd low P ts) {s t : Tr} (hs : s ∈ forest low ts) (ht : t ∈ forest low ts) (h3 : ts.length < 4) (h5 : s.txt.length + t.txt.length < 6) : Wd low (P ++ [(s.sym, t.sym)]) (ts ++ [.nd ts.length s t]) where
  lo := w.lo
  len := by rw [List.length_append, List.length_append, w.len]; rfl
  le4 := by rw [List.length_append]; exact h3
  wf := fun u m => by
    rcases List.mem_append.mp m with m | m
    · exact wf_app (w.wf u m)
    · rw [List.mem_singleton.mp m]
      refine ⟨?_, w.fsym_lt hs, w.fsym_lt ht, wf_app (w.fwf s hs), wf_app (w.fwf t ht)⟩
      rw [← w.len, List.getElem?_append_right (Nat.le_refl _)]
      simp
  sym := fun k u h => by
    rcases get_snoc h with h | ⟨rfl, rfl⟩
    · exact w.sym k u h
    · rfl
  small := fun u m => by
    rcases List.mem_append.mp m with m | m
    · exact w.small u m
    · rw [List.mem_singleton.mp m]
      show (s.txt ++ t.txt).length ≤ 5
      rw [List.length_append]; exact Nat.le_of_lt_succ h5
  lets := fun u m x hx => by
    rcases List.mem_append.mp m with m | m
    · exact w.lets u m x hx
    · rw [List.mem_singleton.mp m] at hx
      rcases List.mem_append.mp hx with hx | hx
      · exact w.flets s hs x hx
      · exact w.flets t ht x hx
  pwf := fun k l r h => by
    rcases get_snoc h with h | ⟨rfl, e⟩
    · exact w.pwf k l r h
    · cases e
      rw [w.len]
      exact ⟨w.fsym_lt hs, w.fsym_lt ht⟩
theorem forest_snoc (low : Int) (ts : List Tr) (t : Tr) : forest low (ts ++ [t]) = forest low ts ++ [t] := rfl
end
end Mine
end

section
open PySem PySem.W PyProof.Rows Builtin.Str
namespace Mine
noncomputable abbrev ltS (x y : Str) : Prop := x.cps.toList < y.cps.toList
theorem ltS_trans {x y z : Str} (h : ltS x y) (h' : ltS y z) : ltS x z := List.lt_trans h h'
theorem ltS_irr (x : Str) : ¬ ltS x x := List.lt_irrefl _
theorem str_ext {x y : Str} (h : x.cps.toList = y.cps.toList) : x = y := by
  obtain ⟨⟨a⟩⟩ := x
  obtain ⟨⟨b⟩⟩ := y
  have h : a = b := h
  rw [h]
theorem ltS_tri {x y : Str} (h : ¬ ltS x y) : ltS y x ∨ y = x := by
  have h1 : y.cps.toList ≤ x.cps.toList := List.not_lt.mp h
  rcases List.le_iff_lt_or_eq.mp h1 with h2 | h2
  · exact .inl h2
  · exact .inr (str_ext h2)
noncomputable def bef (s t : Tr) : Prop := ltS (sOf s.txt) (sOf t.txt) ∨ (sOf s.txt = sOf t.txt ∧ t.sym < s.sym)
noncomputable def insI (M : List Tr) (x : Str) : Nat := (M.takeWhile fun t => decide (ltS (sOf t.txt) x)).length
theorem insI_le (M : List Tr) (x : Str) : insI M x ≤ M.length := by
  unfold insI
  exact (List.takeWhile_prefix _).length_le
theorem insI_iff : ∀ {M : List Tr} {x : Str}, M.Pairwise bef → ∀ (j : Nat) (t : Tr), M[j]? = some t → (ltS (sOf t.txt) x ↔ j < insI M x)
  | [], _, _, j, t, h => by simp at h
  | u :: M, x, hp, j, t, h => by
    rw [List.pairwise_cons] at hp
    have ih := insI_iff (x := x) hp.2
    unfold insI at ih ⊢
    rw [List.takeWhile_cons]
    by_cases hu : ltS (sOf u.txt) x
    · rw [if_pos (decide_eq_true hu)]
      cases j with
      | zero => cases h; exact ⟨fun _ => by simp, fun _ => hu⟩
      | succ j =>
        rw [ih j t (by simpa using h)]
        simp
    · rw [if_neg (by simpa using hu)]
      refine ⟨fun z => ?_, fun z => by simp at z⟩
      exfalso
      cases j with
      | zero => cases h; exact hu z
      | succ j =>
        have hm : t ∈ M := List.mem_of_getElem? (by simpa using h : M[j]? = some t)
        rcases hp.1 t hm with q | ⟨q, _⟩
        · exact hu (ltS_trans q z)
        · rw [q] at hu; exact hu z
theorem ins_sorted {M : List Tr} {new : Tr} (hp : M.Pairwise bef) (hs : ∀ t ∈ M, t.sym < new.sym) : (M.take (insI M (sOf new.txt)) ++ new :: M.drop (insI M (sOf new.txt))).Pairwise bef := by
  have hi := insI_iff (x := sOf new.txt) hp
  generalize insI M (sOf new.txt) = i at *
  rw [List.pairwise_append, List.pairwise_cons]
  have hp' := hp
  rw [← List.take_append_drop i M, List.pairwise_append] at hp'
  refine ⟨hp'.1, ⟨fun u hu => ?_, hp'.2.1⟩, fun a ha b hb => ?_⟩
  · obtain ⟨j, hj⟩ := List.getElem?_of_mem hu
    rw [List.getElem?_drop] at hj
    have h1 := hi (i + j) u hj
    have h2 : ¬ ltS (sOf u.txt) (sOf new.txt) := fun z => by have := h1.mp z; omega
    rcases ltS_tri h2 with q | q
    · exact .inl q
    · exact .inr ⟨q, hs u (List.mem_of_mem_drop hu)⟩
  · rcases List.mem_cons.mp hb with rfl | hb
    · obtain ⟨j, hj⟩ := List.getElem?_of_mem ha
      have hjl : j < i := by
        have := (List.getElem?_eq_some_iff.mp hj).1
        rw [List.length_take] at this
        omega
      rw [List.getElem?_take_of_lt hjl] at hj
      exact .inl ((hi j a hj).mpr hjl)
    · exact hp'.2.2 a ha b hb
structure Shf (ts M : List Tr) : Prop where
  perm : M.Perm ts
  srt : M.Pairwise bef
theorem Shf.add {ts M : List Tr} {new : Tr} (h : Shf ts M) (hs : ∀ t ∈ ts, t.sym < new.sym) : Shf (ts ++ [new]) (M.take (insI M (sOf new.txt)) ++ new :: M.drop (insI M (sOf new.txt))) :=
  ⟨by
    have h1 : (M.take (insI M (sOf new.txt)) ++ new :: M.drop (insI M (sOf new.txt))).Perm (new :: (M.take (insI M (sOf new.txt)) ++ M.drop (insI M (sOf new.txt)))) := List.perm_middle
    rw [List.take_append_drop] at h1
    exact h1.trans ((List.Perm.cons new h.perm).trans (List.perm_append_singleton new ts).symm), ins_sorted h.srt fun t m => hs t (h.perm.mem_iff.mp m)⟩
noncomputable def shelfD (low : Int) (M : List Tr) : List Dat := .int low :: .int 255 :: (dS M ++ [.int 0])
theorem shelf_len (low : Int) (M : List Tr) : (shelfD low M).length = M.length + 3 := by simp [shelfD, dS]
theorem shelf_at (low : Int) (M : List Tr) (j : Nat) (t : Tr) (h : M[j]? = some t) : (shelfD low M)[j + 2]? = some (.int t.sym) := by
  have hj := (List.getElem?_eq_some_iff.mp h).1
  show (dS M ++ [.int 0])[j]? = _
  rw [List.getElem?_append_left (by simp [dS]; exact hj)]
  unfold dS
  rw [List.getElem?_map, h]
  rfl
theorem shelf_ins (low : Int) (M : List Tr) (i : Nat) (hi : i ≤ M.length) (new : Tr) : insAt (shelfD low M) ((2 + i : Nat) : Int) (.int new.sym) = shelfD low (M.take i ++ new :: M.drop i) := by
  unfold insAt
  rw [clip_nat, shelf_len, Nat.min_eq_left (by omega)]
  have e : 2 + i = i + 2 := by omega
  rw [e]
  unfold shelfD dS
  dsimp only
  rw [List.take_succ_cons, List.take_succ_cons, List.drop_succ_cons, List.drop_succ_cons, List.take_append_of_le_length (by simpa using hi), List.drop_append_of_le_length (by simpa using hi), List.map_append, List.map_cons, List.map_take, List.map_drop]
  simp
end Mine
end

section
open PySem PySem.W PyProof.Rows Builtin.Str
namespace Mine
noncomputable def lawNames : List Str := fLaw.glos ++ names ["low", "total", "pairs", "symbols", "shelf", "texts"]
structure LwS (low tot : Int) (P : List (Int × Int)) (ts M : List Tr) (st : LSt) : Prop where
  hg : ∀ x ∈ fLaw.glos, st.get x = some .glo
  hlow : st.get (Str.ofString "low") = some (.val (.int low))
  htot : st.get (Str.ofString "total") = some (.val (.int tot))
  hpairs : st.get (Str.ofString "pairs") = some (.own (P.map dPair))
  hsyms : st.get (Str.ofString "symbols") = some (.own (dS (forest low ts)))
  hshelf : st.get (Str.ofString "shelf") = some (.own (shelfD low M))
  htexts : st.get (Str.ofString "texts") = some (.dct (es (forest low ts)))
theorem mem_ne {x y : Str} {A : List Str} (h : x ∉ A) (m : y ∈ A) : ¬ y = x := fun e => h (e ▸ m)
section
variable {low tot : Int} {P : List (Int × Int)} {ts M : List Tr} {st : LSt} {n : Nat}
theorem LwS.put (h : LwS low tot P ts M st) {x : Str} {l : LV} (hx : x ∉ lawNames) : LwS low tot P ts M (st.put x l) where
  hg := fun y m => by rw [LSt.get_put, if_neg (mem_ne hx (List.mem_append_left _ m))]; exact h.hg y m
  hlow := by rw [LSt.get_put, if_neg (mem_ne hx (by decide))]; exact h.hlow
  htot := by rw [LSt.get_put, if_neg (mem_ne hx (by decide))]; exact h.htot
  hpairs := by rw [LSt.get_put, if_neg (mem_ne hx (by decide))]; exact h.hpairs
  hsyms := by rw [LSt.get_put, if_neg (mem_ne hx (by decide))]; exact h.hsyms
  hshelf := by rw [LSt.get_put, if_neg (mem_ne hx (by decide))]; exact h.hshelf
  htexts := by rw [LSt.get_put, if_neg (mem_ne hx (by decide))]; exact h.htexts
noncomputable def bt (j : Nat) : Stmt := (blk (stm 17 5))[j]?.getD (.Pass default)
noncomputable def ct (j : Nat) : Stmt := (blk (bt 1))[j]?.getD (.Pass default)
theorem dS_len (A : List Tr) : (dS A).length = A.length := by simp [dS]
theorem dS_at {A : List Tr} {i : Nat} {t : Tr} (h : A[i]? = some t) : (dS A)[i]? = some (.int t.sym) := by unfold dS; rw [List.getElem?_map, h]; rfl
theorem bt0 (w : Wd low P ts) (h : LwS low tot P ts M st) {x : Int} {i j : Nat} {s t : Tr} (hi : x % ((ts.length + 2 : Nat) : Int) = (i : Int)) (hj : x / ((ts.length + 2 : Nat) : Int) % ((ts.length + 2 : Nat) : Int) = (j : Int)) (hs : (forest low ts)[i]? = some s) (ht : (forest low ts)[j]? = some t) (hx : st.get (Str.ofString "x") = some (.val (.int x))) :
    exS oLaw (Itp.at oLaw (n + 20)) st (bt 0) = some (.nx, st.put (Str.ofString "pair") (.val (.list [.int s.sym, .int t.sym]))) := by
  have h4 := w.le4
  have hl : (dS (forest low ts)).length = ts.length + 2 := by rw [dS_len]; rfl
  obtain ⟨N, hN⟩ : ∃ N, N = ts.length + 2 := ⟨_, rfl⟩
  rw [← hN] at hi hj hl
  have hb := bi_len (dS (forest low ts)) (by omega)
  rw [hl] at hb
  have n0 : 0 < N := by omega
  have n1 : (N : Int) ≤ 1000000 := by omega
  have il : i < (dS (forest low ts)).length := by rw [dS_len]; exact (List.getElem?_eq_some_iff.mp hs).1
  have jl : j < (dS (forest low ts)).length := by rw [dS_len]; exact (List.getElem?_eq_some_iff.mp ht).1
  have i1 := idxNat _ i il (by omega)
  have j1 := idxNat _ j jl (by omega)
  have i2 := dS_at hs
  have j2 := dS_at ht
  have gl := h.hg (Str.ofString "len") (by decide)
  (conv in (bt _) => whnf); simp +decide [LSt.get_put, h.hsyms, hx, gl, hb, n0, n1, hi, hj, i1, j1, i2, j2]
theorem dI2 (a b : Int) : okD 6 (.list [.int a, .int b]) = true := rfl
theorem ok_pairs : ∀ P : List (Int × Int), okL (P.map dPair) = true
  | [] => rfl
  | p :: r => by
    show (okD 6 (dPair p) && okL (r.map dPair)) = true
    rw [ok_pairs r]; rfl
theorem deq_pair (a b c d : Int) : deq 8 (.list [.int a, .int b]) (dPair (c, d)) = decide ((a, b) = (c, d)) := by
  show (decide (a = c) && (decide (b = d) && true)) = _
  by_cases h1 : a = c <;> by_cases h2 : b = d <;> simp [h1, h2]
theorem any_pairs (a b : Int) : ∀ P : List (Int × Int), (P.map dPair).any (deq 8 (.list [.int a, .int b])) = decide ((a, b) ∈ P)
  | [] => by simp
  | (c, d) :: r => by
    rw [List.map_cons, List.any_cons, any_pairs a b r, deq_pair]
    by_cases h : (a, b) = (c, d) <;> simp [h]
theorem any_pairs' (a b : Int) (P : List (Int × Int)) : P.any (deq 8 (.list [.int a, .int b]) ∘ dPair) = decide ((a, b) ∈ P) := by
  rw [← any_pairs, List.any_map]
theorem bt1 (w : Wd low P ts) (h : LwS low tot P ts M st) {s t : Tr} (hs : s ∈ forest low ts) (ht : t ∈ forest low ts) (hp : st.get (Str.ofString "pair") = some (.val (.list [.int s.sym, .int t.sym]))) :
    tst (Itp.at oLaw (n + 20)) st (tstOf (bt 1)) = some (decide ((s.sym, t.sym) ∉ P ∧ s.txt.length + t.txt.length < 6)) := by
  have gl := h.hg (Str.ofString "len") (by decide)
  have l1 := w.look hs
  have l2 := w.look ht
  have s5 := w.fsmall s hs
  have t5 := w.fsmall t ht
  have hl : (sOf s.txt).length + (sOf t.txt).length ≤ 4096 := by rw [sOf_len, sOf_len]; omega
  have hb : builtin (Str.ofString "len") [.str (sOf s.txt ++ sOf t.txt)] = some (.int ((s.txt.length + t.txt.length : Nat) : Int)) := by
    rw [sOf_app, bi_lens _ (by rw [sOf_len, List.length_append]; omega), sOf_len, List.length_append]
  obtain ⟨N, hN⟩ : ∃ N, N = s.txt.length + t.txt.length := ⟨_, rfl⟩
  rw [← hN] at hb ⊢
  have i0 : idxAt [Dat.int s.sym, .int t.sym] 0 = some 0 := rfl
  have i1 : idxAt [Dat.int s.sym, .int t.sym] 1 = some 1 := rfl
  by_cases hm : (s.sym, t.sym) ∈ P
  · (conv in (bt _) => whnf); simp +decide [LSt.get_put, h.hpairs, h.htexts, hp, dI2, ok_pairs, any_pairs', hm]
  · by_cases h6 : N < 6
    · have h6' : (N : Int) < 6 := by omega
      (conv in (bt _) => whnf); simp +decide [LSt.get_put, h.hpairs, h.htexts, hp, dI2, ok_pairs, any_pairs', hm, i0, i1, l1, l2, hl, gl, hb, h6, h6']
    · have h6' : ¬ (N : Int) < 6 := by omega
      (conv in (bt _) => whnf); simp +decide [LSt.get_put, h.hpairs, h.htexts, hp, dI2, ok_pairs, any_pairs', hm, i0, i1, l1, l2, hl, gl, hb, h6, h6']
end
end Mine
end

section
open PySem PySem.W PyProof.Rows Builtin.Str
namespace Mine
noncomputable def noC : Expr := .Constant .none 0 default
noncomputable def callE (s : Stmt) : Expr := pick (sp3 s).1 (sp3 s).1 (cmp := fun _ _ rs => rs.headD noC)
noncomputable def kwLam (s : Stmt) : Expr := pick (callE s) noC (call := fun _ _ kw _ => (kw.head?.map (·.value)).getD noC)
noncomputable def cArg (s : Stmt) (i : Nat) : Expr := pick (callE s) noC (call := fun _ as _ _ => as[i]?.getD noC)
noncomputable def aArgs (s : Stmt) : List Expr := pick (callE s) [] (call := fun _ as _ _ => as)
noncomputable def lamA (l : Expr) : Arguments := pick l ⟨[], [], none, [], [], none, []⟩ (lam := fun a _ _ => a)
noncomputable def lamB (l : Expr) : Expr := pick l noC (lam := fun _ b _ => b)
noncomputable def lamS (l : Expr) : Scope := pick l default (lam := fun _ _ s => s)
noncomputable def lamX (l : Expr) : Str := (argOf (lamA l)).getD ⟨#[]⟩
section
variable (f l e b : Expr) (as ts rs : List Expr) (z : Option Str) (p q q' q'' : Pos) (x : Str) (an : Option Expr) (sc : Scope) (i : Nat) (cops : List CmpOp) (kw : List Keyword) (B B' : List Stmt) (tc : Option Str)
@[simp] theorem kwLam_e : kwLam (.Expr (.Call f as [⟨z, l, q'⟩] p) q) = l := rfl
@[simp] theorem kwLam_a : kwLam (.Assign ts (.Call f as [⟨z, l, q'⟩] p) q) = l := rfl
@[simp] theorem kwLam_i : kwLam (.If (.Compare e cops [.Call f as [⟨z, l, q'⟩] p] q'') B B' q) = l := rfl
@[simp] theorem cArg_e : cArg (.Expr (.Call f as kw p) q) i = as[i]?.getD noC := rfl
@[simp] theorem cArg_a : cArg (.Assign ts (.Call f as kw p) q) i = as[i]?.getD noC := rfl
@[simp] theorem cArg_i : cArg (.If (.Compare e cops [.Call f as kw p] q'') B B' q) i = as[i]?.getD noC := rfl
@[simp] theorem aArgs_a : aArgs (.Assign ts (.Call f as kw p) q) = as := rfl
@[simp] theorem lamB_1 (a : Arguments) : lamB (.Lambda a b sc p) = b := rfl
@[simp] theorem lamX_1 : lamX (.Lambda ⟨[], [⟨x, an, q⟩], none, [], [], none, []⟩ b sc p) = x := rfl
end
noncomputable def gL (l : Expr) (D : List (Int × Str)) : Dat → Option Dat := lamV oLaw [(Str.ofString "texts", .dct D)] (lamX l) (lamB l)
theorem lam_eq {l : Expr} {D : List (Int × Str)} {st : LSt} (h : (lamF oLaw st l, argOf (lamA l)) = (lamG oLaw st (lamA l) (lamB l) (lamS l), some (lamX l))) (hb : blockOk oLaw.capt (lamS l) [lamX l] = true) (hc : (lamS l).isCoroutine = false) (hg : (lamS l).isGenerator = false) (hn : (lamS l).names = [(lamX l, .local), (Str.ofString "texts", .free)]) (hD : st.get (Str.ofString "texts") = some (.dct D)) : lamF oLaw st l = some (gL l D) := by
  obtain ⟨h1, h2⟩ := Prod.mk.inj h
  rw [h1]
  unfold lamG
  rw [h2]
  show (if oLaw.lam && blockOk oLaw.capt (lamS l) [lamX l] && !(lamS l).isCoroutine && !(lamS l).isGenerator then _ else none) = _
  rw [hb, hc, hg, hn, if_pos (show (oLaw.lam && true && !false && !false) = true from rfl)]
  have hf : freeOf oLaw.capt st [(lamX l, .local), (Str.ofString "texts", .free)] = some [(Str.ofString "texts", .dct D)] := by
    show (match st.get (Str.ofString "texts") with
      | some .glo => none
      | some l => if oLaw.capt (Str.ofString "texts") then (freeOf oLaw.capt st []).map ((Str.ofString "texts", l) :: ·) else none
      | none => none) = _
    rw [hD]
    rfl
  rw [hf]
  rfl
theorem gL_ins (D : List (Int × Str)) (s : Int) : gL (kwLam (ct 3)) D (.int s) = (D.lookup s).map .str := by
  show ((evAt (bare oLaw) 20).ev [(lamX (kwLam (ct 3)), .val (.int s)), (Str.ofString "texts", .dct D)] (lamB (kwLam (ct 3)))).bind RV.stv = _
  (conv in (ct _) => whnf); (conv in (ct _) => whnf)
  cases h : D.lookup s <;> simp +decide [h]
theorem lam_ins {D : List (Int × Str)} {st : LSt} (hD : st.get (Str.ofString "texts") = some (.dct D)) : lamF oLaw st (kwLam (ct 3)) = some (gL (kwLam (ct 3)) D) :=
  lam_eq rfl (by decide) rfl rfl rfl hD
theorem fk_bis (ds : List Dat) (g : Dat → Option Dat) : oLaw.fk (Str.ofString "bisect_left") ds g = spBisK ds g := by
  show fkLaw (Str.ofString "bisect_left") ds g = _
  unfold fkLaw
  rw [if_pos rfl]
theorem fn_spel (ds : List Dat) : oLaw.fn (Str.ofString "_law_spelled") ds = spSpel ds := rfl
theorem bi_spel (a b : Dat) : builtin (Str.ofString "_law_spelled") [a, b] = none := by cases a <;> rfl
section
variable {low tot : Int} {P : List (Int × Int)} {ts M : List Tr} {st : LSt} {n : Nat}
theorem bis_shelf (w : Wd low P ts) (sh : Shf ts M) (x : Str) {D : List (Int × Str)} {l : Expr} (hl : ∀ s, gL l D (.int s) = (D.lookup s).map .str) (hD : ∀ t ∈ ts, D.lookup t.sym = some (sOf t.txt)) :
    spBisK [.list (shelfD low M), .str x, .int 2, .int ((M.length + 2 : Nat) : Int)] (gL l D) = some (.int ((2 + insI M x : Nat) : Int)) := by
  have hm := sh.perm.length_eq
  have h4 := w.le4
  have hi := insI_le M x
  refine bisK_eq (lo0 := 2) (by omega) (by omega) (by rw [shelf_len]; omega) (by rw [shelf_len]; omega) fun j h1 h2 => ?_
  have hj : j - 2 < M.length := by omega
  have e := List.getElem?_eq_getElem hj
  refine ⟨.int (M[j - 2]).sym, sOf (M[j - 2]).txt, ?_, ?_, ?_⟩
  · have := shelf_at low M (j - 2) _ e
    rw [show j - 2 + 2 = j by omega] at this
    exact this
  · rw [hl, hD _ (sh.perm.mem_iff.mp (List.getElem_mem hj))]; rfl
  · rw [show (sOf (M[j - 2]).txt).cps.toList < x.cps.toList ↔ j - 2 < insI M x from insI_iff sh.srt (j - 2) _ e]
    omega
end
end Mine
end

section
open PySem PySem.W PyProof.Rows Builtin.Str
namespace Mine
section
variable {low tot : Int} {P : List (Int × Int)} {ts M : List Tr} {st : LSt} {n : Nat}
theorem dS_snoc (A : List Tr) (t : Tr) : dS A ++ [.int t.sym] = dS (A ++ [t]) := by simp [dS]
theorem es_snoc (A : List Tr) (t : Tr) : es A ++ [(t.sym, sOf t.txt)] = es (A ++ [t]) := by simp [es]
theorem pairs_snoc (P : List (Int × Int)) (a b : Int) : P.map dPair ++ [.list [.int a, .int b]] = (P ++ [(a, b)]).map dPair := by simp [dPair, dI]
theorem ct3_eq (I : Itp) (st : LSt) : exS oLaw I st (ct 3) = if Str.ofString "insort_left" = Str.ofString "insort_left" ∧ [cArg (ct 3) 1, cArg (ct 3) 2, cArg (ct 3) 3].all plainE = true ∧ isGlo st (Str.ofString "insort_left") = true then insK oLaw I st (Str.ofString "shelf") (cArg (ct 3) 1) (cArg (ct 3) 2) (cArg (ct 3) 3) (kwLam (ct 3)) else none := rfl
theorem insK_eq {O : Orc} {I : Itp} {x : Str} {e e₁ e₂ l : Expr} {ds : List Dat} {d kd : Dat} {lo hi k : Int} {g : Dat → Option Dat} (hx : st.get x = some (.own ds)) (he : evV I st e = some d) (h1 : evI I st e₁ = some lo) (h2 : evI I st e₂ = some hi) (hl : lamF O st l = some g) (hg : g d = some kd) (hf : flatD kd = true)
    (hk : O.fk (Str.ofString "bisect_left") [.list ds, kd, .int lo, .int hi] g = some (.int k)) (hn : ds.length ≤ 4095 ∧ 0 ≤ k ∧ k ≤ ds.length) : insK O I st x e e₁ e₂ l = some (.nx, st.put x (.own (insAt ds k d))) := by
  unfold insK
  rw [hx, he, h1, h2, hl]
  show (g d).bind _ = _
  rw [hg]
  show (if flatD kd = false then none else _) = _
  rw [hf, if_neg (fun z => nomatch z), hk]
  exact if_pos hn
theorem ct0 (w : Wd low P ts) (h : LwS low tot P ts M st) {s t : Tr} (hp : st.get (Str.ofString "pair") = some (.val (.list [.int s.sym, .int t.sym]))) :
    exS oLaw (Itp.at oLaw (n + 20)) st (ct 0) = some (.nx, st.put (Str.ofString "pairs") (.own ((P ++ [(s.sym, t.sym)]).map dPair))) := by
  have h4 := w.le4
  have hl := w.len
  have h1 : P.length ≤ 4096 := by omega
  have e := pairs_snoc P s.sym t.sym
  rw [← e]
  (conv in (ct _) => whnf); simp +decide [LSt.get_put, h.hpairs, hp, h1]
theorem ct1 (w : Wd low P ts) {Q : List (Int × Int)} (hQ : Q.length = ts.length + 1) (g1 : st.get (Str.ofString "pairs") = some (.own (Q.map dPair))) (g2 : st.get (Str.ofString "symbols") = some (.own (dS (forest low ts)))) (g3 : st.get (Str.ofString "len") = some .glo) :
    exS oLaw (Itp.at oLaw (n + 20)) st (ct 1) = some (.nx, st.put (Str.ofString "symbols") (.own (dS (forest low ts) ++ [.int (256 + (ts.length : Int))]))) := by
  have h4 := w.le4
  have hb := bi_len (Q.map dPair) (by rw [List.length_map]; omega)
  rw [List.length_map, hQ] at hb
  have h1 : (dS (forest low ts)).length ≤ 4096 := by rw [dS_len, w.flen]; omega
  obtain ⟨N, hN⟩ : ∃ N, N = ts.length + 1 := ⟨_, rfl⟩
  rw [← hN] at hb
  have e : (255 : Int) + (N : Int) = 256 + (ts.length : Int) := by omega
  (conv in (ct _) => whnf); simp +decide [LSt.get_put, g1, g2, g3, hb, h1, e]
theorem ct2 (w : Wd low P ts) {Q : List (Int × Int)} {x : Str} (g1 : st.get (Str.ofString "pairs") = some (.own (Q.map dPair))) (g2 : st.get (Str.ofString "symbols") = some (.own (dS (forest low ts) ++ [.int (256 + (ts.length : Int))]))) (g3 : st.get (Str.ofString "_law_spelled") = some .glo) (g4 : st.get (Str.ofString "texts") = some (.dct (es (forest low ts))))
    (hs : spSpel [.list (Q.map dPair), .int (256 + (ts.length : Int))] = some (.str x)) :
    exS oLaw (Itp.at oLaw (n + 20)) st (ct 2) = some (.nx, st.put (Str.ofString "texts") (.dct (es (forest low ts) ++ [(256 + (ts.length : Int), x)]))) := by
  have h4 := w.le4
  have h1 := idxLast (dS (forest low ts)) (.int (256 + (ts.length : Int))) (by rw [dS_len, w.flen]; omega)
  have h2 := w.look_no
  have h3 : (es (forest low ts)).length ≤ 64 := by unfold es; rw [List.length_map, w.flen]; omega
  (conv in (ct _) => whnf); simp +decide [LSt.get_put, g1, g2, g3, g4, h1, h2, h3, hs, fn_spel, bi_spel]
theorem ct3 (w : Wd low P ts) (sh : Shf ts M) {new : Tr} {D : List (Int × Str)} (hD : ∀ t ∈ ts, D.lookup t.sym = some (sOf t.txt)) (hn : D.lookup new.sym = some (sOf new.txt)) (g1 : st.get (Str.ofString "symbols") = some (.own (dS (forest low ts) ++ [.int new.sym]))) (g2 : st.get (Str.ofString "shelf") = some (.own (shelfD low M))) (g3 : st.get (Str.ofString "len") = some .glo) (g4 : st.get (Str.ofString "insort_left") = some .glo)
    (g5 : st.get (Str.ofString "texts") = some (.dct D)) :
    exS oLaw (Itp.at oLaw (n + 20)) st (ct 3) = some (.nx, st.put (Str.ofString "shelf") (.own (shelfD low (M.take (insI M (sOf new.txt)) ++ new :: M.drop (insI M (sOf new.txt)))))) := by
  have h4 := w.le4
  have hm := sh.perm.length_eq
  have hi := insI_le M (sOf new.txt)
  have h1 := idxLast (dS (forest low ts)) (.int new.sym) (by rw [dS_len, w.flen]; omega)
  have hb := bi_len (shelfD low M) (by rw [shelf_len]; omega)
  rw [shelf_len] at hb
  have hl := lam_ins g5
  have e1 : evV (Itp.at oLaw (n + 20)) st (cArg (ct 3) 1) = some (.int new.sym) := by
    (conv in (ct _) => whnf); simp +decide [LSt.get_put, g1, h1]
  have e2 : evI (Itp.at oLaw (n + 20)) st (cArg (ct 3) 2) = some 2 := by
    (conv in (ct _) => whnf); simp +decide [LSt.get_put]
  have e3 : evI (Itp.at oLaw (n + 20)) st (cArg (ct 3) 3) = some ((M.length + 2 : Nat) : Int) := by
    obtain ⟨N, hN⟩ : ∃ N, N = M.length + 3 := ⟨_, rfl⟩
    obtain ⟨N', hN'⟩ : ∃ N', N' = M.length + 2 := ⟨_, rfl⟩
    rw [← hN] at hb
    rw [← hN']
    have e : (N : Int) - 1 = (N' : Int) := by omega
    (conv in (ct _) => whnf); simp +decide [LSt.get_put, g2, g3, hb, e]
  have e4 := bis_shelf w sh (sOf new.txt) (gL_ins D) hD
  rw [ct3_eq, if_pos ⟨rfl, rfl, isGlo_of _ _ g4⟩, insK_eq g2 e1 e2 e3 hl (by rw [gL_ins, hn]; rfl) rfl (by rw [fk_bis]; exact e4) (by rw [shelf_len]; omega), shelf_ins low M _ hi]
theorem bt_blk : blk (stm 17 5) = [bt 0, bt 1] := rfl
theorem ct_blk : blk (bt 1) = [ct 0, ct 1, ct 2, ct 3] := rfl
theorem bt_els : els (bt 1) = [] := rfl
theorem bt_if (I : Itp) (O : Orc) (st : LSt) : exS O I st (bt 1) = (tst I st (tstOf (bt 1))).bind fun c => if c then I.exs st (blk (bt 1)) else I.exs st (els (bt 1)) := rfl
theorem build_turn (w : Wd low P ts) (sh : Shf ts M) (h : LwS low tot P ts M st) {x : Int} (hx : 0 ≤ x) (h4 : ts.length < 4) :
    ∃ P' ts' M' st', (Itp.at oLaw (n + 30)).exs (st.put (Str.ofString "x") (.val (.int x))) (blk (stm 17 5)) = some (.nx, st') ∧ Wd low P' ts' ∧ Shf ts' M' ∧ LwS low tot P' ts' M' st' ∧ ts'.length ≤ ts.length + 1 := by
  have hN : (0 : Int) < ((ts.length + 2 : Nat) : Int) := by omega
  have a0 := Int.emod_nonneg x (Int.ne_of_gt hN)
  have a1 := Int.emod_lt_of_pos x hN
  have b0 := Int.emod_nonneg (x / ((ts.length + 2 : Nat) : Int)) (Int.ne_of_gt hN)
  have b1 := Int.emod_lt_of_pos (x / ((ts.length + 2 : Nat) : Int)) hN
  obtain ⟨i, hi⟩ : ∃ i : Nat, x % ((ts.length + 2 : Nat) : Int) = (i : Int) := ⟨(x % ((ts.length + 2 : Nat) : Int)).toNat, (Int.toNat_of_nonneg a0).symm⟩
  obtain ⟨j, hj⟩ : ∃ j : Nat, x / ((ts.length + 2 : Nat) : Int) % ((ts.length + 2 : Nat) : Int) = (j : Int) := ⟨(x / ((ts.length + 2 : Nat) : Int) % ((ts.length + 2 : Nat) : Int)).toNat, (Int.toNat_of_nonneg b0).symm⟩
  have hil : i < (forest low ts).length := by rw [w.flen]; omega
  have hjl : j < (forest low ts).length := by rw [w.flen]; omega
  have e1 := List.getElem?_eq_getElem hil
  have e2 := List.getElem?_eq_getElem hjl
  have hs := List.getElem_mem hil
  have ht := List.getElem_mem hjl
  obtain ⟨s, hse⟩ : ∃ s, s = (forest low ts)[i] := ⟨_, rfl⟩
  obtain ⟨t, hte⟩ : ∃ t, t = (forest low ts)[j] := ⟨_, rfl⟩
  rw [← hse] at e1 hs
  rw [← hte] at e2 ht
  have h1 := h.put (x := Str.ofString "x") (l := .val (.int x)) (by decide)
  have r0 := bt0 (n := n + 9) w h1 hi hj e1 e2 (by rw [LSt.get_put, if_pos rfl])
  have h2 := h1.put (x := Str.ofString "pair") (l := .val (.list [.int s.sym, .int t.sym])) (by decide)
  obtain ⟨st2, hst2⟩ : ∃ st2, st2 = (st.put (Str.ofString "x") (.val (.int x))).put (Str.ofString "pair") (.val (.list [.int s.sym, .int t.sym])) := ⟨_, rfl⟩
  rw [← hst2] at h2 r0
  have hp2 : st2.get (Str.ofString "pair") = some (.val (.list [.int s.sym, .int t.sym])) := by rw [hst2, LSt.get_put, if_pos rfl]
  have r1 := bt1 (n := n + 8) w h2 hs ht hp2
  rw [bt_blk, exs_c, r0]
  simp only [Option.bind_some]
  rw [exs_c, bt_if, r1]
  simp only [Option.bind_some]
  by_cases hc : (s.sym, t.sym) ∉ P ∧ s.txt.length + t.txt.length < 6
  · rw [if_pos (decide_eq_true hc)]
    have w' := w.add hs ht h4 hc.2
    obtain ⟨new, hnew⟩ : ∃ new, new = Tr.nd ts.length s t := ⟨_, rfl⟩
    rw [← hnew] at w'
    have hns : new.sym = 256 + (ts.length : Int) := by rw [hnew]; rfl
    have hnt : new.txt.length ≤ 10 := by rw [hnew]; show (s.txt ++ t.txt).length ≤ 10; rw [List.length_append]; omega
    have hnw : new.Wf (P ++ [(s.sym, t.sym)]) := w'.wf new (by simp)
    have hlt : ∀ u ∈ ts, u.sym < new.sym := fun u m => by
      rw [hns]
      exact w.fsym_lt (List.mem_cons_of_mem _ (List.mem_cons_of_mem _ m))
    have q0 := ct0 (n := n + 7) w h2 hp2
    obtain ⟨Q, hQ⟩ : ∃ Q, Q = P ++ [(s.sym, t.sym)] := ⟨_, rfl⟩
    rw [← hQ] at q0 w' hnw
    have hQl : Q.length = ts.length + 1 := by rw [hQ, List.length_append, w.len]; rfl
    have q1 := ct1 (n := n + 6) (st := st2.put (Str.ofString "pairs") (.own (Q.map dPair))) w hQl (by rw [LSt.get_put, if_pos rfl]) (by rw [LSt.get_put, if_neg (by decide)]; exact h2.hsyms) (by rw [LSt.get_put, if_neg (by decide)]; exact h2.hg _ (by decide))
    obtain ⟨st3, hst3⟩ : ∃ st3, st3 = (st2.put (Str.ofString "pairs") (.own (Q.map dPair))).put (Str.ofString "symbols") (.own (dS (forest low ts) ++ [.int (256 + (ts.length : Int))])) := ⟨_, rfl⟩
    rw [← hst3] at q1
    have q2 := ct2 (n := n + 5) (st := st3) (Q := Q) (x := sOf new.txt) w (by rw [hst3, LSt.get_put, if_neg (by decide), LSt.get_put, if_pos rfl]) (by rw [hst3, LSt.get_put, if_pos rfl]) (by rw [hst3, LSt.get_put, if_neg (by decide), LSt.get_put, if_neg (by decide)]; exact h2.hg _ (by decide)) (by rw [hst3, LSt.get_put, if_neg (by decide), LSt.get_put, if_neg (by decide)]; exact h2.htexts)
      (by rw [← hns]; exact w'.spelled hnw hnt)
    rw [← hns, es_snoc, ← forest_snoc] at q2
    have hD : ∀ u ∈ ts ++ [new], (es (forest low (ts ++ [new]))).lookup u.sym = some (sOf u.txt) := fun u m => w'.look (List.mem_cons_of_mem _ (List.mem_cons_of_mem _ m))
    have q3 := ct3 (n := n + 4) (st := st3.put (Str.ofString "texts") (.dct (es (forest low (ts ++ [new]))))) (new := new) (D := es (forest low (ts ++ [new]))) w sh (fun u m => hD u (List.mem_append_left _ m)) (hD new (by simp))
      (by rw [LSt.get_put, if_neg (by decide), hst3, LSt.get_put, if_pos rfl, hns]) (by rw [LSt.get_put, if_neg (by decide), hst3, LSt.get_put, if_neg (by decide), LSt.get_put, if_neg (by decide)]; exact h2.hshelf) (by rw [LSt.get_put, if_neg (by decide), hst3, LSt.get_put, if_neg (by decide), LSt.get_put, if_neg (by decide)]; exact h2.hg _ (by decide)) (by rw [LSt.get_put, if_neg (by decide), hst3, LSt.get_put, if_neg (by decide), LSt.get_put, if_neg (by decide)]; exact h2.hg _ (by decide))
      (by rw [LSt.get_put, if_pos rfl])
    refine ⟨Q, ts ++ [new], M.take (insI M (sOf new.txt)) ++ new :: M.drop (insI M (sOf new.txt)), (st3.put (Str.ofString "texts") (.dct (es (forest low (ts ++ [new]))))).put (Str.ofString "shelf") (.own (shelfD low (M.take (insI M (sOf new.txt)) ++ new :: M.drop (insI M (sOf new.txt))))), ?_, w', sh.add hlt, ?_, by simp⟩
    · rw [ct_blk, exs_c, q0]
      simp only [Option.bind_some]
      rw [exs_c, q1]
      simp only [Option.bind_some]
      rw [exs_c, q2]
      simp only [Option.bind_some]
      rw [exs_c, q3]
      rfl
    · refine ⟨fun y m => ?_, ?_, ?_, ?_, ?_, ?_, ?_⟩
      · have hny : ∀ z ∈ names ["shelf", "texts", "symbols", "pairs"], ¬ y = z := fun z hz e => by
          subst e
          revert m
          revert hz
          simp only [names, List.map_cons, List.map_nil, List.mem_cons, List.not_mem_nil, or_false]
          rintro (rfl | rfl | rfl | rfl) <;> decide
        rw [LSt.get_put, if_neg (hny _ (by decide)), LSt.get_put, if_neg (hny _ (by decide)), hst3, LSt.get_put, if_neg (hny _ (by decide)), LSt.get_put, if_neg (hny _ (by decide))]
        exact h2.hg y m
      · rw [LSt.get_put, if_neg (by decide), LSt.get_put, if_neg (by decide), hst3, LSt.get_put, if_neg (by decide), LSt.get_put, if_neg (by decide)]; exact h2.hlow
      · rw [LSt.get_put, if_neg (by decide), LSt.get_put, if_neg (by decide), hst3, LSt.get_put, if_neg (by decide), LSt.get_put, if_neg (by decide)]; exact h2.htot
      · rw [LSt.get_put, if_neg (by decide), LSt.get_put, if_neg (by decide), hst3, LSt.get_put, if_neg (by decide), LSt.get_put, if_pos rfl]
      · rw [LSt.get_put, if_neg (by decide), LSt.get_put, if_neg (by decide), hst3, LSt.get_put, if_pos rfl, ← hns, dS_snoc, forest_snoc]
      · rw [LSt.get_put, if_pos rfl]
      · rw [LSt.get_put, if_neg (by decide), LSt.get_put, if_pos rfl]
  · rw [if_neg (by simpa using hc)]
    refine ⟨P, ts, M, st2, ?_, w, sh, h2, by omega⟩
    rw [bt_els, U3_1]
    rfl
theorem build_loop : ∀ (X : List Int) {P : List (Int × Int)} {ts M : List Tr} {st : LSt}, Wd low P ts → Shf ts M → LwS low tot P ts M st → (∀ x ∈ X, 0 ≤ x) → ts.length + X.length ≤ 4 →
    ∃ P' ts' M' st', forLoop (Itp.at oLaw (n + 30)) (Str.ofString "x") (blk (stm 17 5)) st (X.map .int) = some (.nx, st') ∧ Wd low P' ts' ∧ Shf ts' M' ∧ LwS low tot P' ts' M' st'
  | [], P, ts, M, st, w, sh, h, _, _ => ⟨P, ts, M, st, rfl, w, sh, h⟩
  | x :: X, P, ts, M, st, w, sh, h, hX, hl => by
    rw [List.length_cons] at hl
    obtain ⟨P1, ts1, M1, st1, e1, w1, sh1, h1, l1⟩ := build_turn (n := n) w sh h (hX x (.head _)) (by omega)
    obtain ⟨P2, ts2, M2, st2, e2, w2, sh2, h2⟩ := build_loop X w1 sh1 h1 (fun y m => hX y (.tail _ m)) (by omega)
    refine ⟨P2, ts2, M2, st2, ?_, w2, sh2, h2⟩
    rw [List.map_cons, for_cons, e1]
    simp only [Option.bind_some]
    exact e2
end
end Mine
end

section
open PySem PySem.W PyProof.Rows Builtin.Str
namespace Mine
theorem bi_sum (xs : List Int) : builtin (Str.ofString "sum") [.list (xs.map .int)] = some (.int xs.sum) := by
  show (if Str.ofString "sum" = Str.ofString "len" then (if (xs.map Dat.int).length ≤ 4096 then some (Dat.int (xs.map Dat.int).length) else none) else if Str.ofString "sum" = Str.ofString "sum" then (intsOf (xs.map .int)).map fun ns => Dat.int ns.sum else none) = _
  rw [if_neg (by decide), if_pos rfl, intsOf_map]
  rfl
noncomputable def marksOf (script : List Int) : List Int := script.map (· % 1000000)
section
variable {st : LSt} {n : Nat} {script : List Int}
theorem lw0 (h : st.get (Str.ofString "script") = some (.val (.list (script.map .int)))) (hl : script.length ≤ 63) : exS oLaw (Itp.at oLaw (n + 20)) st (stm 17 0) = some (.nx, st.put (Str.ofString "marks") (.val (.list ((marksOf script).map .int)))) := by
  have h1 : slcD (script.map Dat.int) none (some 63) = script.map Dat.int := by
    have := slc_take (script.map Dat.int) 63
    rw [List.take_of_length_le (by simpa using hl)] at this
    exact this
  have h2 : script.length ≤ 4096 := by omega
  have hit : itemsOf (Itp.at oLaw (n + 20)) (evD (Itp.at oLaw (n + 20))) st (gI (rhs (stm 17 0))) = some (script.map .int) := by
    (conv in (stm _ _) => whnf); simp +decide [LSt.get_put, h, h1, h2]
  have key := lc_map (O := oLaw) (I := Itp.at oLaw (n + 20)) (st := st) (cap := []) (e := rhs (stm 17 0)) (fun d => match d with | .int x => .int (x % 1000000) | d => d) rfl (by decide) rfl hit (fun d m => by
    obtain ⟨x, _, rfl⟩ := List.mem_map.mp m
    (conv in (occs := *) (stm _ _) => all_goals whnf); simp +decide [LSt.get_put]) (by simpa using h2)
  have e : (script.map Dat.int).map (fun d => match d with | .int x => Dat.int (x % 1000000) | d => d) = (marksOf script).map .int := by
    unfold marksOf
    rw [List.map_map, List.map_map]
    rfl
  rw [e] at key
  show (bindE oLaw (Itp.at oLaw (n + 20)) st (Str.ofString "marks") (rhs (stm 17 0))).map _ = _
  show (((evF oLaw (Itp.at oLaw (n + 20)) st (rhs (stm 17 0))).map fun ds => (LV.val (.list ds), st)).map _) = _
  rw [key]
  rfl
theorem lw1 {m : List Int} (h : st.get (Str.ofString "marks") = some (.val (.list (m.map .int)))) (hg : st.get (Str.ofString "sum") = some .glo) : exS oLaw (Itp.at oLaw (n + 20)) st (stm 17 1) = some (.nx, st.put (Str.ofString "total") (.val (.int m.sum))) := by
  have hb := bi_sum m
  (conv in (stm _ _) => whnf); simp +decide [LSt.get_put, h, hg, hb]
theorem lw2 {t : Int} (h : st.get (Str.ofString "total") = some (.val (.int t))) : exS oLaw (Itp.at oLaw (n + 20)) st (stm 17 2) = some (.nx, st.put (Str.ofString "low") (.val (.int (1 + t % 45)))) := by
  (conv in (stm _ _) => whnf); simp +decide [LSt.get_put, h]
theorem lw3 {low : Int} (h : st.get (Str.ofString "low") = some (.val (.int low))) : exS oLaw (Itp.at oLaw (n + 20)) st (stm 17 3) = some (.nx, ((st.put (Str.ofString "pairs") (.own [])).put (Str.ofString "symbols") (.own (dS (forest low [])))).put (Str.ofString "shelf") (.own (shelfD low []))) := by
  have hsw : ∀ a b c d e f, swapOk [.List a b, .List c d, .List e f] = true := fun _ _ _ _ _ _ => rfl
  (conv in (stm _ _) => whnf); simp +decide [LSt.get_put, h, hsw, dS, forest, shelfD, Tr.sym]
theorem lw4 {low : Int} (h : st.get (Str.ofString "low") = some (.val (.int low))) (h0 : 0 < low) (h1 : low ≤ 45) (hg : st.get (Str.ofString "chr") = some .glo) : exS oLaw (Itp.at oLaw (n + 20)) st (stm 17 4) = some (.nx, st.put (Str.ofString "texts") (.dct (es (forest low [])))) := by
  have hb := bi_chr low (by omega) (by omega)
  have hb2 := bi_chr 255 (by omega) (by omega)
  have hne : ¬ low = 255 := by omega
  (conv in (stm _ _) => whnf); simp +decide [LSt.get_put, h, hg, hb, hb2, hne, es, forest, Tr.sym, Tr.txt, sOf]
theorem lw5_for (I : Itp) (O : Orc) (st : LSt) : exS O I st (stm 17 5) = if O.loc (Str.ofString "x") = false then none else (itemsOf I (evV I) st (tstOf (stm 17 5))).bind fun ds => forLoop I (Str.ofString "x") (blk (stm 17 5)) st ds := rfl
theorem lw5_items {m : List Int} (hm : m.length ≤ 63) (h : st.get (Str.ofString "marks") = some (.val (.list (m.map .int)))) (hg : st.get (Str.ofString "len") = some .glo) :
    itemsOf (Itp.at oLaw (n + 20)) (evV (Itp.at oLaw (n + 20))) st (tstOf (stm 17 5)) = some ((m.take 4 ++ ([2, 1, 12, 2] : List Int).drop (m.take 4).length).map .int) := by
  have h1 : slcD (m.map Dat.int) none (some 4) = (m.take 4).map Dat.int := by
    have := slc_take (m.map Dat.int) 4
    rw [← List.map_take] at this
    exact this
  have h2 : m.length ≤ 4096 := by omega
  obtain ⟨q, hq⟩ : ∃ q, q = m.take 4 := ⟨_, rfl⟩
  rw [← hq] at h1 ⊢
  have hq4 : q.length ≤ 4 := by rw [hq, List.length_take]; omega
  have hb := bi_len (q.map Dat.int) (by rw [List.length_map]; omega)
  rw [List.length_map] at hb
  have h3 : slcD [Dat.int 2, .int 1, .int 12, .int 2] (some (q.length : Int)) none = (([2, 1, 12, 2] : List Int).drop q.length).map .int := by
    have := slc_drop ([2, 1, 12, 2].map Dat.int) q.length
    rw [← List.map_drop] at this
    exact this
  have h4 : q.length + (([2, 1, 12, 2] : List Int).drop q.length).length ≤ 4096 := by rw [List.length_drop]; simp; omega
  generalize ([2, 1, 12, 2] : List Int).drop q.length = z at *
  (conv in (stm _ _) => whnf); simp +decide [LSt.get_put, h, hg, h1, h2, h3, hb, h4]
end
end Mine
end

section
open PySem PySem.W PyProof.Rows Builtin.Str
namespace Mine
theorem evalT_congr {α : Type} {lt lt' : Nat → Nat → Bool} {n : Nat} (h : ∀ i j, i < n → j < n → lt i j = lt' i j) : ∀ t : KasT α, asksIn n t = true → evalT lt t = evalT lt' t
  | .ret _, _ => rfl
  | .ask i j k, ha => by
    unfold asksIn at ha
    rw [Bool.and_eq_true, Bool.and_eq_true, Bool.and_eq_true] at ha
    have hij := h i j (of_decide_eq_true ha.1.1.1) (of_decide_eq_true ha.1.1.2)
    show evalT lt (k (lt i j)) = evalT lt' (k (lt' i j))
    rw [← hij]
    have hk : asksIn n (k (lt i j)) = true := by
      cases lt i j
      · exact ha.2
      · exact ha.1.2
    exact evalT_congr h _ hk
noncomputable def rnk (p : List Nat) (i j : Nat) : Bool := decide (p.idxOf i < p.idxOf j)
theorem chk2 : ∀ a, a < 2 → ∀ b, b < 2 → [a, b].Nodup → (evalT (rnk [a, b]) (kas_sort 2)).toList = [a, b] := by decide +kernel
theorem chk3 : ∀ a, a < 3 → ∀ b, b < 3 → ∀ c, c < 3 → [a, b, c].Nodup → (evalT (rnk [a, b, c]) (kas_sort 3)).toList = [a, b, c] := by decide +kernel
theorem chk4b : ((List.range 4).all fun a => (List.range 4).all fun b => (List.range 4).all fun c => (List.range 4).all fun d => !decide ([a, b, c, d].Nodup) || decide ((evalT (rnk [a, b, c, d]) (kas_sort 4)).toList = [a, b, c, d])) = true := by decide +kernel
theorem chk4 (a : Nat) (ha : a < 4) (b : Nat) (hb : b < 4) (c : Nat) (hc : c < 4) (d : Nat) (hd : d < 4) (h : [a, b, c, d].Nodup) : (evalT (rnk [a, b, c, d]) (kas_sort 4)).toList = [a, b, c, d] := by
  have h1 := List.all_eq_true.mp chk4b a (List.mem_range.mpr ha)
  have h2 := List.all_eq_true.mp h1 b (List.mem_range.mpr hb)
  have h3 := List.all_eq_true.mp h2 c (List.mem_range.mpr hc)
  have h4 := List.all_eq_true.mp h3 d (List.mem_range.mpr hd)
  rw [decide_eq_true h, Bool.not_true, Bool.false_or] at h4
  exact of_decide_eq_true h4
theorem chk {n : Nat} (h2 : 2 ≤ n) (h4 : n ≤ 4) {p : List Nat} (hl : p.length = n) (hn : p.Nodup) (hp : ∀ i ∈ p, i < n) : (evalT (rnk p) (kas_sort n)).toList = p := by
  obtain rfl | rfl | rfl : n = 2 ∨ n = 3 ∨ n = 4 := by omega
  · match p, hl with
    | [a, b], _ => exact chk2 a (hp a (by simp)) b (hp b (by simp)) hn
  · match p, hl with
    | [a, b, c], _ => exact chk3 a (hp a (by simp)) b (hp b (by simp)) c (hp c (by simp)) hn
  · match p, hl with
    | [a, b, c, d], _ => exact chk4 a (hp a (by simp)) b (hp b (by simp)) c (hp c (by simp)) d (hp d (by simp)) hn
noncomputable def keyT (t : Tr) : Dat := .tuple [.str (sOf t.txt), .int (-t.sym)]
theorem keyLt_bef (s t : Tr) : keyLt (keyT s) (keyT t) = true ↔ bef s t := by
  show (if sOf s.txt = sOf t.txt then decide (-s.sym < -t.sym) else decide ((sOf s.txt).cps.toList < (sOf t.txt).cps.toList)) = true ↔ _
  unfold bef
  by_cases h : sOf s.txt = sOf t.txt
  · rw [if_pos h, decide_eq_true_eq]
    constructor
    · intro z; exact .inr ⟨h, by omega⟩
    · rintro (z | ⟨_, z⟩)
      · rw [h] at z; exact absurd z (ltS_irr _)
      · omega
  · rw [if_neg h, decide_eq_true_eq]
    constructor
    · intro z; exact .inl z
    · rintro (z | ⟨z, _⟩)
      · exact z
      · exact absurd z h
theorem bef_asym {s t : Tr} (h : bef s t) : ¬ bef t s := by
  rintro z
  rcases h with h | ⟨h, h'⟩
  · rcases z with z | ⟨z, _⟩
    · exact ltS_irr _ (ltS_trans h z)
    · rw [z] at h; exact ltS_irr _ h
  · rcases z with z | ⟨_, z⟩
    · rw [h] at z; exact ltS_irr _ z
    · omega
theorem sort_eq {ts M : List Tr} (sh : Shf ts M) (nd : ts.Nodup) (h4 : ts.length ≤ 4) : (sortIx (ts.map keyT)).map (fun i => (dS ts).getD i .none) = dS M := by
  have hlen := sh.perm.length_eq
  unfold sortIx
  rw [List.length_map]
  by_cases h2 : ts.length < 2
  · rw [if_pos h2]
    have e : M = ts := by
      match ts, M, h2, hlen, sh.perm with
      | [], [], _, _, _ => rfl
      | [a], [b], _, _, hp => rw [List.perm_singleton.mp hp]
    rw [e]
    apply List.ext_getElem
    · simp [dS]
    · intro i h1 h2
      simp [dS] at h1 h2 ⊢
      simp [h2]
  · rw [if_neg h2]
    have ex : ∀ t ∈ M, ∃ i : Nat, ts[i]? = some t := fun t m => List.getElem?_of_mem (sh.perm.mem_iff.mp m)
    obtain ⟨f, hf⟩ : ∃ f : Tr → Nat, ∀ t ∈ M, ts[f t]? = some t := by
      have : ∀ t : Tr, ∃ i : Nat, t ∈ M → ts[i]? = some t := fun t => by
        by_cases m : t ∈ M
        · obtain ⟨i, e⟩ := ex t m; exact ⟨i, fun _ => e⟩
        · exact ⟨0, fun z => absurd z m⟩
      exact Classical.axiomOfChoice this
    have ndM : M.Nodup := sh.perm.nodup_iff.mpr nd
    have fl : ∀ t ∈ M, f t < ts.length := fun t m => (List.getElem?_eq_some_iff.mp (hf t m)).1
    have finj : ∀ s ∈ M, ∀ t ∈ M, f s = f t → s = t := fun s ms t mt e => by
      have a := hf s ms
      have b := hf t mt
      rw [e, b] at a
      exact (Option.some.inj a).symm
    have hp2 : (M.map f).Nodup := by
      refine List.pairwise_map.mpr (ndM.imp_of_mem fun {a b} ha hb hab e => hab (finj a ha b hb e))
    have key := chk (n := ts.length) (by omega) h4 (p := M.map f) (by rw [List.length_map, hlen]) hp2 (fun i m => by
      obtain ⟨t, mt, rfl⟩ := List.mem_map.mp m
      exact fl t mt)
    have cong : evalT (ltAt (ts.map keyT)) (kas_sort ts.length) = evalT (rnk (M.map f)) (kas_sort ts.length) := by
      refine evalT_congr (n := ts.length) (fun i j hi hj => ?_) _ (asks_all (by omega) h4)
      have pos : ∀ i, i < ts.length → ∃ p : Nat, ∃ hp : p < M.length, ts[i]? = some M[p] ∧ f (M[p]) = i ∧ (M.map f).idxOf i = p := by
        intro i hi
        have hm : ts[i] ∈ M := sh.perm.mem_iff.mpr (List.getElem_mem hi)
        obtain ⟨p, hpM, e⟩ := List.getElem_of_mem hm
        have e1 : f (M[p]) = i := by
          have := hf (M[p]) (List.getElem_mem hpM)
          rw [e] at this
          have h3 := (List.getElem?_eq_some_iff.mp this)
          obtain ⟨h3, h5⟩ := h3
          rw [e]
          by_cases hij : f (ts[i]) = i
          · exact hij
          · exfalso
            rcases Nat.lt_or_gt_of_ne hij with q | q
            · exact (List.pairwise_iff_getElem.mp nd) _ _ h3 hi q h5
            · exact (List.pairwise_iff_getElem.mp nd) _ _ hi h3 q h5.symm
        refine ⟨p, hpM, by rw [e]; exact List.getElem?_eq_getElem hi, e1, ?_⟩
        have : (M.map f)[p]'(by rw [List.length_map]; exact hpM) = i := by rw [List.getElem_map, e1]
        rw [← this]
        exact List.Nodup.idxOf_getElem hp2 p (by rw [List.length_map]; exact hpM)
      obtain ⟨p, hpM, e1, e2, e3⟩ := pos i hi
      obtain ⟨q, hqM, e4, e5, e6⟩ := pos j hj
      unfold rnk
      rw [e3, e6]
      have g : ∀ (i : Nat) (t : Tr), ts[i]? = some t → (ts.map keyT).getD i .none = keyT t := fun i t h => by
        rw [List.getD_eq_getElem?_getD, List.getElem?_map, h]
        rfl
      unfold ltAt
      rw [g i _ e1, g j _ e4]
      have hpw := List.pairwise_iff_getElem.mp sh.srt
      by_cases hpq : p < q
      · rw [decide_eq_true hpq]
        exact (keyLt_bef _ _).mpr (hpw p q hpM hqM hpq)
      · rw [decide_eq_false hpq]
        cases hk : keyLt (keyT M[p]) (keyT M[q]) with
        | false => rfl
        | true =>
          have hb := (keyLt_bef _ _).mp hk
          exfalso
          rcases Nat.lt_or_ge q p with z | z
          · exact bef_asym hb (hpw q p hqM hpM z)
          · have : p = q := by omega
            subst this
            exact bef_asym hb hb
    rw [cong, key, List.map_map]
    unfold dS
    refine List.map_congr_left fun t m => ?_
    show (ts.map fun t => Dat.int t.sym).getD (f t) .none = _
    rw [List.getD_eq_getElem?_getD, List.getElem?_map, hf t m]
    rfl
end Mine
end

section
open PySem PySem.W PyProof.Rows Builtin.Str
namespace Mine
noncomputable def cL (s : Stmt) : Expr := pick (tstOf s) noC (cmp := fun l _ _ => l)
noncomputable def cE (s : Stmt) : Expr := cArg s 0
@[simp] theorem cL_1 (l : Expr) (o rs p B B' q) : cL (.If (.Compare l o rs p) B B' q) = l := rfl
@[simp] theorem cE_1 (s : Stmt) : cE s = cArg s 0 := rfl
theorem lw6_eq (I : Itp) (st : LSt) : exS oLaw I st (stm 17 6) = (tstSrt oLaw I st (cL (stm 17 6)) (Str.ofString "sorted") (cE (stm 17 6)) (kwLam (stm 17 6))).bind fun c => if c then I.exs st (blk (stm 17 6)) else I.exs st (els (stm 17 6)) := rfl
theorem srt_eq {O : Orc} {I : Itp} {st : LSt} {l e k : Expr} {a : Dat} {ds es : List Dat} {g : Dat → Option Dat} (hg : isGlo st (Str.ofString "sorted") = true) (hp : plainE e = true) (h1 : evD I st l = some a) (h2 : evD I st e = some (.list ds)) (h3 : lamF O st k = some g) (h4 : O.sorted ds g = some es) : tstSrt O I st l (Str.ofString "sorted") e k = cmpop .NotEq a (.list es) := by
  unfold tstSrt
  rw [if_pos ⟨rfl, hg, hp⟩, h1, h2]
  show (lamF O st k).bind _ = _
  rw [h3]
  show (O.sorted ds g).bind _ = _
  rw [h4]
  rfl
theorem ok_dS : ∀ A : List Tr, okL (dS A) = true
  | [] => rfl
  | t :: A => by
    show (okD 6 (.int t.sym) && okL (dS A)) = true
    rw [ok_dS A]; rfl
theorem any_dS (x : Int) (A : List Tr) : (dS A).any (deq 8 (.int x)) = decide (x ∈ A.map Tr.sym) := by
  have : dS A = (A.map Tr.sym).map .int := by unfold dS; rw [List.map_map]; rfl
  rw [this, any_ints]
theorem deq_dS (A B : List Tr) : deq 8 (.list (dS A)) (.list (dS B)) = decide (syms A = syms B) := by
  have : ∀ A, dS A = (syms A).map .int := fun A => by unfold dS syms; rw [List.map_map]; rfl
  rw [this, this, deq_ints]
theorem gL_srt (D : List (Int × Str)) (s : Int) : gL (kwLam (stm 17 6)) D (.int s) = (D.lookup s).map fun x => .tuple [.str x, .int (-s)] := by
  show ((evAt (bare oLaw) 20).ev [(lamX (kwLam (stm 17 6)), .val (.int s)), (Str.ofString "texts", .dct D)] (lamB (kwLam (stm 17 6)))).bind RV.stv = _
  (conv in (stm _ _) => whnf); (conv in (stm _ _) => whnf)
  cases h : D.lookup s <;> simp +decide [h]
section
variable {low tot : Int} {P : List (Int × Int)} {ts M : List Tr} {st : LSt} {n : Nat}
theorem keys_of {D : List (Int × Str)} : ∀ {A : List Tr}, (∀ t ∈ A, D.lookup t.sym = some (sOf t.txt)) → keysOf (gL (kwLam (stm 17 6)) D) (dS A) = some (A.map keyT)
  | [], _ => rfl
  | t :: A, h => by
    have ih := keys_of (D := D) (A := A) fun u m => h u (.tail _ m)
    show (((gL (kwLam (stm 17 6)) D (.int t.sym)).bind fun k => if isKd k && flatD (.int t.sym) then some k else none).bind fun b => (keysOf (gL (kwLam (stm 17 6)) D) (dS A)).bind fun bs => some (b :: bs)) = _
    rw [gL_srt, h t (.head _), ih]
    rfl
theorem shelf_mid (low : Int) (M : List Tr) : slcD (shelfD low M) (some 2) (some (-1)) = dS M := by
  rw [slc_mid]
  unfold shelfD
  have : (Dat.int low :: .int 255 :: (dS M ++ [.int 0])).dropLast = .int low :: .int 255 :: dS M := by
    rw [show (Dat.int low :: .int 255 :: (dS M ++ [.int 0])) = (Dat.int low :: .int 255 :: dS M) ++ [.int 0] from rfl, List.dropLast_concat]
  rw [this]
  rfl
theorem syms_two (low : Int) (ts : List Tr) : slcD (dS (forest low ts)) (some 2) none = dS ts := by
  have := slc_drop (dS (forest low ts)) 2
  exact this
theorem lw6 (w : Wd low P ts) (sh : Shf ts M) (h : LwS low tot P ts M st) : exS oLaw (Itp.at oLaw (n + 20)) st (stm 17 6) = some (.nx, st) := by
  have h4 := w.le4
  have hm := sh.perm.length_eq
  have g := h.hg (Str.ofString "sorted") (by decide)
  have l1 : (shelfD low M).length ≤ 4096 := by rw [shelf_len]; omega
  have l2 : (dS (forest low ts)).length ≤ 4096 := by rw [dS_len, w.flen]; omega
  have e1 : evD (Itp.at oLaw (n + 20)) st (cL (stm 17 6)) = some (.list (dS M)) := by
    (conv in (stm _ _) => whnf); simp +decide [LSt.get_put, h.hshelf, l1, shelf_mid]
  have e2 : evD (Itp.at oLaw (n + 20)) st (cE (stm 17 6)) = some (.list (dS ts)) := by
    (conv in (stm _ _) => whnf); simp +decide [LSt.get_put, h.hsyms, l2, syms_two]
  have e3 := lam_eq (l := kwLam (stm 17 6)) rfl (by decide) rfl rfl rfl h.htexts
  have e4 : oLaw.sorted (dS ts) (gL (kwLam (stm 17 6)) (es (forest low ts))) = some (dS M) := by
    show spSort (dS ts) _ = _
    unfold spSort
    rw [keys_of fun t m => w.look (List.mem_cons_of_mem _ (List.mem_cons_of_mem _ m))]
    simp only [Option.bind_some]
    have nd : ts.Nodup := by
      have := w.fnodup
      have h2 : (ts.map Tr.sym).Nodup := by
        have h3 : (low :: 255 :: ts.map Tr.sym).Nodup := this
        rw [List.nodup_cons, List.nodup_cons] at h3
        exact h3.2.2
      exact (List.pairwise_map.mp h2).imp fun hab e => hab (by rw [e])
    rw [if_pos (by rw [List.length_map]; exact h4), sort_eq sh nd h4]
  have e5 : cmpop .NotEq (.list (dS M)) (.list (dS M)) = some false := by
    rw [cmp_nel, ok_dS, if_pos (by rfl), deq_dS, decide_eq_true rfl]
    rfl
  rw [lw6_eq, srt_eq (isGlo_of _ _ g) rfl e1 e2 e3 e4, e5]
  rfl
theorem fn_term (k : Int) : oLaw.fn (Str.ofString "ISTERMINAL") [.int k] = some (.bool (decide (k < 256))) := rfl
theorem fn_nont (k : Int) : oLaw.fn (Str.ofString "ISNONTERMINAL") [.int k] = some (.bool (decide (256 ≤ k))) := rfl
theorem fn_eof (k : Int) : oLaw.fn (Str.ofString "ISEOF") [.int k] = some (.bool (decide (k = 0))) := rfl
theorem lw7_turn (w : Wd low P ts) (h : LwS low tot P ts M st) {x : Int} (a1 : x = 0 ↔ x ∉ (forest low ts).map Tr.sym) (a2 : x < 256 ↔ x ∉ ts.map Tr.sym) :
    (Itp.at oLaw (n + 24)).exs (st.put (Str.ofString "symbol") (.val (.int x))) (blk (stm 17 7)) = some (.nx, st.put (Str.ofString "symbol") (.val (.int x))) := by
  have h4 := w.le4
  have g1 := h.hg (Str.ofString "ISEOF") (by decide)
  have g2 := h.hg (Str.ofString "ISTERMINAL") (by decide)
  have g3 := h.hg (Str.ofString "ISNONTERMINAL") (by decide)
  have l2 : (dS (forest low ts)).length ≤ 4096 := by rw [dS_len, w.flen]; omega
  have hs := h.hsyms
  have o1 := ok_dS (forest low ts)
  have o2 := ok_dS ts
  have n1 := any_dS x (forest low ts)
  have n2 := any_dS x ts
  have s2 := syms_two low ts
  have o0 : okD 6 (Dat.int x) = true := rfl
  have b1 : ∀ a : Bool, (a == a) = true := fun a => by cases a <;> rfl
  generalize dS (forest low ts) = A at *
  generalize dS ts = B at *
  have c1 : decide (x ∈ (forest low ts).map Tr.sym) = !decide (x = 0) := by
    by_cases z : x = 0
    · rw [decide_eq_true z, decide_eq_false (a1.mp z)]; rfl
    · rw [decide_eq_false z]
      simp only [Bool.not_false, decide_eq_true_eq]
      exact Decidable.not_not.mp fun q => z (a1.mpr q)
  have c2 : decide (x ∈ ts.map Tr.sym) = !decide (x < 256) := by
    by_cases z : x < 256
    · rw [decide_eq_true z, decide_eq_false (a2.mp z)]; rfl
    · rw [decide_eq_false z]
      simp only [Bool.not_false, decide_eq_true_eq]
      exact Decidable.not_not.mp fun q => z (a2.mpr q)
  have c3 : decide (256 ≤ x) = !decide (x < 256) := by
    by_cases z : x < 256
    · rw [decide_eq_true z, decide_eq_false (by omega)]; rfl
    · rw [decide_eq_false z, decide_eq_true (by omega)]; rfl
  rw [c1] at n1
  rw [c2] at n2
  have f1 := fn_eof x
  have f2 := fn_term x
  have f3 := fn_nont x
  have i1 : builtin (Str.ofString "ISNONTERMINAL") [.int x] = none := rfl
  rw [c3] at f3
  generalize decide (x = 0) = p at *
  generalize decide (x < 256) = q at *
  (conv in (stm _ _) => whnf)
  cases p <;> cases q <;> simp +decide [LSt.get_put, hs, g1, g2, g3, f1, f2, f3, bi_eof, bi_term, i1, o0, o1, o2, n1, n2, l2, s2]
end
end Mine
end

section
open PySem PySem.W PyProof.Rows Builtin.Str
namespace Mine
section
variable {low tot : Int} {P : List (Int × Int)} {ts M : List Tr} {st : LSt} {n : Nat}
theorem lw7_for (I : Itp) (O : Orc) (st : LSt) : exS O I st (stm 17 7) = if O.loc (Str.ofString "symbol") = false then none else (itemsOf I (evV I) st (tstOf (stm 17 7))).bind fun ds => forLoop I (Str.ofString "symbol") (blk (stm 17 7)) st ds := rfl
theorem lw7_loop (w : Wd low P ts) : ∀ (X : List Int) (st : LSt), LwS low tot P ts M st → (∀ x ∈ X, (x = 0 ↔ x ∉ (forest low ts).map Tr.sym) ∧ (x < 256 ↔ x ∉ ts.map Tr.sym)) →
    ∃ st', forLoop (Itp.at oLaw (n + 24)) (Str.ofString "symbol") (blk (stm 17 7)) st (X.map .int) = some (.nx, st') ∧ LwS low tot P ts M st'
  | [], st, h, _ => ⟨st, rfl, h⟩
  | x :: X, st, h, hX => by
    have e := lw7_turn (n := n) w h (hX x (.head _)).1 (hX x (.head _)).2
    obtain ⟨st2, e2, h2⟩ := lw7_loop w X _ (h.put (x := Str.ofString "symbol") (l := .val (.int x)) (by decide)) fun y m => hX y (.tail _ m)
    refine ⟨st2, ?_, h2⟩
    rw [List.map_cons, for_cons, e]
    simp only [Option.bind_some]
    exact e2
theorem lw7 (w : Wd low P ts) (h : LwS low tot P ts M st) : ∃ st', exS oLaw (Itp.at oLaw (n + 24)) st (stm 17 7) = some (.nx, st') ∧ LwS low tot P ts M st' := by
  have h4 := w.le4
  have hlo := w.lo
  have hit : itemsOf (Itp.at oLaw (n + 24)) (evV (Itp.at oLaw (n + 24))) st (tstOf (stm 17 7)) = some (((forest low ts).map Tr.sym ++ [0]).map .int) := by
    have l2 : (dS (forest low ts)).length + 1 ≤ 4096 := by rw [dS_len, w.flen]; omega
    have e : dS (forest low ts) ++ [.int 0] = ((forest low ts).map Tr.sym ++ [0]).map .int := by unfold dS; rw [List.map_append, List.map_map]; rfl
    rw [← e]
    have hs := h.hsyms
    generalize dS (forest low ts) = A at *
    (conv in (stm _ _) => whnf); simp +decide [LSt.get_put, hs, l2]
  have tsym : ∀ x, x ∈ ts.map Tr.sym → 256 ≤ x := fun x m => by
    obtain ⟨t, ht, e⟩ := List.mem_map.mp m
    obtain ⟨k, _, e2, _⟩ := w.tsym t ht
    omega
  have fpos : ∀ x, x ∈ (forest low ts).map Tr.sym → x ≠ 0 := fun x m => by
    have m : x ∈ low :: 255 :: ts.map Tr.sym := m
    rcases List.mem_cons.mp m with rfl | m
    · omega
    · rcases List.mem_cons.mp m with rfl | m
      · decide
      · have := tsym x m; omega
  obtain ⟨st2, e2, h2⟩ := lw7_loop (n := n) w ((forest low ts).map Tr.sym ++ [0]) st h (fun x m => by
    rcases List.mem_append.mp m with m | m
    · refine ⟨⟨fun z => absurd z (fpos x m), fun z => absurd m z⟩, fun z m2 => ?_, fun z => ?_⟩
      · have := tsym x m2; omega
      · have m : x ∈ low :: 255 :: ts.map Tr.sym := m
        rcases List.mem_cons.mp m with rfl | m
        · omega
        · rcases List.mem_cons.mp m with rfl | m
          · decide
          · exact absurd m z
    · rw [List.mem_singleton.mp m]
      exact ⟨⟨fun _ m => fpos 0 m rfl, fun _ => rfl⟩, fun _ m => by have := tsym 0 m; omega, fun _ => by decide⟩)
  refine ⟨st2, ?_, h2⟩
  rw [lw7_for, if_neg (by decide), hit]
  exact e2
noncomputable def wordsD (M : List Tr) : List Dat := M.map fun t => .str (sOf t.txt)
theorem lw8 (w : Wd low P ts) (sh : Shf ts M) (h : LwS low tot P ts M st) : exS oLaw (Itp.at oLaw (n + 20)) st (stm 17 8) = some (.nx, st.put (Str.ofString "words") (.val (.list (wordsD M)))) := by
  have h4 := w.le4
  have hm := sh.perm.length_eq
  have l1 : (shelfD low M).length ≤ 4096 := by rw [shelf_len]; omega
  have hit : itemsOf (Itp.at oLaw (n + 20)) (evD (Itp.at oLaw (n + 20))) st (gI (rhs (stm 17 8))) = some (dS M) := by
    have l2 : (dS M).length ≤ 4096 := by rw [dS_len]; omega
    have sm := shelf_mid low M
    have hs := h.hshelf
    generalize shelfD low M = A at *
    generalize dS M = B at *
    (conv in (stm _ _) => whnf); simp +decide [LSt.get_put, hs, sm, l1, l2]
  have ht := h.htexts
  have hfr : freeOf oLaw.capt st (gS (rhs (stm 17 8))).names = some [(Str.ofString "texts", .dct (es (forest low ts)))] := by
    show (match st.get (Str.ofString "texts") with
        | some .glo => none
        | some l => if oLaw.capt (Str.ofString "texts") then (freeOf oLaw.capt st []).map ((Str.ofString "texts", l) :: ·) else none
        | none => none) = _
    rw [ht]
    rfl
  have key := lc_map (O := oLaw) (I := Itp.at oLaw (n + 20)) (st := st) (cap := [(Str.ofString "texts", .dct (es (forest low ts)))]) (e := rhs (stm 17 8)) (fun d => match d with | .int s => (((es (forest low ts)).lookup s).map .str).getD .none | d => d) rfl (by decide) hfr hit (fun d m => by
    obtain ⟨t, mt, rfl⟩ := List.mem_map.mp m
    have l := w.look (List.mem_cons_of_mem _ (List.mem_cons_of_mem _ (sh.perm.mem_iff.mp mt)))
    (conv in (occs := *) (stm _ _) => all_goals whnf); simp +decide [LSt.get_put, l]) (by rw [dS_len]; omega)
  have e : (dS M).map (fun d => match d with | .int s => (((es (forest low ts)).lookup s).map Dat.str).getD .none | d => d) = wordsD M := by
    unfold dS wordsD
    rw [List.map_map]
    refine List.map_congr_left fun t mt => ?_
    have l := w.look (List.mem_cons_of_mem _ (List.mem_cons_of_mem _ (sh.perm.mem_iff.mp mt)))
    show (((es (forest low ts)).lookup t.sym).map Dat.str).getD .none = _
    rw [l]
    rfl
  rw [e] at key
  show (bindE oLaw (Itp.at oLaw (n + 20)) st (Str.ofString "words") (rhs (stm 17 8))).map _ = _
  show (((evF oLaw (Itp.at oLaw (n + 20)) st (rhs (stm 17 8))).map fun ds => (LV.val (.list ds), st)).map _) = _
  rw [key]
  rfl
theorem lw9 (w : Wd low P ts) (h : LwS low tot P ts M st) : exS oLaw (Itp.at oLaw (n + 20)) st (stm 17 9) = some (.nx, st.put (Str.ofString "whole") (.own (dS [.lf low, .lf 255]))) := by
  have h4 := w.le4
  have l2 : (dS (forest low ts)).length ≤ 4096 := by rw [dS_len, w.flen]; omega
  have e : slcD (dS (forest low ts)) none (some 2) = dS [.lf low, .lf 255] := slc_take (dS (forest low ts)) 2
  have hs := h.hsyms
  generalize dS (forest low ts) = A at *
  (conv in (stm _ _) => whnf); simp +decide [LSt.get_put, hs, l2, e]
end
noncomputable def Tr.goodB (P : List (Int × Int)) : Tr → Bool
  | .lf _ => true
  | .nd j l r => l.goodB P && r.goodB P && alB P (256 + (j : Int)) l r
section
variable {low tot : Int} {P : List (Int × Int)} {ts M : List Tr} {st : LSt} {n : Nat}
theorem Wd.mem_of (w : Wd low P ts) {t : Tr} (hw : t.Wf P) (hl : ∀ x ∈ t.txt, x = low ∨ x = 255) : t ∈ forest low ts := by
  cases t with
  | lf c =>
    rcases hl c (by simp [Tr.txt]) with rfl | rfl
    · exact .head _
    · exact .tail _ (.head _)
  | nd k l r =>
    have hk := (List.getElem?_eq_some_iff.mp hw.1).1
    rw [w.len] at hk
    have e := List.getElem?_eq_getElem hk
    have h1 := w.sym k _ e
    have h2 : (Tr.nd k l r) = ts[k] := Tr.wf_inj hw (w.wf _ (List.getElem_mem hk)) (by rw [h1]; rfl)
    rw [h2]
    exact List.mem_cons_of_mem _ (List.mem_cons_of_mem _ (List.getElem_mem hk))
theorem Wd.kids (w : Wd low P ts) {k : Nat} {l r : Tr} (h : Tr.nd k l r ∈ forest low ts) : l ∈ forest low ts ∧ r ∈ forest low ts := by
  have hw := w.fwf _ h
  have hl := w.flets _ h
  exact ⟨w.mem_of hw.2.2.2.1 fun x m => hl x (List.mem_append_left _ m), w.mem_of hw.2.2.2.2 fun x m => hl x (List.mem_append_right _ m)⟩
theorem Wd.good_iff (w : Wd low P ts) : ∀ {t : Tr}, t ∈ forest low ts → (t.goodB P = true ↔ t.Good P)
  | .lf _, _ => ⟨fun _ => trivial, fun _ => rfl⟩
  | .nd k l r, h => by
    obtain ⟨hl, hr⟩ := w.kids h
    have hw := w.fwf _ h
    show (l.goodB P && r.goodB P && alB P (256 + (k : Int)) l r) = true ↔ (l.Good P ∧ r.Good P ∧ Al P (256 + (k : Int)) l r)
    rw [Bool.and_eq_true, Bool.and_eq_true, w.good_iff hl, w.good_iff hr, w.alB_iff hl hr hw.2.1 hw.2.2.1, and_assoc]
end
end Mine
end

section
open PySem PySem.W PyProof.Rows Builtin.Str
namespace Mine
theorem fn_along (ds : List Dat) : oLaw.fn (Str.ofString "_law_along") ds = spAlong ds := rfl
theorem bi_along (a b c d : Dat) : builtin (Str.ofString "_law_along") [a, b, c, d] = none := by cases a <;> rfl
noncomputable def wholeT (P : List (Int × Int)) (low : Int) (ts : List Tr) : List Tr := (forest low ts).filter (Tr.goodB P)
section
variable {low tot : Int} {P : List (Int × Int)} {ts M : List Tr} {st : LSt} {n : Nat}
theorem take_snoc {k : Nat} {t : Tr} (h : ts[k]? = some t) : ts.take (k + 1) = ts.take k ++ [t] := by
  rw [List.take_add_one, h]; rfl
theorem whole_snoc {k : Nat} {t : Tr} (h : ts[k]? = some t) : wholeT P low (ts.take (k + 1)) = wholeT P low (ts.take k) ++ (if t.goodB P then [t] else []) := by
  unfold wholeT
  rw [take_snoc h, forest_snoc, List.filter_append]
  congr 1
  rw [List.filter_cons]
  rfl
theorem whole_mem (w : Wd low P ts) {k : Nat} {t : Tr} (ht : t ∈ forest low ts) (hk : t.sym < 256 + (k : Int)) (hkl : k ≤ ts.length) : t.sym ∈ (wholeT P low (ts.take k)).map Tr.sym ↔ t.goodB P = true := by
  have sub : ∀ u, u ∈ forest low (ts.take k) → u ∈ forest low ts := fun u m => by
    rcases List.mem_cons.mp m with rfl | m
    · exact .head _
    · rcases List.mem_cons.mp m with rfl | m
      · exact .tail _ (.head _)
      · exact .tail _ (.tail _ (List.mem_of_mem_take m))
  constructor
  · intro m
    obtain ⟨u, hu, e⟩ := List.mem_map.mp m
    obtain ⟨h1, h2⟩ := List.mem_filter.mp hu
    have := w.inj (sub u h1) ht e
    rw [← this]; exact h2
  · intro g
    refine List.mem_map.mpr ⟨t, List.mem_filter.mpr ⟨?_, g⟩, rfl⟩
    rcases List.mem_cons.mp ht with rfl | m
    · exact .head _
    · rcases List.mem_cons.mp m with rfl | m
      · exact .tail _ (.head _)
      · obtain ⟨j, hj, e, e2⟩ := w.tsym t m
        refine .tail _ (.tail _ (List.mem_of_getElem? (i := j) ?_))
        rw [List.getElem?_take_of_lt (by omega)]
        exact e2
theorem whole_len (k : Nat) : (wholeT P low (ts.take k)).length ≤ ts.length + 2 := by
  unfold wholeT
  refine Nat.le_trans (List.length_filter_le _ _) ?_
  show (ts.take k).length + 2 ≤ _
  exact Nat.add_le_add_right (List.length_take_le' _ _) 2
theorem lw10_turn (w : Wd low P ts) (h : LwS low tot P ts M st) {k : Nat} (hk : k < ts.length) (hw : st.get (Str.ofString "whole") = some (.own (dS (wholeT P low (ts.take k))))) :
    ∃ st', (Itp.at oLaw (n + 24)).exs (st.put (Str.ofString "k") (.val (.int (k : Int)))) (blk (stm 17 10)) = some (.nx, st') ∧ LwS low tot P ts M st' ∧ st'.get (Str.ofString "whole") = some (.own (dS (wholeT P low (ts.take (k + 1))))) ∧ st'.get (Str.ofString "words") = st.get (Str.ofString "words") := by
  have h4 := w.le4
  have hl := w.len
  have e := List.getElem?_eq_getElem hk
  obtain ⟨t, ht⟩ : ∃ t, t = ts[k] := ⟨_, rfl⟩
  rw [← ht] at e
  have hm : t ∈ ts := List.mem_of_getElem? e
  have hmF : t ∈ forest low ts := .tail _ (.tail _ hm)
  have hs := w.sym k t e
  have hwf := w.wf t hm
  cases t with
  | lf c => exact absurd hs (no256 (Int.le_of_lt_add_one hwf.2))
  | nd j l r =>
    have hj : j = k := sym_inj hs
    subst hj
    obtain ⟨ml, mr⟩ := w.kids hmF
    have h1 : idxAt (List.map dPair P) ((j : Int)) = some j := idxNat _ _ (by rw [List.length_map, w.len]; exact hk) (by rw [List.length_map]; exact Nat.le_trans w.plen (by decide))
    have i0 : idxAt [Dat.int l.sym, .int r.sym] 0 = some 0 := rfl
    have i1 : idxAt [Dat.int l.sym, .int r.sym] 1 = some 1 := rfl
    have c1 := whole_mem w ml hwf.2.1 (Nat.le_of_lt hk)
    have c2 := whole_mem w mr hwf.2.2.1 (Nat.le_of_lt hk)
    have al := w.along ml mr hwf.2.1 hwf.2.2.1
    have ws := whole_snoc (P := P) (low := low) e
    have wl := whole_len (P := P) (low := low) (ts := ts) j
    have hp := hwf.1
    have hpr := h.hpairs
    have g1 := h.hg (Str.ofString "_law_along") (by decide)
    obtain ⟨W, hW⟩ : ∃ W, W = wholeT P low (ts.take j) := ⟨_, rfl⟩
    rw [← hW] at c1 c2 ws wl hw
    have o0 : ∀ x, okD 6 (Dat.int x) = true := fun _ => rfl
    have o1 := ok_dS W
    have n1 := any_dS l.sym W
    have n2 := any_dS r.sym W
    have d1 : decide (l.sym ∈ W.map Tr.sym) = l.goodB P := by
      cases hg : l.goodB P with
      | true => exact decide_eq_true (c1.mpr hg)
      | false => exact decide_eq_false fun z => by rw [c1.mp z] at hg; cases hg
    have d2 : decide (r.sym ∈ W.map Tr.sym) = r.goodB P := by
      cases hg : r.goodB P with
      | true => exact decide_eq_true (c2.mpr hg)
      | false => exact decide_eq_false fun z => by rw [c2.mp z] at hg; cases hg
    rw [d1] at n1
    rw [d2] at n2
    have gg : (Tr.nd j l r).goodB P = (l.goodB P && r.goodB P && alB P (256 + (j : Int)) l r) := rfl
    have hk' := h.put (x := Str.ofString "k") (l := .val (.int (j : Int))) (by decide)
    have hwl : (dS W).length ≤ 4096 := by rw [dS_len]; exact Nat.le_trans wl (Nat.le_trans (Nat.add_le_add_right w.le4 2) (by decide))
    obtain ⟨a, ha⟩ : ∃ a, a = l.goodB P := ⟨_, rfl⟩
    obtain ⟨b, hb⟩ : ∃ b, b = r.goodB P := ⟨_, rfl⟩
    obtain ⟨c, hc⟩ : ∃ c, c = alB P (256 + (j : Int)) l r := ⟨_, rfl⟩
    rw [← ha] at n1 gg
    rw [← hb] at n2 gg
    rw [← hc] at al gg
    rw [gg] at ws
    obtain ⟨st1, e1⟩ : ∃ st1, st1 = st.put (Str.ofString "k") (.val (.int (j : Int))) := ⟨_, rfl⟩
    have sk : st1.get (Str.ofString "k") = some (.val (.int (j : Int))) := e1 ▸ spt
    have sw : st1.get (Str.ofString "whole") = some (.own (dS W)) := e1 ▸ npt hw rfl
    have so : st1.get (Str.ofString "words") = st.get (Str.ofString "words") := e1 ▸ npt rfl rfl
    rw [← e1] at hk' ⊢
    have tt : tst (Itp.at oLaw (n + 23)) st1 (tstOf (bs (stm 17 10) 0)) = some (a && b && c) := by
      have hpr := hk'.hpairs
      have g1 := hk'.hg (Str.ofString "_law_along") (by decide)
      generalize dS W = A at *
      (conv in (bs _ _) => whnf); simp +decide [sk, sw, hpr, g1, h1, hp, dPair, dI, i0, i1, o0, o1, n1, n2, al, fn_along, bi_along]
      cases a <;> cases b <;> rfl
    show ∃ st', (Itp.at oLaw (n + 24)).exs st1 [bs (stm 17 10) 0] = _ ∧ _
    cases habc : a && b && c with
    | true =>
      rw [habc] at tt
      rw [habc, if_pos rfl] at ws
      refine ⟨st1.put (Str.ofString "whole") (.own (dS W ++ [.int (256 + (j : Int))])), ex_cons ?_ rfl, hk'.put (by decide), ?_, npt so rfl⟩
      · rw [if_t (fun _ _ => rfl) tt]
        generalize dS W = A at *
        (conv in (bs _ _) => whnf); simp +decide [sk, sw, hwl]
      · rw [spt, ws, ← dS_snoc]
        rfl
    | false =>
      rw [habc] at tt
      rw [habc, if_neg (by decide), List.append_nil] at ws
      refine ⟨st1, ex_cons ?_ rfl, hk', ?_, so⟩
      · rw [if_f (fun _ _ => rfl) tt]
        rfl
      · rw [ws]; exact sw
theorem lw10_for (I : Itp) (O : Orc) (st : LSt) : exS O I st (stm 17 10) = if O.loc (Str.ofString "k") = false then none else (itemsOf I (evV I) st (tstOf (stm 17 10))).bind fun ds => forLoop I (Str.ofString "k") (blk (stm 17 10)) st ds := rfl
theorem lw10_loop (w : Wd low P ts) : ∀ (m k : Nat) (st : LSt), k + m = ts.length → LwS low tot P ts M st → st.get (Str.ofString "whole") = some (.own (dS (wholeT P low (ts.take k)))) →
    ∃ st', forLoop (Itp.at oLaw (n + 24)) (Str.ofString "k") (blk (stm 17 10)) st ((List.range' k m).map fun i => .int (i : Nat)) = some (.nx, st') ∧ LwS low tot P ts M st' ∧ st'.get (Str.ofString "whole") = some (.own (dS (wholeT P low ts))) ∧ st'.get (Str.ofString "words") = st.get (Str.ofString "words")
  | 0, k, st, hk, h, hw => ⟨st, rfl, h, by rw [hw, List.take_of_length_le (show ts.length ≤ k from Nat.le_of_eq hk.symm)], rfl⟩
  | m + 1, k, st, hk, h, hw => by
    obtain ⟨st1, e1, h1, w1, v1⟩ := lw10_turn (n := n) w h (by omega) hw
    obtain ⟨st2, e2, h2, w2, v2⟩ := lw10_loop w m (k + 1) st1 (by omega) h1 w1
    refine ⟨st2, ?_, h2, w2, v2.trans v1⟩
    rw [List.range'_succ, List.map_cons, for_cons, e1]
    simp only [Option.bind_some]
    exact e2
theorem lw10 (w : Wd low P ts) (h : LwS low tot P ts M st) (hw : st.get (Str.ofString "whole") = some (.own (dS [.lf low, .lf 255]))) :
    ∃ st', exS oLaw (Itp.at oLaw (n + 24)) st (stm 17 10) = some (.nx, st') ∧ LwS low tot P ts M st' ∧ st'.get (Str.ofString "whole") = some (.own (dS (wholeT P low ts))) ∧ st'.get (Str.ofString "words") = st.get (Str.ofString "words") := by
  have h4 := w.le4
  have hl := w.len
  have hit : itemsOf (Itp.at oLaw (n + 24)) (evV (Itp.at oLaw (n + 24))) st (tstOf (stm 17 10)) = some ((List.range' 0 ts.length).map fun i => .int (i : Nat)) := by
    have hb := bi_len (P.map dPair) (by rw [List.length_map]; exact Nat.le_trans w.plen (by decide))
    rw [List.length_map, hl] at hb
    have k1 := h.hg (Str.ofString "range") (by decide)
    have k2 := h.hg (Str.ofString "len") (by decide)
    have hp := h.hpairs
    have h1 : (ts.length : Int) ≤ 4096 := Int.ofNat_le.mpr (Nat.le_trans w.le4 (by decide))
    have e : List.range' 0 ts.length = List.range ts.length := List.range_eq_range'.symm
    rw [e]
    generalize P.map dPair = A at *
    (conv in (stm _ _) => whnf); simp +decide [LSt.get_put, isGlo_of, k1, k2, hp, hb, h1]
  obtain ⟨st2, e2, h2, w2, v2⟩ := lw10_loop (n := n) w ts.length 0 st (Nat.zero_add _) h hw
  refine ⟨st2, ?_, h2, w2, v2⟩
  rw [lw10_for, if_neg (by decide), hit]
  exact e2
end
end Mine
end

section
open PySem PySem.W PyProof.Rows Builtin.Str
namespace Mine
noncomputable def jArg : Expr := pick (rhs (stm 17 11)) (rhs (stm 17 11)) (call := fun _ as _ _ => as.headD noC)
noncomputable def selN (z : Int) : Nat := if z % 2 = 0 then 0 else 1
noncomputable def pk (low z : Int) : Int := if z % 2 = 0 then low else 255
theorem idx2 (low z : Int) : idxAt [Dat.int low, .int 255] (z % 2) = some (selN z) := by
  unfold selN
  by_cases h : z % 2 = 0
  · rw [h, if_pos rfl]; rfl
  · have : z % 2 = 1 := by omega
    rw [this, if_neg (by decide)]; rfl
theorem pick2 (low z : Int) : [Dat.int low, .int 255][selN z]? = some (.int (pk low z)) := by
  unfold selN pk
  by_cases h : z % 2 = 0
  · rw [if_pos h, if_pos h]; rfl
  · rw [if_neg h, if_neg h]; rfl
theorem join4 (a b c d : Nat) : meth (Str.ofString "join") (.str (Str.ofString "")) [.list [.str ⟨#[a]⟩, .str ⟨#[b]⟩, .str ⟨#[c]⟩, .str ⟨#[d]⟩]] = some (.str ⟨#[a, b, c, d]⟩) := rfl
section
variable {low tot : Int} {P : List (Int × Int)} {ts M : List Tr} {st : LSt} {n : Nat}
theorem lw11 (w : Wd low P ts) (h : LwS low tot P ts M st) : ∃ fr : List Int, fr.length = 4 ∧ (∀ x ∈ fr, x = low ∨ x = 255) ∧ exS oLaw (Itp.at oLaw (n + 20)) st (stm 17 11) = some (.nx, st.put (Str.ofString "front") (.val (.str (sOf fr)))) := by
  have hlo := w.lo
  have hchr : ∀ z, builtin (Str.ofString "chr") [.int (pk low z)] = some (.str ⟨#[(pk low z).toNat]⟩) := fun z => by
    refine bi_chr _ ?_ ?_
    · unfold pk; split <;> omega
    · unfold pk; split <;> omega
  have g1 := h.hg (Str.ofString "range") (by decide)
  have hfr : freeOf oLaw.capt st (gS jArg).names = some [(Str.ofString "chr", .glo), (Str.ofString "low", .val (.int low)), (Str.ofString "total", .val (.int tot))] := by
    show (match st.get (Str.ofString "low") with
        | some .glo => none
        | some l => if oLaw.capt (Str.ofString "low") then (match st.get (Str.ofString "total") with
            | some .glo => none
            | some l => if oLaw.capt (Str.ofString "total") then (freeOf oLaw.capt st []).map ((Str.ofString "total", l) :: ·) else none
            | none => none).map ((Str.ofString "low", l) :: ·) else none
        | none => none).map ((Str.ofString "chr", LV.glo) :: ·) = _
    rw [h.hlow, h.htot]
    rfl
  have hit : itemsOf (Itp.at oLaw (n + 18)) (evD (Itp.at oLaw (n + 18))) st (gI jArg) = some [.int 0, .int 1, .int 2, .int 3] := by
    have e : (List.range 4).map (fun i : Nat => Dat.int (i : Int)) = [.int 0, .int 1, .int 2, .int 3] := rfl
    (conv in jArg => whnf); simp +decide [LSt.get_put, isGlo_of, g1]
    exact e
  have key := lc_map (O := oLaw) (I := Itp.at oLaw (n + 18)) (st := st) (cap := [(Str.ofString "chr", .glo), (Str.ofString "low", .val (.int low)), (Str.ofString "total", .val (.int tot))]) (e := jArg)
    (fun d => match d with | .int k => .str ⟨#[(pk low ((tot / 45 + 22) / 2 ^ k.toNat)).toNat]⟩ | d => d) rfl (by decide) hfr hit (fun d m => by
    simp only [List.mem_cons, List.not_mem_nil, or_false] at m
    (conv in jArg => whnf); (conv in jArg => whnf)
    rcases m with rfl | rfl | rfl | rfl <;> simp +decide [LSt.get_put, idx2, pick2, hchr]) (by simp)
  have key2 : evF oLaw (Itp.at oLaw (n + 18)) st jArg = some [.str ⟨#[(pk low ((tot / 45 + 22) / 2 ^ 0)).toNat]⟩, .str ⟨#[(pk low ((tot / 45 + 22) / 2 ^ 1)).toNat]⟩, .str ⟨#[(pk low ((tot / 45 + 22) / 2 ^ 2)).toNat]⟩, .str ⟨#[(pk low ((tot / 45 + 22) / 2 ^ 3)).toNat]⟩] := key
  clear key
  refine ⟨[pk low ((tot / 45 + 22) / 2 ^ 0), pk low ((tot / 45 + 22) / 2 ^ 1), pk low ((tot / 45 + 22) / 2 ^ 2), pk low ((tot / 45 + 22) / 2 ^ 3)], rfl, fun x m => ?_, ?_⟩
  · have : ∀ z, pk low z = low ∨ pk low z = 255 := fun z => by unfold pk; split; exact .inl rfl; exact .inr rfl
    simp only [List.mem_cons, List.not_mem_nil, or_false] at m
    rcases m with rfl | rfl | rfl | rfl <;> exact this _
  · generalize pk low ((tot / 45 + 22) / 2 ^ 0) = a at *
    generalize pk low ((tot / 45 + 22) / 2 ^ 1) = b at *
    generalize pk low ((tot / 45 + 22) / 2 ^ 2) = c at *
    generalize pk low ((tot / 45 + 22) / 2 ^ 3) = d at *
    have j4 := join4 a.toNat b.toNat c.toNat d.toNat
    (conv at key2 in jArg => whnf); simp +decide at key2
    (conv in (stm _ _) => whnf); simp +decide [LSt.get_put, key2, j4, sOf]
theorem lw12 : exS oLaw (Itp.at oLaw (n + 20)) st (stm 17 12) = some (.nx, st.put (Str.ofString "rows") (.own [.list []])) := by
  (conv in (stm _ _) => whnf); simp +decide [LSt.get_put]
theorem lw15 : exS oLaw (Itp.at oLaw (n + 20)) st (stm 17 15) = some (.nx, st.put (Str.ofString "made_rows") (.own [])) := by
  (conv in (stm _ _) => whnf); simp +decide [LSt.get_put]
end
end Mine
end

section
open PySem PySem.W PyProof.Rows Builtin.Str
namespace Mine
noncomputable def Lets (low : Int) (xs : List Int) : Prop := ∀ x ∈ xs, x = low ∨ x = 255
structure RowOf (low : Int) (P : List (Int × Int)) (ts : List Tr) (xs : List Int) (R : List Tr) : Prop where
  val : Valid P 999 R
  txt : txtR R = xs
  mem : ∀ t ∈ R, t ∈ forest low ts
section
variable {low tot : Int} {P : List (Int × Int)} {ts M : List Tr}
theorem Wd.b999 (w : Wd low P ts) : 256 + (P.length : Int) ≤ 999 := Int.le_trans (Int.add_le_add_left (Int.ofNat_le.mpr w.plen) 256) (by decide)
theorem Wd.lt999 (w : Wd low P ts) {t : Tr} (h : t ∈ forest low ts) : t.sym < 999 := Int.lt_of_lt_of_le (w.fsym_lt h) (Int.le_trans (Int.add_le_add_left (Int.ofNat_le.mpr w.le4) 256) (by decide))
theorem Wd.letR (w : Wd low P ts) {xs : List Int} (h : Lets low xs) : ∀ x ∈ xs, 0 < x ∧ x < 256 := fun x m => by
  rcases h x m with rfl | rfl
  · exact ⟨w.lo.1, Int.lt_of_le_of_lt w.lo.2 (by decide)⟩
  · exact ⟨by decide, by decide⟩
theorem Wd.rowOf (w : Wd low P ts) {xs : List Int} (h : Lets low xs) : ∃ R, RowOf low P ts xs R := by
  obtain ⟨R, r1, r2, r3, r4⟩ := joined_exists w.pwf (w.letR h)
  refine ⟨R, r1.up (Int.le_refl _), r3, fun t m => w.mem_of (r1.wf t m) fun x hx => h x ?_⟩
  rw [← r3]
  exact List.mem_flatMap.mpr ⟨t, m, hx⟩
theorem RowOf.syms (w : Wd low P ts) {xs : List Int} {R : List Tr} (h : RowOf low P ts xs R) : syms R = joinT P xs := by
  have := joined_valid w.b999 h.val fun t m => wf_lt (h.val.wf t m)
  rw [h.txt] at this
  exact this.symm
theorem RowOf.uniq (w : Wd low P ts) {xs : List Int} {R S : List Tr} (h : RowOf low P ts xs R) (h' : RowOf low P ts xs S) : R = S :=
  syms_inj h.val.wf h'.val.wf ((h.syms w).trans (h'.syms w).symm)
theorem RowOf.nil : RowOf low P ts [] [] := ⟨⟨fun _ m => (nomatch m), fun _ m => (nomatch m), trivial⟩, rfl, fun _ m => nomatch m⟩
theorem txt_ne (t : Tr) : t.txt ≠ [] := fun e => by
  have := (sp_len t).2.2
  rw [e] at this
  exact absurd this (by decide)
theorem RowOf.init {xs : List Int} {R : List Tr} {t : Tr} (h : RowOf low P ts xs (R ++ [t])) : RowOf low P ts (xs.take (xs.length - t.txt.length)) R ∧ t.txt <:+ xs ∧ t.txt.length ≤ xs.length := by
  have e : txtR R ++ t.txt = xs := by rw [← h.txt, txtR_app]; exact congrArg _ (List.append_nil _).symm
  have hl : xs.length - t.txt.length = (txtR R).length := by rw [← e, List.length_append, Nat.add_sub_cancel]
  refine ⟨⟨⟨fun u m => h.val.wf u (List.mem_append_left _ m), fun u m => h.val.good u (List.mem_append_left _ m), (adj_app.mp h.val.adj).1⟩, ?_, fun u m => h.mem u (List.mem_append_left _ m)⟩, ⟨_, e⟩, ?_⟩
  · rw [hl, ← e, List.take_left]
  · rw [← e, List.length_append]; exact Nat.le_add_left _ _
noncomputable def onB (P : List (Int × Int)) (R : List Tr) (t : Tr) : Bool := match R.getLast? with
  | none => true
  | some u => alB P 999 u t
theorem RowOf.snoc (w : Wd low P ts) {xs : List Int} {R : List Tr} {t : Tr} (h : RowOf low P ts xs R) (ht : t ∈ forest low ts) (hg : t.goodB P = true) (ho : onB P R t = true) : RowOf low P ts (xs ++ t.txt) (R ++ [t]) := by
  refine ⟨⟨fun u m => ?_, fun u m => ?_, adj_app.mpr ⟨h.val.adj, trivial, fun a b ha hb => ?_⟩⟩, ?_, fun u m => ?_⟩
  · rcases List.mem_append.mp m with m | m
    · exact h.val.wf u m
    · rw [List.mem_singleton.mp m]; exact w.fwf t ht
  · rcases List.mem_append.mp m with m | m
    · exact h.val.good u m
    · rw [List.mem_singleton.mp m]; exact (w.good_iff ht).mp hg
  · cases hb
    unfold onB at ho
    rw [ha] at ho
    have hm := h.mem a (List.mem_of_getLast? ha)
    exact (w.alB_iff hm ht (w.lt999 hm) (w.lt999 ht)).mp ho
  · rw [txtR_app, h.txt]; exact congrArg _ (List.append_nil _)
  · rcases List.mem_append.mp m with m | m
    · exact h.mem u m
    · rw [List.mem_singleton.mp m]; exact ht
theorem RowOf.last (w : Wd low P ts) {xs : List Int} {R : List Tr} {t : Tr} (h : RowOf low P ts xs (R ++ [t])) : t ∈ forest low ts ∧ t.goodB P = true ∧ onB P R t = true := by
  have hm := List.mem_append_right R (List.mem_singleton_self t)
  have ht := h.mem t hm
  refine ⟨ht, (w.good_iff ht).mpr (h.val.good t hm), ?_⟩
  unfold onB
  cases hl : R.getLast? with
  | none => rfl
  | some u =>
    have hm := h.mem u (List.mem_append_left _ (List.mem_of_getLast? hl))
    exact (w.alB_iff hm ht (w.lt999 hm) (w.lt999 ht)).mpr ((adj_app.mp h.val.adj).2.2 u t hl rfl)
noncomputable def fitB (P : List (Int × Int)) (TR : List Int → List Tr) (xs : List Int) (t : Tr) : Bool := decide (t.txt <:+ xs) && onB P (TR (xs.take (xs.length - t.txt.length))) t
theorem lets_take {xs : List Int} (h : Lets low xs) (k : Nat) : Lets low (xs.take k) := fun x m => h x (List.mem_of_mem_take m)
theorem fil_uniq {α : Type} {p : α → Bool} {s : α} {A : List α} : A.Nodup → s ∈ A → (∀ t ∈ A, p t = true ↔ t = s) → A.filter p = [s] := by
  induction A with
  | nil => exact fun _ m => nomatch m
  | cons a A ih =>
    intro nd m h
    rw [List.nodup_cons] at nd
    rw [List.filter_cons]
    by_cases ha : a = s
    · subst ha
      rw [(h a (.head _)).mpr rfl, if_pos rfl, List.filter_eq_nil_iff.mpr fun t mt hp => nd.1 ((h t (.tail _ mt)).mp hp ▸ mt)]
    · rw [Bool.eq_false_iff.mpr fun hp => ha ((h a (.head _)).mp hp), if_neg (by decide)]
      exact ih nd.2 ((List.mem_cons.mp m).resolve_left fun z => ha z.symm) fun t mt => h t (.tail _ mt)
theorem Wd.wholeNodup (w : Wd low P ts) : (wholeT P low ts).Nodup := by
  have h : (forest low ts).Nodup := (List.pairwise_map.mp w.fnodup).imp fun hab e => hab (by rw [e])
  exact h.filter _
theorem fit_one (w : Wd low P ts) {TR : List Int → List Tr} (hT : ∀ xs, Lets low xs → RowOf low P ts xs (TR xs)) {xs : List Int} (hx : Lets low xs) (hne : xs ≠ []) :
    ∃ s, (wholeT P low ts).filter (fitB P TR xs) = [s] ∧ s.txt.length ≤ xs.length ∧ TR (xs.take (xs.length - s.txt.length)) ++ [s] = TR xs := by
  have hR := hT xs hx
  obtain ⟨R', s, e⟩ : ∃ R' s, TR xs = R' ++ [s] := by
    rcases List.eq_nil_or_concat (TR xs) with e | ⟨R', s, e⟩
    · rw [e] at hR; exact absurd hR.txt.symm hne
    · exact ⟨R', s, by rw [e, List.concat_eq_append]⟩
  rw [e] at hR
  obtain ⟨i1, i2, i3⟩ := hR.init
  obtain ⟨l1, l2, l3⟩ := hR.last w
  have e2 : TR (xs.take (xs.length - s.txt.length)) = R' := (hT _ (lets_take hx _)).uniq w i1
  refine ⟨s, fil_uniq w.wholeNodup (List.mem_filter.mpr ⟨l1, l2⟩) fun t mt => ?_, i3, by rw [e2, e]⟩
  obtain ⟨m1, m2⟩ := List.mem_filter.mp mt
  unfold fitB
  rw [Bool.and_eq_true, decide_eq_true_eq]
  constructor
  · rintro ⟨h1, h2⟩
    have h3 := (hT _ (lets_take hx (xs.length - t.txt.length))).snoc w m1 m2 h2
    have h4 : xs.take (xs.length - t.txt.length) ++ t.txt = xs := by
      obtain ⟨A, hA⟩ := h1
      have : xs.length - t.txt.length = A.length := by rw [← hA, List.length_append, Nat.add_sub_cancel]
      rw [this, ← hA, List.take_left]
    rw [h4] at h3
    have h5 := h3.uniq w hR
    exact List.cons.inj (List.append_inj_right' h5 rfl) |>.1
  · rintro rfl
    exact ⟨i2, by rw [e2]; exact l3⟩
end
end Mine
end

section
open PySem PySem.W PyProof.Rows Builtin.Str
namespace Mine
theorem sOf_nS (xs : List Int) : sOf xs = nS (xs.map Int.toNat) := rfl
theorem dots_str : Str.ofString "..." = nS dots := by congr 1
theorem map_inj_nat : ∀ {xs ys : List Int}, (∀ x ∈ xs, 0 ≤ x) → (∀ y ∈ ys, 0 ≤ y) → xs.map Int.toNat = ys.map Int.toNat → xs = ys
  | [], [], _, _, _ => rfl
  | [], _ :: _, _, _, e => nomatch e
  | _ :: _, [], _, _, e => nomatch e
  | x :: xs, y :: ys, hx, hy, e => by
    rw [List.map_cons, List.map_cons] at e
    injection e with e1 e2
    have a := hx x (.head _)
    have b := hy y (.head _)
    rw [map_inj_nat (fun z m => hx z (.tail _ m)) (fun z m => hy z (.tail _ m)) e2, ((Int.toNat_of_nonneg a).symm.trans (congrArg Int.ofNat e1)).trans (Int.toNat_of_nonneg b)]
theorem suf_nat {xs ys : List Int} (hx : ∀ x ∈ xs, 0 ≤ x) (hy : ∀ y ∈ ys, 0 ≤ y) : xs.map Int.toNat <:+ ys.map Int.toNat ↔ xs <:+ ys := by
  constructor
  · intro h
    have h1 := List.suffix_iff_eq_drop.mp h
    rw [List.length_map, List.length_map, ← List.map_drop] at h1
    have h2 := map_inj_nat hx (fun z m => hy z (List.mem_of_mem_drop m)) h1
    rw [h2]; exact List.drop_suffix _ _
  · rintro ⟨A, rfl⟩
    exact ⟨A.map Int.toNat, by rw [List.map_append]⟩
theorem pre_nat {xs ys : List Int} (hx : ∀ x ∈ xs, 0 ≤ x) (hy : ∀ y ∈ ys, 0 ≤ y) : xs.map Int.toNat <+: ys.map Int.toNat ↔ xs <+: ys := by
  constructor
  · intro h
    have h1 := List.prefix_iff_eq_take.mp h
    rw [List.length_map, ← List.map_take] at h1
    have h2 := map_inj_nat hx (fun z m => hy z (List.mem_of_mem_take m)) h1
    rw [h2]; exact List.take_prefix _ _
  · rintro ⟨A, rfl⟩
    exact ⟨A.map Int.toNat, by rw [List.map_append]⟩
theorem slcS_take (xs : List Int) (k : Nat) : slcS (sOf xs) none (some (k : Int)) = sOf (xs.take k) := by
  unfold slcS
  show (⟨(slcD (xs.map Int.toNat).toArray.toList none (some (k : Int))).toArray⟩ : Str) = ⟨((xs.take k).map Int.toNat).toArray⟩
  rw [List.toList_toArray, slc_take, List.map_take]
theorem slcS_drop (xs : List Int) (k : Nat) : slcS (sOf xs) (some (k : Int)) none = sOf (xs.drop k) := by
  unfold slcS
  show (⟨(slcD (xs.map Int.toNat).toArray.toList (some (k : Int)) none).toArray⟩ : Str) = ⟨((xs.drop k).map Int.toNat).toArray⟩
  rw [List.toList_toArray, slc_drop, List.map_drop]
theorem fn_ell (ds : List Dat) : oLaw.fn (Str.ofString "_ellipsis_match") ds = spEll ds := rfl
theorem bi_ell (a b : Dat) : builtin (Str.ofString "_ellipsis_match") [a, b] = none := by cases a <;> rfl
theorem fn_joined (ds : List Dat) : oLaw.fn (Str.ofString "_law_joined") ds = spJoin ds := rfl
theorem bi_joined (a b : Dat) : builtin (Str.ofString "_law_joined") [a, b] = none := by cases a <;> rfl
theorem txtR_le (B : List Tr) : B.length ≤ (txtR B).length := by
  induction B with
  | nil => exact Nat.zero_le _
  | cons b B ih =>
    show B.length + 1 ≤ (b.txt ++ txtR B).length
    rw [List.length_append, Nat.add_comm]
    exact Nat.add_le_add (sp_len b).2.2 ih
section
variable {low tot : Int} {P : List (Int × Int)} {ts M : List Tr} {st : LSt} {n : Nat}
theorem rowOf_len {xs : List Int} {R : List Tr} (h : RowOf low P ts xs R) : R.length ≤ xs.length := h.txt ▸ txtR_le R
theorem row_len {xs : List Int} {R : List Tr} (h : RowOf low P ts xs R) : (syms R).length ≤ xs.length := (List.length_map (f := Tr.sym) (as := R)).symm ▸ rowOf_len h
theorem Wd.nodot (w : Wd low P ts) {xs : List Int} (h : Lets low xs) : 46 ∉ xs.map Int.toNat := fun m => by
  obtain ⟨x, hx, e⟩ := List.mem_map.mp m
  have h0 := w.letR h x hx
  have e2 : (46 : Int) = x := (congrArg Int.ofNat e.symm).trans (Int.toNat_of_nonneg (Int.le_of_lt h0.1))
  rcases h x hx with rfl | rfl
  · exact absurd (e2 ▸ w.lo.2) (by decide)
  · exact absurd e2 (by decide)
theorem Wd.nn (w : Wd low P ts) {xs : List Int} (h : Lets low xs) : ∀ x ∈ xs, 0 ≤ x := fun x m => Int.le_of_lt (w.letR h x m).1
theorem map_ne {xs : List Int} (h : xs ≠ []) : xs.map Int.toNat ≠ [] := fun e => h (List.map_eq_nil_iff.mp e)
theorem Wd.ell_end (w : Wd low P ts) {xs ys : List Int} (hx : Lets low xs) (hy : Lets low ys) (hne : xs ≠ []) (hl : xs.length ≤ 50) (hl' : ys.length ≤ 100) : spEll [.str (Str.ofString "..." ++ sOf xs), .str (sOf ys)] = some (.bool (decide (xs <:+ ys))) := by
  rw [dots_str, sOf_nS, sOf_nS, nS_app, ellA (map_ne hne) (w.nodot hx) (by rw [List.length_map]; exact hl) (by rw [List.length_map]; exact hl')]
  simp only [suf_nat (w.nn hx) (w.nn hy)]
theorem Wd.ell_beg (w : Wd low P ts) {xs ys : List Int} (hx : Lets low xs) (hy : Lets low ys) (hne : xs ≠ []) (hl : xs.length ≤ 50) (hl' : ys.length ≤ 100) : spEll [.str (sOf xs ++ Str.ofString "..."), .str (sOf ys)] = some (.bool (decide (xs <+: ys))) := by
  rw [dots_str, sOf_nS, sOf_nS, nS_app, ellB (map_ne hne) (w.nodot hx) (by rw [List.length_map]; exact hl) (by rw [List.length_map]; exact hl')]
  simp only [pre_nat (w.nn hx) (w.nn hy)]
noncomputable def iFor : Stmt := (blk (stm 17 13))[1]?.getD (.Pass default)
noncomputable def rowI (P : List (Int × Int)) (xs : List Int) : List Dat := (joinT P xs).map .int
theorem rows_turn (w : Wd low P ts) (h : LwS low tot P ts M st) {fr : List Int} (hf : Lets low fr) (hfl : fr.length = 4) {k : Nat} (hk : k ≤ 4) {t : Tr} (ht : t ∈ forest low ts) {RD F : List Dat} {R' : List Tr}
    (g1 : st.get (Str.ofString "front") = some (.val (.str (sOf fr)))) (g2 : st.get (Str.ofString "rows") = some (.own RD)) (g3 : st.get (Str.ofString "k") = some (.val (.int (k : Int)))) (g4 : st.get (Str.ofString "fits") = some (.own F))
    (hRD : RD.length ≤ 100) (hF : F.length ≤ 100) (hrow : t.txt <:+ fr.take k → RowOf low P ts (fr.take (k - t.txt.length)) R' ∧ RD[k - t.txt.length]? = some (.list ((syms R').map .int))) :
    ∃ st', (Itp.at oLaw (n + 30)).exs (st.put (Str.ofString "symbol") (.val (.int t.sym))) (blk iFor) = some (.nx, st') ∧ LwS low tot P ts M st' ∧ (∀ x, x ∉ names ["symbol", "back", "fits"] → st'.get x = st.get x) ∧
      st'.get (Str.ofString "fits") = some (.own (F ++ if decide (t.txt <:+ fr.take k) && onB P R' t then [.list ((syms R' ++ [t.sym]).map .int)] else [])) := by
  have t5 := w.fsmall t ht
  have look := w.look ht
  have ht5 : (sOf t.txt).length ≤ 64 := by rw [sOf_len]; exact Nat.le_trans t5 (by decide)
  have hw3 : (Str.ofString "...").length + (sOf t.txt).length ≤ 4096 := Nat.le_trans (Nat.add_le_add_left ht5 3) (by decide)
  have hfr : (sOf fr).length ≤ 4096 := by rw [sOf_len, hfl]; decide
  have hsl := slcS_take fr k
  have hell := w.ell_end (w.flets t ht) (lets_take hf k) (txt_ne t) (Nat.le_trans t5 (by decide)) (by rw [List.length_take, hfl]; exact Nat.le_trans (Nat.min_le_right _ _) (by decide))
  have k1 := h.hg (Str.ofString "_ellipsis_match") (by decide)
  have k2 := h.hg (Str.ofString "len") (by decide)
  have k3 := h.hg (Str.ofString "_law_along") (by decide)
  have hput := h.put (x := Str.ofString "symbol") (l := .val (.int t.sym)) (by decide)
  obtain ⟨st1, e1⟩ : ∃ st1, st1 = st.put (Str.ofString "symbol") (.val (.int t.sym)) := ⟨_, rfl⟩
  have p1 : ∀ {x v}, st.get x = some v → decide (x = Str.ofString "symbol") = false → st1.get x = some v := fun q z => e1 ▸ npt q z
  have s1 : st1.get (Str.ofString "symbol") = some (.val (.int t.sym)) := e1 ▸ spt
  rw [← e1] at hput ⊢
  have kp : ∀ {B : Dat} {F' : List Dat} {x : Str}, x ∉ names ["symbol", "back", "fits"] → st1.get x = st.get x ∧ (st1.put (Str.ofString "back") (.val B)).get x = st.get x ∧ ((st1.put (Str.ofString "back") (.val B)).put (Str.ofString "fits") (.own F')).get x = st.get x := fun {B F' x} hx => by
    have a1 : decide (x = Str.ofString "symbol") = false := decide_eq_false fun e => hx (e ▸ .head _)
    have a2 : decide (x = Str.ofString "back") = false := decide_eq_false fun e => hx (e ▸ .tail _ (.head _))
    have a3 : decide (x = Str.ofString "fits") = false := decide_eq_false fun e => hx (e ▸ .tail _ (.tail _ (.head _)))
    have a := e1 ▸ npt (l := .val (.int t.sym)) (st := st) rfl a1
    exact ⟨a, npt a a2, npt (npt a a2) a3⟩
  have tst1 : tst (Itp.at oLaw (n + 29)) st1 (tstOf (bs iFor 0)) = some (decide (t.txt <:+ fr.take k)) := by
    have q1 := p1 g1 rfl
    have q3 := p1 g3 rfl
    have qk := p1 k1 rfl
    have qt := hput.htexts
    generalize es (forest low ts) = D at *
    (conv in (bs _ _) => whnf); simp +decide [q1, q3, qk, qt, s1, look, hw3, hfr, hsl, hell, fn_ell, bi_ell]
  show ∃ st', (Itp.at oLaw (n + 30)).exs st1 [bs iFor 0] = _ ∧ _
  by_cases hs : t.txt <:+ fr.take k
  · rw [decide_eq_true hs] at tst1
    rw [decide_eq_true hs, Bool.true_and]
    obtain ⟨hR, hRD2⟩ := hrow hs
    have hle : t.txt.length ≤ k := by have := hs.length_le; rw [List.length_take] at this; exact Nat.le_trans this (Nat.min_le_left _ _)
    have hb := bi_lens (sOf t.txt) (Nat.le_trans ht5 (by decide))
    rw [sOf_len] at hb
    obtain ⟨m, hm⟩ : ∃ m, m = t.txt.length := ⟨_, rfl⟩
    rw [← hm] at hb hle hRD2
    have em : (k : Int) - (m : Int) = ((k - m : Nat) : Int) := (Int.ofNat_sub hle).symm
    have hix := idxNat RD (k - m) (List.getElem?_eq_some_iff.mp hRD2).1 (Nat.le_trans hRD (by decide))
    obtain ⟨j, hj⟩ : ∃ j, j = k - m := ⟨_, rfl⟩
    rw [← hj] at em hix hRD2
    obtain ⟨X, hX⟩ : ∃ X, X = (syms R').map Dat.int := ⟨_, rfl⟩
    rw [← hX] at hRD2
    have asg : exS oLaw (Itp.at oLaw (n + 28)) st1 (bs (bs iFor 0) 0) = some (.nx, st1.put (Str.ofString "back") (.val (.list X))) := by
      have q2 := p1 g2 rfl
      have q3 := p1 g3 rfl
      have qk := p1 k2 rfl
      have qt := hput.htexts
      generalize es (forest low ts) = D at *
      (conv in (bs _ _) => whnf); simp +decide [q2, q3, qk, qt, s1, look, hb, em, hix, hRD2]
    have ok1 : okL X = true := hX ▸ ok_ints _
    have sl : (syms R').length ≤ 4 := by
      have h3 := txtR_le R'
      rw [hR.txt, List.length_take, hfl] at h3
      rw [syms, List.length_map]
      exact Nat.le_trans h3 (Nat.min_le_right _ _)
    have Xl : X.length ≤ 4 := by rw [hX, List.length_map]; exact sl
    have b2 : (st1.put (Str.ofString "back") (.val (.list X))).get (Str.ofString "back") = some (.val (.list X)) := spt
    have hp2 := hput.put (x := Str.ofString "back") (l := .val (.list X)) (by decide)
    have s2 : (st1.put (Str.ofString "back") (.val (.list X))).get (Str.ofString "symbol") = some (.val (.int t.sym)) := npt s1 rfl
    have k4 : (st1.put (Str.ofString "back") (.val (.list X))).get (Str.ofString "_law_along") = some .glo := npt (p1 k3 rfl) rfl
    have g5 : (st1.put (Str.ofString "back") (.val (.list X))).get (Str.ofString "fits") = some (.own F) := npt (p1 g4 rfl) rfl
    obtain ⟨st2, e2⟩ : ∃ st2, st2 = st1.put (Str.ofString "back") (.val (.list X)) := ⟨_, rfl⟩
    have e3 := e2
    rw [← e2] at asg b2 hp2 s2 k4 g5
    have tst2 : tst (Itp.at oLaw (n + 27)) st2 (tstOf (bs (bs iFor 0) 1)) = some (onB P R' t) := by
      have qp := hp2.hpairs
      rcases List.eq_nil_or_concat R' with hn | ⟨A, u, hc⟩
      · have hX : X = [] := by rw [hX, hn]; rfl
        subst hX
        have ho : onB P R' t = true := by rw [hn]; rfl
        rw [ho]
        have dq : deq 8 (.list []) (.list []) = true := rfl
        (conv in (bs _ _) => whnf); simp +decide [b2, dq, ok1]
      · rw [List.concat_eq_append] at hc
        have mu := hR.mem u (by rw [hc]; exact List.mem_append_right _ (.head _))
        have al := w.along mu ht (w.lt999 mu) (w.lt999 ht)
        have ho : onB P R' t = alB P 999 u t := by unfold onB; rw [hc, List.getLast?_concat]
        rw [ho]
        have eB : X = (syms A).map Dat.int ++ [.int u.sym] := by rw [hX, hc, syms_app, List.map_append]; rfl
        have ok0 : okL [] = true := rfl
        have dq : deq 8 (.list X) (.list []) = false := by
          rw [hX, show ([] : List Dat) = ([] : List Int).map Dat.int from rfl, deq_ints, hc, syms_app]
          exact decide_eq_false fun e => absurd (List.append_eq_nil_iff.mp e).2 (List.cons_ne_nil _ _)
        have il := idxLast ((syms A).map Dat.int) (.int u.sym) (Nat.lt_of_lt_of_le (Nat.lt_succ_of_le (Nat.le_trans (by rw [eB, List.length_append] ; exact Nat.le_add_right _ 1) Xl)) (by decide))
        have il2 : X[((syms A).map Dat.int).length]? = some (.int u.sym) := by rw [eB]; exact List.getElem?_concat_length
        rw [← eB] at il
        generalize ((syms A).map Dat.int).length = N at il il2
        (conv in (bs _ _) => whnf); simp +decide [b2, s2, k4, qp, fn_along, bi_along, dq, ok0, ok1, il, il2, al]
    have body := fun {r} => ex_cons (n := n + 28) (r := [bs (bs iFor 0) 1]) (res := r) asg
    have b0 : blk (bs iFor 0) = [bs (bs iFor 0) 0, bs (bs iFor 0) 1] := rfl
    have whole : ∀ {st'}, exS oLaw (Itp.at oLaw (n + 27)) st2 (bs (bs iFor 0) 1) = some (.nx, st') → (Itp.at oLaw (n + 30)).exs st1 [bs iFor 0] = some (.nx, st') := fun q => ex_cons (by
      rw [if_t (fun _ _ => rfl) tst1, b0]
      exact body (ex_cons q rfl)) rfl
    cases ho : onB P R' t with
    | true =>
      rw [ho] at tst2
      rw [if_pos rfl]
      have eX : (syms R' ++ [t.sym]).map Dat.int = X ++ [.int t.sym] := by rw [hX, List.map_append]; rfl
      rw [eX]
      refine ⟨st2.put (Str.ofString "fits") (.own (F ++ [.list (X ++ [.int t.sym])])), whole ?_, hp2.put (by decide), fun x hx => e3 ▸ (kp hx).2.2, spt⟩
      rw [if_t (fun _ _ => rfl) tst2]
      have hFl : F.length ≤ 4096 := Nat.le_trans hF (by decide)
      have hXl : X.length + 1 ≤ 4096 := Nat.le_trans (Nat.succ_le_succ Xl) (by decide)
      (conv in (bs _ _) => whnf); simp +decide [b2, s2, g5, hFl, hXl]
    | false =>
      rw [ho] at tst2
      rw [if_neg (by decide), List.append_nil]
      refine ⟨st2, whole ?_, hp2, fun x hx => e3 ▸ (kp (F' := []) hx).2.1, g5⟩
      rw [if_f (fun _ _ => rfl) tst2]
      rfl
  · rw [decide_eq_false hs] at tst1
    rw [decide_eq_false hs, Bool.false_and, if_neg (by decide), List.append_nil]
    refine ⟨st1, ex_cons (by rw [if_f (fun _ _ => rfl) tst1]; rfl) rfl, hput, fun x hx => (kp (B := .none) (F' := []) hx).1, p1 g4 rfl⟩
end
end Mine
end

section
open PySem PySem.W PyProof.Rows Builtin.Str
namespace Mine
section
variable {low tot : Int} {P : List (Int × Int)} {ts M : List Tr} {st : LSt} {n : Nat}
noncomputable def rowD (TR : List Int → List Tr) (xs : List Int) : Dat := .list ((syms (TR xs)).map .int)
noncomputable def rowsD (TR : List Int → List Tr) (fr : List Int) (k : Nat) : List Dat := (List.range k).map fun j => rowD TR (fr.take j)
theorem rowsD_at (TR : List Int → List Tr) (fr : List Int) {k j : Nat} (h : j < k) : (rowsD TR fr k)[j]? = some (rowD TR (fr.take j)) := by
  unfold rowsD
  rw [List.getElem?_map, List.getElem?_range h]
  rfl
theorem rowsD_snoc (TR : List Int → List Tr) (fr : List Int) (k : Nat) : rowsD TR fr k ++ [rowD TR (fr.take k)] = rowsD TR fr (k + 1) := by
  unfold rowsD
  rw [List.range_succ, List.map_append]
  rfl
theorem rowsD_len (TR : List Int → List Tr) (fr : List Int) (k : Nat) : (rowsD TR fr k).length = k := by simp [rowsD]
theorem take_len {fr : List Int} (hfl : fr.length = 4) {k : Nat} (hk : k ≤ 4) (m : Nat) : (fr.take k).take ((fr.take k).length - m) = fr.take (k - m) := by
  rw [List.take_take, List.length_take, hfl, Nat.min_eq_left hk, Nat.min_eq_left (Nat.sub_le _ _)]
noncomputable def fitsD (P : List (Int × Int)) (TR : List Int → List Tr) (fr : List Int) (k : Nat) (A : List Tr) : List Dat := (A.filter (fitB P TR (fr.take k))).map fun t => .list ((syms (TR (fr.take (k - t.txt.length))) ++ [t.sym]).map .int)
theorem rows_inner (w : Wd low P ts) {TR : List Int → List Tr} (hT : ∀ xs, Lets low xs → RowOf low P ts xs (TR xs)) {fr : List Int} (hf : Lets low fr) (hfl : fr.length = 4) {k : Nat} (hk : k ≤ 4) :
    ∀ (A : List Tr) (st : LSt) (F : List Dat), (∀ t ∈ A, t ∈ forest low ts) → LwS low tot P ts M st → st.get (Str.ofString "front") = some (.val (.str (sOf fr))) → st.get (Str.ofString "rows") = some (.own (rowsD TR fr k)) → st.get (Str.ofString "k") = some (.val (.int (k : Int))) → st.get (Str.ofString "fits") = some (.own F) → F.length + A.length ≤ 100 →
    ∃ st', forLoop (Itp.at oLaw (n + 30)) (Str.ofString "symbol") (blk iFor) st (dS A) = some (.nx, st') ∧ LwS low tot P ts M st' ∧ (∀ x, x ∉ names ["symbol", "back", "fits"] → st'.get x = st.get x) ∧ st'.get (Str.ofString "fits") = some (.own (F ++ fitsD P TR fr k A))
  | [], st, F, _, h, g1, g2, g3, g4, _ => ⟨st, rfl, h, fun _ _ => rfl, by rw [g4]; simp [fitsD]⟩
  | t :: A, st, F, hA, h, g1, g2, g3, g4, hl => by
    rw [List.length_cons] at hl
    have ht := hA t (.head _)
    have t0 := (sp_len t).2.2
    obtain ⟨st1, e1, h1, k1, f1⟩ := rows_turn (n := n) (R' := TR (fr.take (k - t.txt.length))) w h hf hfl hk ht g1 g2 g3 g4 (by rw [rowsD_len]; omega) (by omega) (fun hs => by
      refine ⟨hT _ (lets_take hf _), ?_⟩
      have hle : t.txt.length ≤ k := by have := hs.length_le; rw [List.length_take] at this; omega
      rw [rowsD_at TR fr (by omega)]
      rfl)
    have hfit : (decide (t.txt <:+ fr.take k) && onB P (TR (fr.take (k - t.txt.length))) t) = fitB P TR (fr.take k) t := by
      unfold fitB
      rw [take_len hfl hk]
    rw [hfit] at f1
    have q : ∀ x ∈ names ["front", "rows", "k"], st1.get x = st.get x := fun x m => k1 x (by
      simp only [names, List.map_cons, List.map_nil, List.mem_cons, List.not_mem_nil, or_false] at m
      rcases m with rfl | rfl | rfl <;> decide)
    obtain ⟨st2, e2, h2, k2, f2⟩ := rows_inner w hT hf hfl hk A st1 _ (fun u m => hA u (.tail _ m)) h1 ((q _ (by decide)).trans g1) ((q _ (by decide)).trans g2) ((q _ (by decide)).trans g3) f1 (by
      rw [List.length_append]
      split
      · simp; omega
      · simp; omega)
    refine ⟨st2, ?_, h2, fun x hx => (k2 x hx).trans (k1 x hx), ?_⟩
    · show forLoop _ _ _ st (.int t.sym :: dS A) = _
      rw [for_cons, e1]
      simp only [Option.bind_some]
      exact e2
    · rw [f2, List.append_assoc]
      congr 3
      unfold fitsD
      rw [List.filter_cons]
      cases fitB P TR (fr.take k) t with
      | true => rfl
      | false => rfl
structure RwS (low tot : Int) (P : List (Int × Int)) (ts M : List Tr) (fr : List Int) (RD : List Dat) (st : LSt) : Prop where
  lw : LwS low tot P ts M st
  front : st.get (Str.ofString "front") = some (.val (.str (sOf fr)))
  rows : st.get (Str.ofString "rows") = some (.own RD)
  whole : st.get (Str.ofString "whole") = some (.own (dS (wholeT P low ts))) ∨ st.get (Str.ofString "whole") = some (.val (.list (dS (wholeT P low ts))))
  words : st.get (Str.ofString "words") = some (.val (.list (wordsD M)))
theorem rblk : blk (stm 17 13) = [(blk (stm 17 13))[0]?.getD (.Pass default), iFor, (blk (stm 17 13))[2]?.getD (.Pass default), (blk (stm 17 13))[3]?.getD (.Pass default)] := rfl
theorem iFor_for (I : Itp) (O : Orc) (st : LSt) : exS O I st iFor = if O.loc (Str.ofString "symbol") = false then none else (itemsOf I (evV I) (frz st (tstOf iFor)) (tstOf iFor)).bind fun ds => forLoop I (Str.ofString "symbol") (blk iFor) (frz st (tstOf iFor)) ds := rfl
theorem rows_outer (w : Wd low P ts) {TR : List Int → List Tr} (hT : ∀ xs, Lets low xs → RowOf low P ts xs (TR xs)) {fr : List Int} (hf : Lets low fr) (hfl : fr.length = 4) {k : Nat} (hk : k ≤ 4) (hk0 : 0 < k) (h : RwS low tot P ts M fr (rowsD TR fr k) st) :
    ∃ st', (Itp.at oLaw (n + 34)).exs (st.put (Str.ofString "k") (.val (.int (k : Int)))) (blk (stm 17 13)) = some (.nx, st') ∧ RwS low tot P ts M fr (rowsD TR fr (k + 1)) st' := by
  have h4 := w.le4
  have e0 : exS oLaw (Itp.at oLaw (n + 33)) (st.put (Str.ofString "k") (.val (.int (k : Int)))) ((blk (stm 17 13))[0]?.getD (.Pass default)) = some (.nx, (st.put (Str.ofString "k") (.val (.int (k : Int)))).put (Str.ofString "fits") (.own [])) := by
    (conv in (stm _ _) => whnf); simp +decide [LSt.get_put]
  obtain ⟨st1, hst1⟩ : ∃ st1, st1 = (st.put (Str.ofString "k") (.val (.int (k : Int)))).put (Str.ofString "fits") (.own []) := ⟨_, rfl⟩
  have l1 : LwS low tot P ts M st1 := by rw [hst1]; exact (h.lw.put (by decide)).put (by decide)
  have q1 : ∀ x, x ≠ Str.ofString "k" → x ≠ Str.ofString "fits" → st1.get x = st.get x := fun x a b => by rw [hst1, LSt.get_put, if_neg b, LSt.get_put, if_neg a]
  obtain ⟨st2, hz, l2, k2, w2⟩ : ∃ st2, frz st1 (tstOf iFor) = st2 ∧ LwS low tot P ts M st2 ∧ (∀ x, x ≠ Str.ofString "whole" → st2.get x = st1.get x) ∧ st2.get (Str.ofString "whole") = some (.val (.list (dS (wholeT P low ts)))) := by
    have hw := q1 (Str.ofString "whole") (by decide) (by decide)
    rcases h.whole with z | z
    · have hfz : frz st1 (tstOf iFor) = _ := frz_own (p := (tstOf iFor).pos) (hw.trans z)
      exact ⟨_, hfz, l1.put (by decide), fun x hx => by rw [LSt.get_put, if_neg hx], by rw [LSt.get_put, if_pos rfl]⟩
    · have hfz : frz st1 (tstOf iFor) = _ := frz_val (p := (tstOf iFor).pos) (hw.trans z)
      exact ⟨_, hfz, l1, fun _ _ => rfl, hw.trans z⟩
  have hit : itemsOf (Itp.at oLaw (n + 32)) (evV (Itp.at oLaw (n + 32))) st2 (tstOf iFor) = some (dS (wholeT P low ts)) := by
    have : (dS (wholeT P low ts)).length ≤ 4096 := by
      rw [dS_len]
      have := List.length_filter_le (Tr.goodB P) (forest low ts)
      rw [w.flen] at this
      unfold wholeT; omega
    generalize dS (wholeT P low ts) = A at *
    (conv in iFor => whnf); simp +decide [LSt.get_put, w2, this]
  have hwl : (wholeT P low ts).length ≤ 6 := by
    have := List.length_filter_le (Tr.goodB P) (forest low ts)
    rw [w.flen] at this
    unfold wholeT; omega
  obtain ⟨st3, e3, l3, k3, f3⟩ := rows_inner (n := n + 2) w hT hf hfl hk (wholeT P low ts) st2 [] (fun t m => (List.mem_filter.mp m).1) l2
    ((k2 _ (by decide)).trans ((q1 _ (by decide) (by decide)).trans h.front)) ((k2 _ (by decide)).trans ((q1 _ (by decide) (by decide)).trans h.rows))
    ((k2 _ (by decide)).trans (by rw [hst1, LSt.get_put, if_neg (by decide), LSt.get_put, if_pos rfl])) ((k2 _ (by decide)).trans (by rw [hst1, LSt.get_put, if_pos rfl])) (by simp; omega)
  have hfits : fitsD P TR fr k (wholeT P low ts) = [rowD TR (fr.take k)] := by
    obtain ⟨s, s1, s2, s3⟩ := fit_one w hT (lets_take hf k) (by intro e; have := congrArg List.length e; rw [List.length_take, hfl, List.length_nil] at this; omega)
    unfold fitsD
    rw [s1]
    rw [take_len hfl hk] at s3
    show [Dat.list ((syms (TR (fr.take (k - s.txt.length))) ++ [s.sym]).map .int)] = _
    unfold rowD
    rw [← s3, syms_app]
    rfl
  rw [hfits, List.nil_append] at f3
  have e4 : exS oLaw (Itp.at oLaw (n + 31)) st3 ((blk (stm 17 13))[2]?.getD (.Pass default)) = some (.nx, st3) := by
    have g := l3.hg (Str.ofString "len") (by decide)
    have hb := bi_len [rowD TR (fr.take k)] (by simp)
    generalize rowD TR (fr.take k) = A at *
    have hb' : builtin (Str.ofString "len") [.list [A]] = some (.int 1) := hb
    (conv in (stm _ _) => whnf); simp +decide [LSt.get_put, f3, g, hb']
  have r3 : st3.get (Str.ofString "rows") = some (.own (rowsD TR fr k)) := (k3 _ (by decide)).trans ((k2 _ (by decide)).trans ((q1 _ (by decide) (by decide)).trans h.rows))
  have e5 : exS oLaw (Itp.at oLaw (n + 30)) st3 ((blk (stm 17 13))[3]?.getD (.Pass default)) = some (.nx, st3.put (Str.ofString "rows") (.own (rowsD TR fr (k + 1)))) := by
    have hl : (rowsD TR fr k).length + 1 ≤ 4096 := by rw [rowsD_len]; omega
    rw [← rowsD_snoc]
    generalize rowD TR (fr.take k) = A at *
    generalize rowsD TR fr k = B at *
    (conv in (stm _ _) => whnf); simp +decide [LSt.get_put, f3, r3, hl]
  refine ⟨st3.put (Str.ofString "rows") (.own (rowsD TR fr (k + 1))), ?_, l3.put (by decide), ?_, by rw [LSt.get_put, if_pos rfl], .inr ?_, ?_⟩
  · rw [rblk, exs_c, e0]
    simp only [Option.bind_some]
    rw [← hst1, exs_c, iFor_for, if_neg (by decide), hz, hit]
    simp only [Option.bind_some]
    rw [e3]
    simp only [Option.bind_some]
    rw [exs_c, e4]
    simp only [Option.bind_some]
    rw [exs_c, e5]
    rfl
  · rw [LSt.get_put, if_neg (by decide)]
    exact (k3 _ (by decide)).trans ((k2 _ (by decide)).trans ((q1 _ (by decide) (by decide)).trans h.front))
  · rw [LSt.get_put, if_neg (by decide)]
    exact (k3 _ (by decide)).trans w2
  · rw [LSt.get_put, if_neg (by decide)]
    exact (k3 _ (by decide)).trans ((k2 _ (by decide)).trans ((q1 _ (by decide) (by decide)).trans h.words))
theorem lw13_for (I : Itp) (O : Orc) (st : LSt) : exS O I st (stm 17 13) = if O.loc (Str.ofString "k") = false then none else (itemsOf I (evV I) st (tstOf (stm 17 13))).bind fun ds => forLoop I (Str.ofString "k") (blk (stm 17 13)) st ds := rfl
theorem lw13 (w : Wd low P ts) {TR : List Int → List Tr} (hT : ∀ xs, Lets low xs → RowOf low P ts xs (TR xs)) {fr : List Int} (hf : Lets low fr) (hfl : fr.length = 4) (h : RwS low tot P ts M fr (rowsD TR fr 1) st) :
    ∃ st', exS oLaw (Itp.at oLaw (n + 34)) st (stm 17 13) = some (.nx, st') ∧ RwS low tot P ts M fr (rowsD TR fr 5) st' := by
  have hit : itemsOf (Itp.at oLaw (n + 34)) (evV (Itp.at oLaw (n + 34))) st (tstOf (stm 17 13)) = some [.int ((1 : Nat) : Int), .int ((2 : Nat) : Int), .int ((3 : Nat) : Int), .int ((4 : Nat) : Int)] := by
    have g := h.lw.hg (Str.ofString "range") (by decide)
    have e : (List.range (4 : Nat)).map (fun i : Nat => Dat.int (1 + (i : Int))) = [.int ((1 : Nat) : Int), .int ((2 : Nat) : Int), .int ((3 : Nat) : Int), .int ((4 : Nat) : Int)] := rfl
    (conv in (stm _ _) => whnf); simp +decide [LSt.get_put, isGlo_of, g]
    exact e
  obtain ⟨s1, e1, h1⟩ := rows_outer (n := n) (k := 1) w hT hf hfl (by decide) (by decide) h
  obtain ⟨s2, e2, h2⟩ := rows_outer (n := n) (k := 2) w hT hf hfl (by decide) (by decide) h1
  obtain ⟨s3, e3, h3⟩ := rows_outer (n := n) (k := 3) w hT hf hfl (by decide) (by decide) h2
  obtain ⟨s4, e4, h4⟩ := rows_outer (n := n) (k := 4) w hT hf hfl (by decide) (by decide) h3
  refine ⟨s4, ?_, h4⟩
  rw [lw13_for, if_neg (by decide), hit]
  simp only [Option.bind_some]
  rw [for_cons, e1]
  simp only [Option.bind_some]
  rw [for_cons, e2]
  simp only [Option.bind_some]
  rw [for_cons, e3]
  simp only [Option.bind_some]
  rw [for_cons, e4]
  rfl
theorem lw14 (w : Wd low P ts) {TR : List Int → List Tr} (hT : ∀ xs, Lets low xs → RowOf low P ts xs (TR xs)) {fr : List Int} (hf : Lets low fr) (hfl : fr.length = 4) (h : RwS low tot P ts M fr (rowsD TR fr 5) st) :
    exS oLaw (Itp.at oLaw (n + 20)) st (stm 17 14) = some (.nx, st) := by
  have h4 := w.le4
  have hl := w.len
  have g := h.lw.hg (Str.ofString "_law_joined") (by decide)
  have hj : spJoin [.str (sOf fr), .list (P.map dPair)] = some (.list ((joinT P fr).map .int)) := join_eq (by omega) (by omega) (w.nn hf)
  have hr := h.rows
  have hx := rowsD_at TR fr (k := 5) (j := 4) (by decide)
  have hi := idxNat (rowsD TR fr 5) 4 (by rw [rowsD_len]; decide) (by rw [rowsD_len]; decide)
  have e : rowD TR (fr.take 4) = .list ((joinT P fr).map .int) := by
    unfold rowD
    rw [List.take_of_length_le (by omega), (hT fr hf).syms w]
  rw [e] at hx
  have hp := h.lw.hpairs
  have hfr := h.front
  have ok1 := ok_ints (joinT P fr)
  have dq := deq_ints (joinT P fr) (joinT P fr)
  rw [decide_eq_true rfl] at dq
  generalize rowsD TR fr 5 = A at *
  generalize (joinT P fr).map Dat.int = B at *
  generalize P.map dPair = C at *
  have hi' : idxAt A 4 = some 4 := hi
  (conv in (stm _ _) => whnf); simp +decide [LSt.get_put, g, hp, hr, hfr, hi', hx, hj, fn_joined, bi_joined, ok1, dq]
end
end Mine
end

section
open PySem PySem.W PyProof.Rows Builtin.Str
namespace Mine
theorem cons_lt {a b : Nat} {x y : List Nat} : (a :: x) < (b :: y) ↔ a < b ∨ (a = b ∧ x < y) := by
  rw [List.cons_lt_cons_iff]
theorem pre_iff : ∀ {r x : List Nat}, (∀ c ∈ x, c < 256) → (r <+: x ↔ ¬ (x < r) ∧ x < r ++ [256])
  | [], x, h => by
    constructor
    · intro _
      refine ⟨List.not_lt_nil x, ?_⟩
      cases x with
      | nil => exact List.nil_lt_cons 256 []
      | cons c x => exact cons_lt.mpr (.inl (h c (.head _)))
    · intro _; exact List.nil_prefix
  | a :: r, [], h => by
    constructor
    · intro z; have := z.length_le; simp at this
    · rintro ⟨z, _⟩; exact absurd (List.nil_lt_cons a r) z
  | a :: r, c :: x, h => by
    have ih := pre_iff (r := r) (x := x) fun d m => h d (.tail _ m)
    rw [List.cons_prefix_cons, List.cons_append, cons_lt, cons_lt, ih]
    constructor
    · rintro ⟨rfl, h1, h2⟩
      refine ⟨?_, .inr ⟨rfl, h2⟩⟩
      rintro (z | ⟨_, z⟩)
      · omega
      · exact h1 z
    · rintro ⟨h1, h2⟩
      have hac : a = c := by
        rcases h2 with z | ⟨z, _⟩
        · exact absurd (.inl z) h1
        · exact z.symm
      refine ⟨hac, fun z => h1 (.inr ⟨hac.symm, z⟩), ?_⟩
      rcases h2 with z | ⟨_, z⟩
      · omega
      · exact z
theorem fil_stretch {α : Type} {p : α → Bool} {A : List α} {b e : Nat} (hbe : b ≤ e) (he : e ≤ A.length) (h : ∀ (j : Nat) (t : α), A[j]? = some t → (p t = true ↔ b ≤ j ∧ j < e)) : A.filter p = (A.take e).drop b := by
  have e1 : A = (A.take e).take b ++ ((A.take e).drop b ++ A.drop e) := by
    rw [← List.append_assoc, List.take_append_drop, List.take_append_drop]
  have f1 : ((A.take e).take b).filter p = [] := List.filter_eq_nil_iff.mpr fun t m hp => by
    obtain ⟨j, hj⟩ := List.getElem?_of_mem m
    have hjl := (List.getElem?_eq_some_iff.mp hj).1
    rw [List.length_take, List.length_take] at hjl
    rw [List.getElem?_take_of_lt (by omega), List.getElem?_take_of_lt (by omega)] at hj
    have := (h j t hj).mp hp
    omega
  have f2 : ((A.take e).drop b).filter p = (A.take e).drop b := List.filter_eq_self.mpr fun t m => by
    obtain ⟨j, hj⟩ := List.getElem?_of_mem m
    have hjl := (List.getElem?_eq_some_iff.mp hj).1
    rw [List.length_drop, List.length_take] at hjl
    rw [List.getElem?_drop, List.getElem?_take_of_lt (by omega)] at hj
    exact (h (b + j) t hj).mpr (by omega)
  have f3 : (A.drop e).filter p = [] := List.filter_eq_nil_iff.mpr fun t m hp => by
    obtain ⟨j, hj⟩ := List.getElem?_of_mem m
    rw [List.getElem?_drop] at hj
    have := (h (e + j) t hj).mp hp
    omega
  conv => lhs; rw [e1]
  rw [List.filter_append, List.filter_append, f1, f2, f3]
  simp
noncomputable def up (x : Str) : Str := x ++ ⟨#[256]⟩
section
variable {low tot : Int} {P : List (Int × Int)} {ts M : List Tr} {st : LSt} {n : Nat}
theorem stretch (w : Wd low P ts) (sh : Shf ts M) {rs : List Int} (hr : Lets low rs) : insI M (sOf rs) ≤ insI M (up (sOf rs)) ∧ M.filter (fun t => decide (rs <+: t.txt)) = (M.take (insI M (up (sOf rs)))).drop (insI M (sOf rs)) := by
  have key : ∀ t ∈ M, (decide (rs <+: t.txt) = true ↔ ¬ ltS (sOf t.txt) (sOf rs) ∧ ltS (sOf t.txt) (up (sOf rs))) := fun t m => by
    have ht : t ∈ forest low ts := .tail _ (.tail _ (sh.perm.mem_iff.mp m))
    have hl := w.flets t ht
    rw [decide_eq_true_eq, ← pre_nat (w.nn hr) (w.nn hl)]
    have e1 : (sOf t.txt).cps.toList = t.txt.map Int.toNat := by show ((t.txt.map Int.toNat).toArray).toList = _; simp
    have e2 : (sOf rs).cps.toList = rs.map Int.toNat := by show ((rs.map Int.toNat).toArray).toList = _; simp
    have e3 : (up (sOf rs)).cps.toList = rs.map Int.toNat ++ [256] := by show ((rs.map Int.toNat).toArray ++ #[256]).toList = _; simp
    unfold ltS
    rw [e1, e2, e3]
    refine pre_iff fun c m => ?_
    obtain ⟨x, hx, rfl⟩ := List.mem_map.mp m
    have := w.letR hl x hx
    omega
  have i1 := insI_iff (x := sOf rs) sh.srt
  have i2 := insI_iff (x := up (sOf rs)) sh.srt
  have l2 := insI_le M (up (sOf rs))
  have l1 := insI_le M (sOf rs)
  have lup : ∀ t : Tr, ltS (sOf t.txt) (sOf rs) → ltS (sOf t.txt) (up (sOf rs)) := fun t h => by
    have e2 : (up (sOf rs)).cps.toList = (sOf rs).cps.toList ++ [256] := by
      show ((sOf rs).cps ++ #[256]).toList = _
      rw [Array.toList_append]
    unfold ltS at h ⊢
    rw [e2]
    have : ∀ {a b : List Nat}, a < b → a < b ++ [256] := by
      intro a
      induction a with
      | nil => intro b h; cases b with
        | nil => exact absurd h (List.not_lt_nil _)
        | cons c b => exact List.nil_lt_cons _ _
      | cons d a ih => intro b h; cases b with
        | nil => exact absurd h (List.not_lt_nil _)
        | cons c b =>
          rw [List.cons_append, cons_lt]
          rcases cons_lt.mp h with z | ⟨z1, z2⟩
          · exact .inl z
          · exact .inr ⟨z1, ih z2⟩
    exact this h
  have hle : insI M (sOf rs) ≤ insI M (up (sOf rs)) := by
    rcases Nat.lt_or_ge (insI M (up (sOf rs))) (insI M (sOf rs)) with z | z
    · exfalso
      have hj : insI M (up (sOf rs)) < M.length := by omega
      have e := List.getElem?_eq_getElem hj
      have a := (i1 _ _ e).mpr z
      have b := (i2 _ _ e).mp (lup _ a)
      omega
    · exact z
  refine ⟨hle, fil_stretch hle l2 fun j t hj => ?_⟩
  rw [key t (List.mem_of_getElem? hj), i1 j t hj, i2 j t hj]
  omega
theorem shelf_cut (low : Int) (M : List Tr) {b e : Nat} (he : e ≤ M.length) : slcD (shelfD low M) (some ((2 + b : Nat) : Int)) (some ((2 + e : Nat) : Int)) = dS ((M.take e).drop b) := by
  rw [slc_both]
  have e1 : 2 + e = e + 2 := by omega
  have e2 : 2 + b = b + 2 := by omega
  rw [e1, e2]
  unfold shelfD dS
  rw [List.take_succ_cons, List.take_succ_cons, List.drop_succ_cons, List.drop_succ_cons, List.take_append_of_le_length (by simpa using he), List.map_drop, List.map_take]
theorem wordsD_at {M : List Tr} {j : Nat} {t : Tr} (h : M[j]? = some t) : (wordsD M)[j]? = some (.str (sOf t.txt)) := by
  unfold wordsD; rw [List.getElem?_map, h]; rfl
theorem bis_words (w : Wd low P ts) (sh : Shf ts M) (x : Str) : spBis [.list (wordsD M), .str x] = some (.int (insI M x : Int)) := by
  have hm := sh.perm.length_eq
  have h4 := w.le4
  have hl : (wordsD M).length = M.length := by simp [wordsD]
  refine bis_eq (by rw [hl]; exact insI_le M x) (by omega) fun j hj => ?_
  rw [hl] at hj
  have e := List.getElem?_eq_getElem hj
  exact ⟨_, wordsD_at e, insI_iff sh.srt j _ e⟩
end
end Mine
end

section
open PySem PySem.W PyProof.Rows Builtin.Str
namespace Mine
noncomputable def mt (j : Nat) : Stmt := (blk (stm 17 16))[j]?.getD (.Pass default)
theorem mt_blk : blk (stm 17 16) = [mt 0, mt 1, mt 2, mt 3, mt 4, mt 5] := rfl
theorem mt1_eq (I : Itp) (st : LSt) : exS oLaw I st (mt 1) = asgLam oLaw I st (Str.ofString "begin") (Str.ofString "bisect_left") (aArgs (mt 1)) (kwLam (mt 1)) := rfl
theorem asgLam_eq {O : Orc} {I : Itp} {st : LSt} {y f : Str} {as : List Expr} {l : Expr} {ds : List Dat} {g : Dat → Option Dat} {k : Int} (hy : O.loc y = true ∧ isGlo st f = true ∧ as.isEmpty = false) (ha : argsD I st as = some ds) (hl : lamF O st l = some g) (hk : O.fk f ds g = some (.int k)) : asgLam O I st y f as l = some (.nx, st.put y (.val (.int k))) := by
  unfold asgLam
  rw [if_pos hy, ha, hl]
  show ((O.fk f ds g).bind intO).map _ = _
  rw [hk]
  rfl
theorem gL_beg (D : List (Int × Str)) (s : Int) : gL (kwLam (mt 1)) D (.int s) = (D.lookup s).map .str := by
  show ((evAt (bare oLaw) 20).ev [(lamX (kwLam (mt 1)), .val (.int s)), (Str.ofString "texts", .dct D)] (lamB (kwLam (mt 1)))).bind RV.stv = _
  (conv in (mt _) => whnf); (conv in (mt _) => whnf)
  cases h : D.lookup s <;> simp +decide [h]
theorem fn_bis (ds : List Dat) : oLaw.fn (Str.ofString "bisect_left") ds = spBis ds := rfl
theorem bi_bis (a b : Dat) : builtin (Str.ofString "bisect_left") [a, b] = none := by cases a <;> rfl
theorem chr256 : builtin (Str.ofString "chr") [.int 256] = some (.str ⟨#[256]⟩) := rfl
noncomputable def mcE (s : Stmt) : Expr := pick (tstOf s) noC (cmp := fun _ _ rs => rs.headD noC)
@[simp] theorem mcE_1 (l e : Expr) (o rs p B B' q) : mcE (.If (.Compare l o (e :: rs) p) B B' q) = e := rfl
noncomputable def begOf (rs : List Int) (t : Tr) : Bool := decide (rs <+: t.txt)
section
variable {low tot : Int} {P : List (Int × Int)} {ts M : List Tr} {st : LSt} {n : Nat} {fr rs : List Int}
theorem mt0 (hfl : fr.length = 4) {k : Nat} (g1 : st.get (Str.ofString "front") = some (.val (.str (sOf fr)))) (g2 : st.get (Str.ofString "k") = some (.val (.int (k : Int)))) : exS oLaw (Itp.at oLaw (n + 24)) st (mt 0) = some (.nx, st.put (Str.ofString "rest") (.val (.str (sOf (fr.drop k))))) := by
  have h1 : (sOf fr).length ≤ 4096 := by rw [sOf_len]; omega
  have h2 := slcS_drop fr k
  (conv in (mt _) => whnf); simp +decide [LSt.get_put, g1, g2, h1, h2]
theorem mt1 (w : Wd low P ts) (sh : Shf ts M) (h : LwS low tot P ts M st) (g1 : st.get (Str.ofString "rest") = some (.val (.str (sOf rs)))) : exS oLaw (Itp.at oLaw (n + 24)) st (mt 1) = some (.nx, st.put (Str.ofString "begin") (.val (.int ((2 + insI M (sOf rs) : Nat) : Int)))) := by
  have h4 := w.le4
  have hm := sh.perm.length_eq
  have hb := bi_len (shelfD low M) (by rw [shelf_len]; omega)
  rw [shelf_len] at hb
  have g := h.hg (Str.ofString "bisect_left") (by decide)
  have g2 := h.hg (Str.ofString "len") (by decide)
  have hs := h.hshelf
  have e1 : argsD (Itp.at oLaw (n + 24)) st (aArgs (mt 1)) = some [.list (shelfD low M), .str (sOf rs), .int 2, .int ((M.length + 2 : Nat) : Int)] := by
    obtain ⟨N, hN⟩ : ∃ N, N = M.length + 3 := ⟨_, rfl⟩
    obtain ⟨N', hN'⟩ : ∃ N', N' = M.length + 2 := ⟨_, rfl⟩
    rw [← hN] at hb
    rw [← hN']
    have e : (N : Int) - 1 = (N' : Int) := by omega
    generalize shelfD low M = A at *
    (conv in (mt _) => whnf); simp +decide [LSt.get_put, g1, g2, hs, hb, e]
  have e2 := lam_eq (l := kwLam (mt 1)) rfl (by decide) rfl rfl rfl h.htexts
  have e3 := bis_shelf w sh (sOf rs) (gL_beg (es (forest low ts))) (fun t m => w.look (.tail _ (.tail _ m)))
  rw [mt1_eq]
  exact asgLam_eq ⟨by decide, isGlo_of _ _ g, rfl⟩ e1 e2 ((fk_bis _ _).trans e3)
theorem mt2 (w : Wd low P ts) (sh : Shf ts M) (h : LwS low tot P ts M st) (g1 : st.get (Str.ofString "rest") = some (.val (.str (sOf rs)))) (g2 : st.get (Str.ofString "words") = some (.val (.list (wordsD M)))) (hl : rs.length ≤ 100) : exS oLaw (Itp.at oLaw (n + 24)) st (mt 2) = some (.nx, st.put (Str.ofString "end") (.val (.int ((2 + insI M (up (sOf rs)) : Nat) : Int)))) := by
  have k1 := h.hg (Str.ofString "bisect_left") (by decide)
  have k2 := h.hg (Str.ofString "chr") (by decide)
  have b := bis_words w sh (up (sOf rs))
  have hle : (sOf rs).length + Str.length ⟨#[256]⟩ ≤ 4096 := by rw [sOf_len]; show _ + 1 ≤ 4096; omega
  unfold up at b ⊢
  generalize wordsD M = A at *
  generalize insI M (sOf rs ++ ⟨#[256]⟩) = e at *
  (conv in (mt _) => whnf); simp +decide [LSt.get_put, g1, g2, k1, k2, b, chr256, fn_bis, bi_bis, hle]
theorem mt3 (w : Wd low P ts) (sh : Shf ts M) (h : LwS low tot P ts M st) (g1 : st.get (Str.ofString "rest") = some (.val (.str (sOf rs)))) (g2 : st.get (Str.ofString "words") = some (.val (.list (wordsD M)))) (g3 : st.get (Str.ofString "begin") = some (.val (.int ((2 + insI M (sOf rs) : Nat) : Int)))) : exS oLaw (Itp.at oLaw (n + 24)) st (mt 3) = some (.nx, st) := by
  have k1 := h.hg (Str.ofString "bisect_left") (by decide)
  have b := bis_words w sh (sOf rs)
  generalize wordsD M = A at *
  generalize insI M (sOf rs) = e at *
  (conv in (mt _) => whnf); simp +decide [LSt.get_put, g1, g2, g3, k1, b, fn_bis, bi_bis]
theorem mt4 (w : Wd low P ts) (sh : Shf ts M) (h : LwS low tot P ts M st) (hr : Lets low rs) (hne : rs ≠ []) (hl : rs.length ≤ 50) (g1 : st.get (Str.ofString "rest") = some (.val (.str (sOf rs)))) (g3 : st.get (Str.ofString "begin") = some (.val (.int ((2 + insI M (sOf rs) : Nat) : Int)))) (g4 : st.get (Str.ofString "end") = some (.val (.int ((2 + insI M (up (sOf rs)) : Nat) : Int)))) : exS oLaw (Itp.at oLaw (n + 24)) st (mt 4) = some (.nx, st) := by
  have h4 := w.le4
  have hm := sh.perm.length_eq
  obtain ⟨hbe, hst⟩ := stretch w sh hr
  have hcut := shelf_cut low M (b := insI M (sOf rs)) (insI_le M (up (sOf rs)))
  rw [← hst] at hcut
  have l1 : (shelfD low M).length ≤ 4096 := by rw [shelf_len]; omega
  have hs := h.hshelf
  have ht := h.htexts
  have sm := shelf_mid low M
  have hit : itemsOf (Itp.at oLaw (n + 23)) (evD (Itp.at oLaw (n + 23))) st (gI (mcE (mt 4))) = some (dS M) := by
    have l2 : (dS M).length ≤ 4096 := by rw [dS_len]; omega
    generalize shelfD low M = A at *
    generalize dS M = B at *
    (conv in (mt _) => whnf); simp +decide [LSt.get_put, hs, sm, l1, l2]
  have hfr : freeOf oLaw.capt st (gS (mcE (mt 4))).names = some [(Str.ofString "_ellipsis_match", .glo), (Str.ofString "rest", .val (.str (sOf rs))), (Str.ofString "texts", .dct (es (forest low ts)))] := by
    show (match st.get (Str.ofString "rest") with
        | some .glo => none
        | some l => if oLaw.capt (Str.ofString "rest") then (match st.get (Str.ofString "texts") with
            | some .glo => none
            | some l => if oLaw.capt (Str.ofString "texts") then (freeOf oLaw.capt st []).map ((Str.ofString "texts", l) :: ·) else none
            | none => none).map ((Str.ofString "rest", l) :: ·) else none
        | none => none).map ((Str.ofString "_ellipsis_match", LV.glo) :: ·) = _
    rw [g1, ht]
    rfl
  have hdot : (sOf rs).length + (Str.ofString "...").length ≤ 4096 := by rw [sOf_len, dots_str, nS_len]; show _ + 3 ≤ 4096; omega
  have elm : ∀ t ∈ M, (es (forest low ts)).lookup t.sym = some (sOf t.txt) ∧ spEll [.str (sOf rs ++ Str.ofString "..."), .str (sOf t.txt)] = some (.bool (decide (rs <+: t.txt))) := fun t mt => by
    have m : t ∈ forest low ts := .tail _ (.tail _ (sh.perm.mem_iff.mp mt))
    have := w.fsmall t m
    exact ⟨w.look m, w.ell_beg hr (w.flets t m) hne hl (by omega)⟩
  obtain ⟨p, hp⟩ : ∃ p : Dat → Bool, ∀ t ∈ M, p (.int t.sym) = decide (rs <+: t.txt) := by
    refine ⟨fun d => match d with | .int s => (match spEll [.str (sOf rs ++ Str.ofString "..."), (((es (forest low ts)).lookup s).map Dat.str).getD .none] with | some (.bool b) => b | _ => false) | _ => false, fun t m => ?_⟩
    obtain ⟨a1, a2⟩ := elm t m
    show (match spEll [.str (sOf rs ++ Str.ofString "..."), (((es (forest low ts)).lookup t.sym).map Dat.str).getD .none] with | some (.bool b) => b | _ => false) = _
    rw [a1]
    show (match spEll [.str (sOf rs ++ Str.ofString "..."), .str (sOf t.txt)] with | some (.bool b) => b | _ => false) = _
    rw [a2]
  have key := lc_filter (O := oLaw) (I := Itp.at oLaw (n + 23)) (st := st) (cap := [(Str.ofString "_ellipsis_match", .glo), (Str.ofString "rest", .val (.str (sOf rs))), (Str.ofString "texts", .dct (es (forest low ts)))]) (e := mcE (mt 4)) p id rfl (by decide) hfr hit (fun d m => by
      obtain ⟨t, mt', rfl⟩ := List.mem_map.mp m
      obtain ⟨a1, a2⟩ := elm t mt'
      rw [hp t mt']
      generalize es (forest low ts) = D at *
      (conv in (mt _) => whnf); (conv in (mt _) => whnf); simp +decide [LSt.get_put, a1, a2, hdot, fn_ell, bi_ell]) (fun d m _ => by
      obtain ⟨t, mt', rfl⟩ := List.mem_map.mp m
      (conv in (occs := *) (mt _) => all_goals whnf); simp +decide [LSt.get_put]) (by rw [dS_len]; omega)
  have efil : ((dS M).filter p).map id = dS (M.filter fun t => decide (rs <+: t.txt)) := by
    rw [List.map_id]
    unfold dS
    rw [List.filter_map]
    congr 1
    exact List.filter_congr fun t m => hp t m
  rw [efil] at key
  have ok := ok_dS (M.filter fun t => decide (rs <+: t.txt))
  have dq := deq_dS (M.filter fun t => decide (rs <+: t.txt)) (M.filter fun t => decide (rs <+: t.txt))
  rw [decide_eq_true rfl] at dq
  generalize dS (M.filter fun t => decide (rs <+: t.txt)) = Z at *
  generalize shelfD low M = A at *
  (conv at key in (mt _) => whnf); simp only [mcE_1, U2_11] at key
  generalize 2 + insI M (sOf rs) = b at *
  generalize 2 + insI M (up (sOf rs)) = e at *
  (conv in (mt _) => whnf); simp +decide [LSt.get_put, hs, g3, g4, l1, hcut, key, ok, dq]
end
end Mine
end

section
open PySem PySem.W PyProof.Rows Builtin.Str
namespace Mine
noncomputable def nt (j : Nat) : Stmt := (blk (mt 5))[j]?.getD (.Pass default)
theorem nt_blk : blk (mt 5) = [nt 0, nt 1, nt 2] := rfl
noncomputable def dR (R : List Tr) : Dat := .list ((syms R).map .int)
noncomputable def goOn (P : List (Int × Int)) (R : List Tr) (t : Tr) : Bool := t.goodB P && onB P R t
section
variable {low tot : Int} {P : List (Int × Int)} {ts M : List Tr} {st : LSt} {n : Nat} {fr rs : List Int}
theorem syms_snoc (R : List Tr) (t : Tr) : syms (R ++ [t]) = syms R ++ [t.sym] := by rw [syms_app]; rfl
theorem goOn_iff (w : Wd low P ts) {xs : List Int} {R : List Tr} (h : RowOf low P ts xs R) (hx : Lets low xs) {t : Tr} (ht : t ∈ forest low ts) : goOn P R t = true ↔ joinT P (xs ++ t.txt) = syms R ++ [t.sym] := by
  rw [← syms_snoc]
  unfold goOn
  rw [Bool.and_eq_true]
  constructor
  · rintro ⟨h1, h2⟩
    exact ((h.snoc w ht h1 h2).syms w).symm
  · intro e
    obtain ⟨R', hR'⟩ := w.rowOf (xs := xs ++ t.txt) fun x m => by
      rcases List.mem_append.mp m with m | m
      · exact hx x m
      · exact w.flets t ht x m
    have e2 := (hR'.syms w).trans e
    have e3 : R' = R ++ [t] := syms_inj hR'.val.wf (fun u m => by
      rcases List.mem_append.mp m with m | m
      · exact h.val.wf u m
      · rw [List.mem_singleton.mp m]; exact w.fwf t ht) e2
    rw [e3] at hR'
    exact (hR'.last w).2
structure MdS (low tot : Int) (P : List (Int × Int)) (ts M : List Tr) (fr : List Int) (TR : List Int → List Tr) (MD : List Dat) (st : LSt) : Prop where
  lw : LwS low tot P ts M st
  front : st.get (Str.ofString "front") = some (.val (.str (sOf fr)))
  rows : st.get (Str.ofString "rows") = some (.own (rowsD TR fr 5))
  whole : st.get (Str.ofString "whole") = some (.own (dS (wholeT P low ts))) ∨ st.get (Str.ofString "whole") = some (.val (.list (dS (wholeT P low ts))))
  made : st.get (Str.ofString "made_rows") = some (.own MD)
theorem MdS.put {TR : List Int → List Tr} {MD : List Dat} (h : MdS low tot P ts M fr TR MD st) {x : Str} {l : LV} (hx : x ∉ lawNames ++ names ["front", "rows", "whole", "made_rows"]) : MdS low tot P ts M fr TR MD (st.put x l) := by
  have h1 : x ∉ lawNames := fun m => hx (List.mem_append_left _ m)
  have h2 : ∀ y ∈ names ["front", "rows", "whole", "made_rows"], (st.put x l).get y = st.get y := fun y m => by
    rw [LSt.get_put, if_neg (mem_ne (fun z => hx (List.mem_append_right _ z)) m)]
  exact ⟨h.lw.put h1, (h2 _ (by decide)).trans h.front, (h2 _ (by decide)).trans h.rows, h.whole.imp (fun z => (h2 _ (by decide)).trans z) (fun z => (h2 _ (by decide)).trans z), (h2 _ (by decide)).trans h.made⟩
theorem MdS.putM {TR : List Int → List Tr} {MD MD' : List Dat} (h : MdS low tot P ts M fr TR MD st) : MdS low tot P ts M fr TR MD' (st.put (Str.ofString "made_rows") (.own MD')) := by
  have h2 : ∀ y ∈ names ["front", "rows", "whole"], (st.put (Str.ofString "made_rows") (.own MD')).get y = st.get y := fun y m => by
    rw [LSt.get_put, if_neg]
    rintro rfl
    revert m
    decide
  exact ⟨h.lw.put (by decide), (h2 _ (by decide)).trans h.front, (h2 _ (by decide)).trans h.rows, h.whole.imp (fun z => (h2 _ (by decide)).trans z) (fun z => (h2 _ (by decide)).trans z), by rw [LSt.get_put, if_pos rfl]⟩
theorem nt0 (w : Wd low P ts) {TR : List Int → List Tr} (hT : ∀ xs, Lets low xs → RowOf low P ts xs (TR xs)) (hf : Lets low fr) (hfl : fr.length = 4) {k : Nat} (hk : k < 4) {t : Tr} (ht : t ∈ forest low ts) {MD : List Dat} (h : MdS low tot P ts M fr TR MD st)
    (g1 : st.get (Str.ofString "k") = some (.val (.int (k : Int)))) (g2 : st.get (Str.ofString "symbol") = some (.val (.int t.sym))) :
    exS oLaw (Itp.at oLaw (n + 24)) st (nt 0) = some (.nx, st.put (Str.ofString "good") (.val (.bool (goOn P (TR (fr.take k)) t)))) := by
  have h4 := w.le4
  have wm := whole_mem w ht (k := ts.length) (w.fsym_lt ht) (Nat.le_refl _)
  rw [List.take_length] at wm
  have o0 : okD 6 (Dat.int t.sym) = true := rfl
  have o1 := ok_dS (wholeT P low ts)
  have n1 := any_dS t.sym (wholeT P low ts)
  have d1 : decide (t.sym ∈ (wholeT P low ts).map Tr.sym) = t.goodB P := by
    cases hg : t.goodB P with
    | true => exact decide_eq_true (wm.mpr hg)
    | false => exact decide_eq_false fun z => by rw [wm.mp z] at hg; cases hg
  rw [d1] at n1
  have hR := hT _ (lets_take hf k)
  have hr := h.rows
  have hx := rowsD_at TR fr (k := 5) (j := k) (Nat.lt_succ_of_lt hk)
  have hi := idxNat (rowsD TR fr 5) k (by rw [rowsD_len]; exact Nat.lt_succ_of_lt hk) (by rw [rowsD_len]; decide)
  have k3 := h.lw.hg (Str.ofString "_law_along") (by decide)
  have hpr := h.lw.hpairs
  have hw : bnd (bnd (st.get (Str.ofString "whole")) (lvO oLaw (Str.ofString "whole"))) RV.dat = some (.list (dS (wholeT P low ts))) := by
    rcases h.whole with z | z
    · rw [z]; rfl
    · rw [z]; rfl
  clear h4 wm d1
  generalize rowsD TR fr 5 = A at hx hi hr
  generalize dS (wholeT P low ts) = W at o1 n1 hw
  unfold goOn
  cases hg : t.goodB P with
  | false =>
    rw [hg] at n1
    rw [Bool.false_and]
    (conv in (nt _) => whnf); simp +decide [g1, g2, hw, o0, o1, n1]
  | true =>
    rw [hg] at n1
    rw [Bool.true_and]
    by_cases hk0 : k = 0
    · subst hk0
      have e : TR (fr.take 0) = [] := hR.uniq w RowOf.nil
      have ho : onB P (TR (fr.take 0)) t = true := by rw [e]; rfl
      rw [ho]
      (conv in (nt _) => whnf); simp +decide [g1, g2, hw, o0, o1, n1]
    · have hk1 : ¬ ((k : Int) = 0) := fun z => hk0 (Int.ofNat.inj z)
      rcases List.eq_nil_or_concat (TR (fr.take k)) with e | ⟨B, u, e⟩
      · rw [e] at hR
        have := hR.txt
        have := congrArg List.length this
        rw [List.length_take, hfl] at this
        rw [Nat.min_eq_left (Nat.le_of_lt hk)] at this; exact absurd this.symm hk0
      · rw [List.concat_eq_append] at e
        have mu := hR.mem u (by rw [e]; exact List.mem_append_right _ (.head _))
        have al := w.along mu ht (w.lt999 mu) (w.lt999 ht)
        have ho : onB P (TR (fr.take k)) t = alB P 999 u t := by unfold onB; rw [e, List.getLast?_concat]
        rw [ho]
        unfold rowD at hx
        rw [e, syms_snoc, List.map_append] at hx
        have hx : A[k]? = some (.list ((syms B).map Dat.int ++ [.int u.sym])) := hx
        have hBl : ((syms B).map Dat.int).length < 4000 := by
          have h3 := row_len hR
          rw [e, syms_snoc, List.length_append, List.length_take, hfl] at h3
          rw [List.length_map]
          exact Nat.lt_of_lt_of_le h3 (Nat.le_trans (Nat.min_le_right _ _) (by decide))
        have il := idxLast ((syms B).map Dat.int) (.int u.sym) hBl
        generalize (syms B).map Dat.int = C at hx il
        (conv in (nt _) => whnf); simp +decide [g1, g2, hw, o0, o1, n1, hk0, hk1, hr, hi, hx, il, k3, hpr, al, fn_along, bi_along]
theorem nt1 (w : Wd low P ts) {TR : List Int → List Tr} (hT : ∀ xs, Lets low xs → RowOf low P ts xs (TR xs)) (hf : Lets low fr) (hfl : fr.length = 4) {k : Nat} (hk : k < 4) {t : Tr} (ht : t ∈ forest low ts) {MD : List Dat} (h : MdS low tot P ts M fr TR MD st)
    (g1 : st.get (Str.ofString "k") = some (.val (.int (k : Int)))) (g2 : st.get (Str.ofString "symbol") = some (.val (.int t.sym))) (g3 : st.get (Str.ofString "good") = some (.val (.bool (goOn P (TR (fr.take k)) t)))) :
    exS oLaw (Itp.at oLaw (n + 24)) st (nt 1) = some (.nx, st) := by
  have h4 := w.le4
  have hl := w.len
  have t5 := w.fsmall t ht
  have tl := w.flets t ht
  have hR := hT _ (lets_take hf k)
  have hx := rowsD_at TR fr (k := 5) (j := k) (Nat.lt_succ_of_lt hk)
  have hi := idxNat (rowsD TR fr 5) k (by rw [rowsD_len]; exact Nat.lt_succ_of_lt hk) (by rw [rowsD_len]; decide)
  have hr := h.rows
  have hpr := h.lw.hpairs
  have htx := h.lw.htexts
  have hfr := h.front
  have look := w.look ht
  have kj := h.lw.hg (Str.ofString "_law_joined") (by decide)
  have hlets : Lets low (fr.take k ++ t.txt) := fun x m => by
    rcases List.mem_append.mp m with m | m
    · exact hf x (List.mem_of_mem_take m)
    · exact tl x m
  have hj : spJoin [.str (sOf (fr.take k ++ t.txt)), .list (P.map dPair)] = some (.list ((joinT P (fr.take k ++ t.txt)).map .int)) := join_eq w.plen (by rw [List.length_append, List.length_take, hfl]; exact Nat.le_trans (Nat.add_le_add (Nat.min_le_right _ _) t5) (by decide)) (w.nn hlets)
  have hsl := slcS_take fr k
  have hcat := sOf_app (fr.take k) t.txt
  have l1 : (sOf fr).length ≤ 4096 := by rw [sOf_len, hfl]; decide
  have l2 : (sOf (fr.take k)).length + (sOf t.txt).length ≤ 4096 := by rw [sOf_len, sOf_len, List.length_take, hfl]; exact Nat.le_trans (Nat.add_le_add (Nat.min_le_right _ _) t5) (by decide)
  have ok1 := ok_ints (joinT P (fr.take k ++ t.txt))
  have ok2 := ok_ints (syms (TR (fr.take k)) ++ [t.sym])
  have dq := deq_ints (joinT P (fr.take k ++ t.txt)) (syms (TR (fr.take k)) ++ [t.sym])
  have hgo := goOn_iff w hR (lets_take hf k) ht
  have dgo : decide (joinT P (fr.take k ++ t.txt) = syms (TR (fr.take k)) ++ [t.sym]) = goOn P (TR (fr.take k)) t := by
    cases hg : goOn P (TR (fr.take k)) t with
    | true => exact decide_eq_true (hgo.mp hg)
    | false => exact decide_eq_false fun z => by rw [hgo.mpr z] at hg; cases hg
  rw [dgo] at dq
  have hRl : (syms (TR (fr.take k))).length ≤ 4 := by
    exact Nat.le_trans (row_len hR) (by rw [List.length_take, hfl]; exact Nat.min_le_right _ _)
  have e2 : ((syms (TR (fr.take k)) ++ [t.sym]).map Dat.int) = (syms (TR (fr.take k))).map Dat.int ++ [.int t.sym] := by rw [List.map_append]; rfl
  rw [e2] at ok2 dq
  unfold rowD at hx
  have l3 : ((syms (TR (fr.take k))).map Dat.int).length + 1 ≤ 4096 := by rw [List.length_map]; exact Nat.le_trans (Nat.succ_le_succ hRl) (by decide)
  clear h4 hl tl hR hlets hgo dgo hRl e2
  generalize rowsD TR fr 5 = A at hx hi hr
  generalize (syms (TR (fr.take k))).map Dat.int = B at hx ok2 dq l3
  generalize (joinT P (fr.take k ++ t.txt)).map Dat.int = J at hj ok1 dq
  generalize es (forest low ts) = D at htx look
  generalize P.map dPair = C at hpr hj
  generalize goOn P (TR (fr.take k)) t = b at g3 dq
  have bb : (b == b) = true := by cases b <;> rfl
  (conv in (nt _) => whnf); simp +decide [g1, g2, g3, hr, hi, hx, hpr, htx, hfr, look, kj, hj, hsl, hcat, l1, l2, l3, ok1, ok2, dq, bb, fn_joined, bi_joined]
theorem nt2 (w : Wd low P ts) {TR : List Int → List Tr} {k : Nat} (hk : k < 4) {t : Tr} {MD : List Dat} (hM : MD.length ≤ 1000) {b : Bool} (h : MdS low tot P ts M fr TR MD st) (hRl : ((syms (TR (fr.take k))).map Dat.int).length ≤ 100)
    (g1 : st.get (Str.ofString "k") = some (.val (.int (k : Int)))) (g2 : st.get (Str.ofString "symbol") = some (.val (.int t.sym))) (g3 : st.get (Str.ofString "good") = some (.val (.bool b))) :
    ∃ st', exS oLaw (Itp.at oLaw (n + 24)) st (nt 2) = some (.nx, st') ∧ MdS low tot P ts M fr TR (MD ++ if b then [dR (TR (fr.take k) ++ [t])] else []) st' ∧ (∀ x, x ≠ Str.ofString "made_rows" → st'.get x = st.get x) := by
  cases b with
  | false =>
    refine ⟨st, ?_, by rw [if_neg (by decide), List.append_nil]; exact h, fun _ _ => rfl⟩
    (conv in (nt _) => whnf); simp +decide [LSt.get_put, g3]
  | true =>
    rw [if_pos rfl]
    refine ⟨st.put (Str.ofString "made_rows") (.own (MD ++ [dR (TR (fr.take k) ++ [t])])), ?_, h.putM, fun x hx => by rw [LSt.get_put, if_neg hx]⟩
    have hx := rowsD_at TR fr (k := 5) (j := k) (Nat.lt_succ_of_lt hk)
    have hi := idxNat (rowsD TR fr 5) k (by rw [rowsD_len]; exact Nat.lt_succ_of_lt hk) (by rw [rowsD_len]; decide)
    have hr := h.rows
    have hm := h.made
    have e : dR (TR (fr.take k) ++ [t]) = .list ((syms (TR (fr.take k))).map Dat.int ++ [.int t.sym]) := by unfold dR; rw [syms_snoc, List.map_append]; rfl
    rw [e]
    unfold rowD at hx
    generalize rowsD TR fr 5 = A at hx hi hr
    generalize (syms (TR (fr.take k))).map Dat.int = B at hx hRl ⊢
    have l1 : B.length + 1 ≤ 4096 := Nat.le_trans (Nat.succ_le_succ hRl) (by decide)
    have l2 : MD.length ≤ 4096 := Nat.le_trans hM (by decide)
    (conv in (nt _) => whnf); simp +decide [g1, g2, g3, hr, hi, hx, hm, l1, l2]
end
end Mine
end

section
open PySem PySem.W PyProof.Rows Builtin.Str
namespace Mine
section
variable {low tot : Int} {P : List (Int × Int)} {ts M : List Tr} {st : LSt} {n : Nat} {fr rs : List Int}
noncomputable def madeD (P : List (Int × Int)) (R : List Tr) (A : List Tr) : List Dat := (A.filter (goOn P R)).map fun t => dR (R ++ [t])
theorem n_loop (w : Wd low P ts) {TR : List Int → List Tr} (hT : ∀ xs, Lets low xs → RowOf low P ts xs (TR xs)) (hf : Lets low fr) (hfl : fr.length = 4) {k : Nat} (hk : k < 4) : ∀ (A : List Tr) (st : LSt) (MD : List Dat), (∀ t ∈ A, t ∈ forest low ts) → MdS low tot P ts M fr TR MD st →
    st.get (Str.ofString "k") = some (.val (.int (k : Int))) → MD.length + A.length ≤ 900 →
    ∃ st', forLoop (Itp.at oLaw (n + 28)) (Str.ofString "symbol") (blk (mt 5)) st (dS A) = some (.nx, st') ∧ MdS low tot P ts M fr TR (MD ++ madeD P (TR (fr.take k)) A) st' ∧ (∀ x, x ∉ names ["symbol", "good", "made_rows"] → st'.get x = st.get x) := by
  intro A
  induction A with
  | nil => exact fun st MD _ h _ _ => ⟨st, rfl, (List.append_nil MD).symm ▸ h, fun _ _ => rfl⟩
  | cons t A ih =>
    intro st MD hA h g1 hl
    rw [List.length_cons] at hl
    have ht := hA t (.head _)
    have h1 := h.put (x := Str.ofString "symbol") (l := .val (.int t.sym)) (by decide)
    have k1 : (st.put (Str.ofString "symbol") (.val (.int t.sym))).get (Str.ofString "k") = some (.val (.int (k : Int))) := npt g1 rfl
    have s1 : (st.put (Str.ofString "symbol") (.val (.int t.sym))).get (Str.ofString "symbol") = some (.val (.int t.sym)) := spt
    have e0 := nt0 (n := n + 3) w hT hf hfl hk ht h1 k1 s1
    obtain ⟨st2, hst2⟩ : ∃ st2, st2 = (st.put (Str.ofString "symbol") (.val (.int t.sym))).put (Str.ofString "good") (.val (.bool (goOn P (TR (fr.take k)) t))) := ⟨_, rfl⟩
    rw [← hst2] at e0
    have h2 : MdS low tot P ts M fr TR MD st2 := by rw [hst2]; exact h1.put (by decide)
    have k2 : st2.get (Str.ofString "k") = some (.val (.int (k : Int))) := hst2 ▸ npt k1 rfl
    have s2 : st2.get (Str.ofString "symbol") = some (.val (.int t.sym)) := hst2 ▸ npt s1 rfl
    have q2 : st2.get (Str.ofString "good") = some (.val (.bool (goOn P (TR (fr.take k)) t))) := hst2 ▸ spt
    have e1 := nt1 (n := n + 2) w hT hf hfl hk ht h2 k2 s2 q2
    have hRl := row_len (hT _ (lets_take hf k))
    rw [List.length_take, hfl] at hRl
    obtain ⟨st3, e2, h3, k3⟩ := nt2 (n := n + 1) w hk (Nat.le_trans (Nat.le_add_right _ _) (Nat.le_trans hl (by decide))) h2 (by rw [List.length_map]; exact Nat.le_trans hRl (Nat.le_trans (Nat.min_le_right _ _) (by decide))) k2 s2 q2
    obtain ⟨st4, e4, h4, k4⟩ := ih st3 _ (fun u m => hA u (.tail _ m)) h3 ((k3 _ (by decide)).trans k2) (by
      refine Nat.le_trans ?_ hl
      rw [List.length_append, Nat.add_comm A.length, ← Nat.add_assoc]
      refine Nat.add_le_add_right (Nat.add_le_add_left ?_ _) _
      split
      · exact Nat.le_refl _
      · exact Nat.zero_le _)
    refine ⟨st4, ?_, ?_, fun x hx => ?_⟩
    · show forLoop _ _ _ st (.int t.sym :: dS A) = _
      have e5 := ex_cons (r := [nt 1, nt 2]) e0 (ex_cons e1 (ex_cons (r := []) e2 rfl))
      rw [for_cons, nt_blk, e5]
      exact e4
    · rw [List.append_assoc] at h4
      have : madeD P (TR (fr.take k)) (t :: A) = (if goOn P (TR (fr.take k)) t then [dR (TR (fr.take k) ++ [t])] else []) ++ madeD P (TR (fr.take k)) A := by
        unfold madeD
        rw [List.filter_cons]
        cases goOn P (TR (fr.take k)) t with
        | true => rfl
        | false => rfl
      rw [this]
      exact h4
    · have hx1 : ∀ y ∈ names ["symbol", "good", "made_rows"], x ≠ y := fun y m e => hx (by rw [e]; exact m)
      rw [k4 x hx, k3 x (hx1 _ (by decide)), hst2, LSt.get_put, if_neg (hx1 _ (by decide)), LSt.get_put, if_neg (hx1 _ (by decide))]
noncomputable def zOf (low : Int) (M : List Tr) (rs : List Int) : List Tr := M.filter (fun t => decide (rs <+: t.txt)) ++ [Tr.lf low, Tr.lf 255].filter (fun t => decide (t.txt = rs))
noncomputable def binR (e : Expr) : Expr := pick e e (bin := fun r => r)
noncomputable def m5L : Expr := binR (tstOf (mt 5))
theorem mt5_items (w : Wd low P ts) (sh : Shf ts M) (h : LwS low tot P ts M st) (hr : Lets low rs) (g1 : st.get (Str.ofString "rest") = some (.val (.str (sOf rs)))) (g3 : st.get (Str.ofString "begin") = some (.val (.int ((2 + insI M (sOf rs) : Nat) : Int)))) (g4 : st.get (Str.ofString "end") = some (.val (.int ((2 + insI M (up (sOf rs)) : Nat) : Int)))) :
    itemsOf (Itp.at oLaw (n + 24)) (evV (Itp.at oLaw (n + 24))) st (tstOf (mt 5)) = some (dS (zOf low M rs)) := by
  have h4 := w.le4
  have hm := sh.perm.length_eq
  obtain ⟨hbe, hst⟩ := stretch w sh hr
  have hcut := shelf_cut low M (b := insI M (sOf rs)) (insI_le M (up (sOf rs)))
  rw [← hst] at hcut
  have hM4 : M.length ≤ 4 := hm ▸ h4
  have l1 : (shelfD low M).length ≤ 4096 := by rw [shelf_len]; exact Nat.le_trans (Nat.add_le_add_right hM4 3) (by decide)
  have hs := h.hshelf
  have ht := h.htexts
  have s2 : slcD (shelfD low M) none (some 2) = dS [Tr.lf low, Tr.lf 255] := slc_take (shelfD low M) 2
  have hit : itemsOf (Itp.at oLaw (n + 22)) (evD (Itp.at oLaw (n + 22))) st (gI m5L) = some (dS [Tr.lf low, Tr.lf 255]) := by
    have l2 : (dS [Tr.lf low, Tr.lf 255]).length ≤ 4096 := by rw [dS_len]; simp
    generalize shelfD low M = A at *
    generalize dS [Tr.lf low, Tr.lf 255] = B at *
    (conv in m5L => whnf); simp +decide [LSt.get_put, hs, s2, l1, l2]
  have hfr : freeOf oLaw.capt st (gS m5L).names = some [(Str.ofString "rest", .val (.str (sOf rs))), (Str.ofString "texts", .dct (es (forest low ts)))] := by
    show (match st.get (Str.ofString "rest") with
        | some .glo => none
        | some l => if oLaw.capt (Str.ofString "rest") then (match st.get (Str.ofString "texts") with
            | some .glo => none
            | some l => if oLaw.capt (Str.ofString "texts") then (freeOf oLaw.capt st []).map ((Str.ofString "texts", l) :: ·) else none
            | none => none).map ((Str.ofString "rest", l) :: ·) else none
        | none => none) = _
    rw [g1, ht]
    rfl
  have elm : ∀ t ∈ [Tr.lf low, Tr.lf 255], (es (forest low ts)).lookup t.sym = some (sOf t.txt) ∧ decide (sOf t.txt = sOf rs) = decide (t.txt = rs) := fun t m => by
    have mF : t ∈ forest low ts := by
      rcases List.mem_cons.mp m with rfl | m
      · exact .head _
      · rw [List.mem_singleton.mp m]; exact .tail _ (.head _)
    refine ⟨w.look mF, ?_⟩
    have : sOf t.txt = sOf rs ↔ t.txt = rs := by
      rw [sOf_nS, sOf_nS, nS_inj]
      exact ⟨map_inj_nat (w.nn (w.flets t mF)) (w.nn hr), fun e => by rw [e]⟩
    simp only [this]
  obtain ⟨p, hp⟩ : ∃ p : Dat → Bool, ∀ t ∈ [Tr.lf low, Tr.lf 255], p (.int t.sym) = decide (t.txt = rs) := by
    refine ⟨fun d => match d with | .int s => (match (es (forest low ts)).lookup s with | some x => decide (x = sOf rs) | none => false) | _ => false, fun t m => ?_⟩
    obtain ⟨a1, a2⟩ := elm t m
    show (match (es (forest low ts)).lookup t.sym with | some x => decide (x = sOf rs) | none => false) = _
    rw [a1]
    exact a2
  have key := lc_filter (O := oLaw) (I := Itp.at oLaw (n + 22)) (st := st) (cap := [(Str.ofString "rest", .val (.str (sOf rs))), (Str.ofString "texts", .dct (es (forest low ts)))]) (e := m5L) p id rfl (by decide) hfr hit (fun d m => by
      obtain ⟨t, mt', rfl⟩ := List.mem_map.mp m
      obtain ⟨a1, a2⟩ := elm t mt'
      rw [hp t mt', ← a2]
      generalize es (forest low ts) = D at *
      (conv in m5L => whnf); (conv in m5L => whnf); simp +decide [LSt.get_put, a1]) (fun d m _ => by
      obtain ⟨t, mt', rfl⟩ := List.mem_map.mp m
      (conv in m5L => whnf); (conv in m5L => whnf); simp +decide [LSt.get_put]) (by rw [dS_len]; simp)
  have efil : ((dS [Tr.lf low, Tr.lf 255]).filter p).map id = dS ([Tr.lf low, Tr.lf 255].filter fun t => decide (t.txt = rs)) := by
    rw [List.map_id]
    unfold dS
    rw [List.filter_map]
    congr 1
    exact List.filter_congr fun t m => hp t m
  rw [efil] at key
  have ez : dS (M.filter fun t => decide (rs <+: t.txt)) ++ dS ([Tr.lf low, Tr.lf 255].filter fun t => decide (t.txt = rs)) = dS (zOf low M rs) := by
    unfold zOf dS
    rw [List.map_append]
  have lz1 : (dS (M.filter fun t => decide (rs <+: t.txt))).length ≤ 4 := by
    rw [dS_len]; exact Nat.le_trans (List.length_filter_le _ _) hM4
  have lz2 : (dS ([Tr.lf low, Tr.lf 255].filter fun t => decide (t.txt = rs))).length ≤ 2 := by
    rw [dS_len]; exact List.length_filter_le (fun t => decide (t.txt = rs)) [Tr.lf low, Tr.lf 255]
  rw [← ez]
  generalize dS (M.filter fun t => decide (rs <+: t.txt)) = Z at *
  generalize dS ([Tr.lf low, Tr.lf 255].filter fun t => decide (t.txt = rs)) = Y at *
  generalize shelfD low M = A at *
  have l5 : Z.length + Y.length ≤ 4096 := Nat.le_trans (Nat.add_le_add lz1 lz2) (by decide)
  (conv at key in m5L => whnf); simp only [U2_11] at key
  generalize 2 + insI M (sOf rs) = b at *
  generalize 2 + insI M (up (sOf rs)) = e at *
  (conv in (mt _) => whnf); simp +decide [LSt.get_put, hs, g3, g4, l1, hcut, key, l5]
end
end Mine
end

section
open PySem PySem.W PyProof.Rows Builtin.Str
namespace Mine
section
variable {low tot : Int} {P : List (Int × Int)} {ts M : List Tr} {st : LSt} {n : Nat} {fr rs : List Int}
theorem mt5_for (I : Itp) (O : Orc) (st : LSt) : exS O I st (mt 5) = if O.loc (Str.ofString "symbol") = false then none else (itemsOf I (evV I) st (tstOf (mt 5))).bind fun ds => forLoop I (Str.ofString "symbol") (blk (mt 5)) st ds := rfl
theorem zOf_mem (w : Wd low P ts) (sh : Shf ts M) {t : Tr} (h : t ∈ zOf low M rs) : t ∈ forest low ts ∧ rs <+: t.txt := by
  rcases List.mem_append.mp h with m | m
  · obtain ⟨m1, m2⟩ := List.mem_filter.mp m
    exact ⟨.tail _ (.tail _ (sh.perm.mem_iff.mp m1)), of_decide_eq_true m2⟩
  · obtain ⟨m1, m2⟩ := List.mem_filter.mp m
    refine ⟨?_, ?_⟩
    · simp only [List.mem_cons, List.not_mem_nil, or_false] at m1
      rcases m1 with rfl | rfl
      · exact .head _
      · exact .tail _ (.head _)
    · rw [of_decide_eq_true m2]; exact List.prefix_refl _
theorem zOf_len (sh : Shf ts M) : (zOf low M rs).length ≤ ts.length + 2 := by
  unfold zOf
  rw [List.length_append]
  have h1 := List.length_filter_le (fun t => decide (rs <+: t.txt)) M
  have h2 := List.length_filter_le (fun t => decide (t.txt = rs)) [Tr.lf low, Tr.lf 255]
  rw [sh.perm.length_eq] at h1
  have h3 : [Tr.lf low, Tr.lf 255].length = 2 := rfl
  omega
theorem made_turn (w : Wd low P ts) (sh : Shf ts M) {TR : List Int → List Tr} (hT : ∀ xs, Lets low xs → RowOf low P ts xs (TR xs)) (hf : Lets low fr) (hfl : fr.length = 4) {k : Nat} (hk : k < 4) {MD : List Dat} (hM : MD.length ≤ 100) (h : MdS low tot P ts M fr TR MD st) (hw : st.get (Str.ofString "words") = some (.val (.list (wordsD M)))) :
    ∃ st', (Itp.at oLaw (n + 40)).exs (st.put (Str.ofString "k") (.val (.int (k : Int)))) (blk (stm 17 16)) = some (.nx, st') ∧ MdS low tot P ts M fr TR (MD ++ madeD P (TR (fr.take k)) (zOf low M (fr.drop k))) st' ∧ st'.get (Str.ofString "words") = some (.val (.list (wordsD M))) := by
  have h4 := w.le4
  have hr : Lets low (fr.drop k) := fun x m => hf x (List.mem_of_mem_drop m)
  have hrl : (fr.drop k).length = 4 - k := by rw [List.length_drop, hfl]
  have hne : fr.drop k ≠ [] := fun e => by rw [e] at hrl; simp at hrl; omega
  have h0 := h.put (x := Str.ofString "k") (l := .val (.int (k : Int))) (by decide)
  obtain ⟨s0, hs0⟩ : ∃ s0, s0 = st.put (Str.ofString "k") (.val (.int (k : Int))) := ⟨_, rfl⟩
  rw [← hs0] at h0 ⊢
  have k0 : s0.get (Str.ofString "k") = some (.val (.int (k : Int))) := by rw [hs0, LSt.get_put, if_pos rfl]
  have w0 : s0.get (Str.ofString "words") = some (.val (.list (wordsD M))) := by rw [hs0, LSt.get_put, if_neg (by decide)]; exact hw
  have e0 := mt0 (n := n + 15) hfl h0.front k0
  have h1 := h0.put (x := Str.ofString "rest") (l := .val (.str (sOf (fr.drop k)))) (by decide)
  obtain ⟨s1, hs1⟩ : ∃ s1, s1 = s0.put (Str.ofString "rest") (.val (.str (sOf (fr.drop k)))) := ⟨_, rfl⟩
  rw [← hs1] at h1 e0
  have r1 : s1.get (Str.ofString "rest") = some (.val (.str (sOf (fr.drop k)))) := by rw [hs1, LSt.get_put, if_pos rfl]
  have k1 : s1.get (Str.ofString "k") = some (.val (.int (k : Int))) := by rw [hs1, LSt.get_put, if_neg (by decide)]; exact k0
  have w1 : s1.get (Str.ofString "words") = some (.val (.list (wordsD M))) := by rw [hs1, LSt.get_put, if_neg (by decide)]; exact w0
  have e1 := mt1 (n := n + 14) w sh h1.lw r1
  obtain ⟨b, hb⟩ : ∃ b, b = 2 + insI M (sOf (fr.drop k)) := ⟨_, rfl⟩
  obtain ⟨s2, hs2⟩ : ∃ s2, s2 = s1.put (Str.ofString "begin") (.val (.int ((2 + insI M (sOf (fr.drop k)) : Nat) : Int))) := ⟨_, rfl⟩
  have h2 : MdS low tot P ts M fr TR MD s2 := by rw [hs2]; exact h1.put (by decide)
  rw [← hs2] at e1
  have r2 : s2.get (Str.ofString "rest") = some (.val (.str (sOf (fr.drop k)))) := by rw [hs2, LSt.get_put, if_neg (by decide)]; exact r1
  have k2 : s2.get (Str.ofString "k") = some (.val (.int (k : Int))) := by rw [hs2, LSt.get_put, if_neg (by decide)]; exact k1
  have w2 : s2.get (Str.ofString "words") = some (.val (.list (wordsD M))) := by rw [hs2, LSt.get_put, if_neg (by decide)]; exact w1
  have b2 : s2.get (Str.ofString "begin") = some (.val (.int ((2 + insI M (sOf (fr.drop k)) : Nat) : Int))) := by rw [hs2, LSt.get_put, if_pos rfl]
  have e2 := mt2 (n := n + 13) w sh h2.lw r2 w2 (by omega)
  obtain ⟨s3, hs3⟩ : ∃ s3, s3 = s2.put (Str.ofString "end") (.val (.int ((2 + insI M (up (sOf (fr.drop k))) : Nat) : Int))) := ⟨_, rfl⟩
  have h3 : MdS low tot P ts M fr TR MD s3 := by rw [hs3]; exact h2.put (by decide)
  rw [← hs3] at e2
  have r3 : s3.get (Str.ofString "rest") = some (.val (.str (sOf (fr.drop k)))) := by rw [hs3, LSt.get_put, if_neg (by decide)]; exact r2
  have k3 : s3.get (Str.ofString "k") = some (.val (.int (k : Int))) := by rw [hs3, LSt.get_put, if_neg (by decide)]; exact k2
  have w3 : s3.get (Str.ofString "words") = some (.val (.list (wordsD M))) := by rw [hs3, LSt.get_put, if_neg (by decide)]; exact w2
  have b3 : s3.get (Str.ofString "begin") = some (.val (.int ((2 + insI M (sOf (fr.drop k)) : Nat) : Int))) := by rw [hs3, LSt.get_put, if_neg (by decide)]; exact b2
  have n3 : s3.get (Str.ofString "end") = some (.val (.int ((2 + insI M (up (sOf (fr.drop k))) : Nat) : Int))) := by rw [hs3, LSt.get_put, if_pos rfl]
  have e3 := mt3 (n := n + 12) w sh h3.lw r3 w3 b3
  have e4 := mt4 (n := n + 11) w sh h3.lw hr hne (by omega) r3 b3 n3
  have hit := mt5_items (n := n + 10) w sh h3.lw hr r3 b3 n3
  obtain ⟨s4, e5, h5, k5⟩ := n_loop (n := n + 6) w hT hf hfl hk (zOf low M (fr.drop k)) s3 MD (fun t m => (zOf_mem w sh m).1) h3 k3 (by have := zOf_len (low := low) (rs := fr.drop k) sh; omega)
  refine ⟨s4, ?_, h5, (k5 _ (by decide)).trans w3⟩
  rw [mt_blk, exs_c, e0]
  simp only [Option.bind_some]
  rw [exs_c, e1]
  simp only [Option.bind_some]
  rw [exs_c, e2]
  simp only [Option.bind_some]
  rw [exs_c, e3]
  simp only [Option.bind_some]
  rw [exs_c, e4]
  simp only [Option.bind_some]
  rw [exs_c, mt5_for, if_neg (by decide), hit]
  simp only [Option.bind_some]
  rw [e5]
  rfl
theorem lw16_for (I : Itp) (O : Orc) (st : LSt) : exS O I st (stm 17 16) = if O.loc (Str.ofString "k") = false then none else (itemsOf I (evV I) st (tstOf (stm 17 16))).bind fun ds => forLoop I (Str.ofString "k") (blk (stm 17 16)) st ds := rfl
noncomputable def madeT (P : List (Int × Int)) (low : Int) (M : List Tr) (TR : List Int → List Tr) (fr : List Int) (k : Nat) : List (List Tr) := ((zOf low M (fr.drop k)).filter (goOn P (TR (fr.take k)))).map fun t => TR (fr.take k) ++ [t]
noncomputable def madeAll (P : List (Int × Int)) (low : Int) (M : List Tr) (TR : List Int → List Tr) (fr : List Int) : List (List Tr) := madeT P low M TR fr 0 ++ madeT P low M TR fr 1 ++ madeT P low M TR fr 2 ++ madeT P low M TR fr 3
theorem madeD_eq (TR : List Int → List Tr) (k : Nat) : madeD P (TR (fr.take k)) (zOf low M (fr.drop k)) = (madeT P low M TR fr k).map dR := by
  unfold madeD madeT
  rw [List.map_map]
  rfl
theorem madeT_len (sh : Shf ts M) (TR : List Int → List Tr) (k : Nat) : (madeT P low M TR fr k).length ≤ ts.length + 2 := by
  unfold madeT
  rw [List.length_map]
  exact Nat.le_trans (List.length_filter_le _ _) (zOf_len sh)
theorem lw16 (w : Wd low P ts) (sh : Shf ts M) {TR : List Int → List Tr} (hT : ∀ xs, Lets low xs → RowOf low P ts xs (TR xs)) (hf : Lets low fr) (hfl : fr.length = 4) (h : MdS low tot P ts M fr TR [] st) (hw : st.get (Str.ofString "words") = some (.val (.list (wordsD M)))) :
    ∃ st', exS oLaw (Itp.at oLaw (n + 40)) st (stm 17 16) = some (.nx, st') ∧ MdS low tot P ts M fr TR ((madeAll P low M TR fr).map dR) st' := by
  have h4 := w.le4
  have hit : itemsOf (Itp.at oLaw (n + 40)) (evV (Itp.at oLaw (n + 40))) st (tstOf (stm 17 16)) = some [.int ((0 : Nat) : Int), .int ((1 : Nat) : Int), .int ((2 : Nat) : Int), .int ((3 : Nat) : Int)] := by
    have g := h.lw.hg (Str.ofString "range") (by decide)
    have e : (List.range (4 : Nat)).map (fun i : Nat => Dat.int (i : Int)) = [.int ((0 : Nat) : Int), .int ((1 : Nat) : Int), .int ((2 : Nat) : Int), .int ((3 : Nat) : Int)] := rfl
    (conv in (stm _ _) => whnf); simp +decide [LSt.get_put, isGlo_of, g]
    exact e
  have hl : ∀ k, (madeD P (TR (fr.take k)) (zOf low M (fr.drop k))).length ≤ 6 := fun k => by
    rw [madeD_eq, List.length_map]; have := madeT_len (P := P) (low := low) (fr := fr) sh TR k; omega
  have l0 := hl 0
  have l1 := hl 1
  have l2 := hl 2
  obtain ⟨s1, e1, h1, w1⟩ := made_turn (n := n) (k := 0) w sh hT hf hfl (by decide) (by simp) h hw
  obtain ⟨s2, e2, h2, w2⟩ := made_turn (n := n) (k := 1) w sh hT hf hfl (by decide) (by rw [List.length_append, List.length_nil]; omega) h1 w1
  obtain ⟨s3, e3, h3, w3⟩ := made_turn (n := n) (k := 2) w sh hT hf hfl (by decide) (by rw [List.length_append, List.length_append, List.length_nil]; omega) h2 w2
  obtain ⟨s4, e4, h4', w4⟩ := made_turn (n := n) (k := 3) w sh hT hf hfl (by decide) (by rw [List.length_append, List.length_append, List.length_append, List.length_nil]; omega) h3 w3
  refine ⟨s4, ?_, ?_⟩
  · rw [lw16_for, if_neg (by decide), hit]
    simp only [Option.bind_some]
    rw [for_cons, e1]
    simp only [Option.bind_some]
    rw [for_cons, e2]
    simp only [Option.bind_some]
    rw [for_cons, e3]
    simp only [Option.bind_some]
    rw [for_cons, e4]
    rfl
  · rw [madeD_eq, madeD_eq, madeD_eq, madeD_eq, List.nil_append] at h4'
    unfold madeAll
    rw [List.map_append, List.map_append, List.map_append]
    exact h4'
end
end Mine
end

section
open PySem PySem.W PyProof.Rows Builtin.Str
namespace Mine
theorem split_row (R : List Tr) : ∀ n : Nat, 0 < n → n ≤ (txtR R).length → ∃ A t B, R = A ++ t :: B ∧ (txtR A).length < n ∧ n ≤ (txtR A).length + t.txt.length := by
  induction R with
  | nil => exact fun n h0 h => absurd h0 (Nat.not_lt.mpr h)
  | cons t R ih =>
    intro n h0 h
    have e : ∀ X, (txtR (t :: X)).length = t.txt.length + (txtR X).length := fun X => List.length_append
    by_cases hn : n ≤ t.txt.length
    · exact ⟨[], t, R, rfl, h0, Nat.le_trans hn (Nat.le_add_left _ _)⟩
    · rw [e] at h
      obtain ⟨A, u, B, e1, e2, e3⟩ := ih (n - t.txt.length) (Nat.sub_pos_of_lt (Nat.lt_of_not_le hn)) (Nat.sub_le_iff_le_add'.mpr h)
      refine ⟨t :: A, u, B, by rw [e1]; rfl, ?_, ?_⟩
      · rw [e]; exact Nat.add_lt_of_lt_sub' e2
      · rw [e, Nat.add_assoc]; exact Nat.sub_le_iff_le_add'.mp e3
section
variable {low tot : Int} {P : List (Int × Int)} {ts M : List Tr} {fr : List Int}
noncomputable def hitR (R X : List Tr) : Bool := decide ((syms X).take (syms R).length = syms R)
theorem hitR_iff {R X : List Tr} (hR : ∀ t ∈ R, t.Wf P) (hX : ∀ t ∈ X, t.Wf P) : hitR R X = true ↔ R <+: X := by
  unfold hitR
  rw [decide_eq_true_eq]
  constructor
  · intro h
    have e : syms (X.take (syms R).length) = syms R := by
      show (X.take (syms R).length).map Tr.sym = _
      rw [List.map_take]
      exact h
    have := syms_inj (P := P) (fun t m => hX t (List.mem_of_mem_take m)) hR e
    rw [← this]
    exact List.take_prefix _ _
  · rintro ⟨B, rfl⟩
    rw [syms_app, List.take_left]
theorem made_row (w : Wd low P ts) (sh : Shf ts M) {TR : List Int → List Tr} (hT : ∀ xs, Lets low xs → RowOf low P ts xs (TR xs)) (hf : Lets low fr) {k : Nat} {R : List Tr} (h : R ∈ madeT P low M TR fr k) :
    ∃ t, R = TR (fr.take k) ++ [t] ∧ RowOf low P ts (fr.take k ++ t.txt) R ∧ fr <+: fr.take k ++ t.txt := by
  obtain ⟨t, m, rfl⟩ := List.mem_map.mp h
  obtain ⟨m1, m2⟩ := List.mem_filter.mp m
  obtain ⟨z1, z2⟩ := zOf_mem w sh m1
  unfold goOn at m2
  rw [Bool.and_eq_true] at m2
  refine ⟨t, rfl, (hT _ (lets_take hf k)).snoc w z1 m2.1 m2.2, ?_⟩
  conv => lhs; rw [← List.take_append_drop k fr]
  exact (List.prefix_append_right_inj _).mpr z2
theorem made_none (w : Wd low P ts) (sh : Shf ts M) {TR : List Int → List Tr} (hT : ∀ xs, Lets low xs → RowOf low P ts xs (TR xs)) (hf : Lets low fr) {xs : List Int} (hx : Lets low xs) (hn : ¬ fr <+: xs) (k : Nat) : (madeT P low M TR fr k).filter (fun R => hitR R (TR xs)) = [] := by
  refine List.filter_eq_nil_iff.mpr fun R m hp => hn ?_
  obtain ⟨t, _, r1, r2⟩ := made_row w sh hT hf m
  obtain ⟨B, e⟩ := (hitR_iff r1.val.wf (hT xs hx).val.wf).mp hp
  refine r2.trans ⟨txtR B, ?_⟩
  rw [← r1.txt, ← txtR_app, e, (hT xs hx).txt]
theorem made_one (w : Wd low P ts) (sh : Shf ts M) {TR : List Int → List Tr} (hT : ∀ xs, Lets low xs → RowOf low P ts xs (TR xs)) (hf : Lets low fr) (hfl : fr.length = 4) {xs : List Int} (hx : Lets low xs) (hp : fr <+: xs) :
    ∃ k, k < 4 ∧ (∃ R, (madeT P low M TR fr k).filter (fun R => hitR R (TR xs)) = [R]) ∧ ∀ k', k' < 4 → k' ≠ k → (madeT P low M TR fr k').filter (fun R => hitR R (TR xs)) = [] := by
  have hX := hT xs hx
  have hxl : 4 ≤ xs.length := by rw [← hfl]; exact hp.length_le
  obtain ⟨A, t, B, e1, e2, e3⟩ := split_row (TR xs) 4 (by decide) (by rw [hX.txt]; exact hxl)
  have hAt : TR xs = (A ++ [t]) ++ B := by rw [e1, List.append_assoc]; rfl
  have etx : txtR A ++ (t.txt ++ txtR B) = xs := by rw [← hX.txt, e1, txtR_app]; rfl
  obtain ⟨k, hk⟩ : ∃ k, k = (txtR A).length := ⟨_, rfl⟩
  have hk4 : k < 4 := hk ▸ e2
  have hkf : k ≤ fr.length := hfl.symm ▸ Nat.le_of_lt hk4
  have eA : txtR A = fr.take k := by
    have h1 : xs.take k = txtR A := by rw [hk, ← etx, List.take_left]
    have h2 : xs.take k = fr.take k := by
      obtain ⟨C, hC⟩ := hp
      rw [← hC, List.take_append_of_le_length hkf]
    rw [← h1, h2]
  have aX := adj_app.mp (show adj (Al P 999) ((A ++ [t]) ++ B) from hAt ▸ hX.val.adj)
  have rAt : RowOf low P ts (fr.take k ++ t.txt) (A ++ [t]) := by
    refine ⟨⟨fun u m => hX.val.wf u (by rw [hAt]; exact List.mem_append_left _ m), fun u m => hX.val.good u (by rw [hAt]; exact List.mem_append_left _ m), aX.1⟩, ?_, fun u m => hX.mem u (by rw [hAt]; exact List.mem_append_left _ m)⟩
    rw [txtR_app, eA]; simp [txtR]
  have rA : RowOf low P ts (fr.take k) A := by
    have := rAt.init.1
    rw [List.length_append, Nat.add_sub_cancel, List.take_left' rfl] at this
    exact this
  have eTA : TR (fr.take k) = A := (hT _ (lets_take hf k)).uniq w rA
  obtain ⟨l1, l2, l3⟩ := rAt.last w
  have hpre : fr.drop k <+: t.txt := by
    obtain ⟨C, hC⟩ := hp
    have h1 : t.txt ++ txtR B = fr.drop k ++ C := by
      have h2 : xs.drop k = t.txt ++ txtR B := by rw [hk, ← etx, List.drop_left]
      rw [← h2, ← hC, List.drop_append_of_le_length hkf]
    have h3 : (fr.drop k).length ≤ t.txt.length := by rw [List.length_drop, hfl]; exact Nat.sub_le_iff_le_add'.mpr (hk.symm ▸ e3)
    refine List.prefix_of_prefix_length_le (l₃ := t.txt ++ txtR B) (by rw [h1]; exact List.prefix_append _ _) (List.prefix_append _ _) h3
  have hz : t ∈ zOf low M (fr.drop k) := by
    unfold zOf
    rcases List.mem_cons.mp l1 with rfl | m
    · refine List.mem_append_right _ (List.mem_filter.mpr ⟨.head _, decide_eq_true ?_⟩)
      refine (hpre.eq_of_length ?_).symm
      have a := hpre.length_le
      have b : (Tr.lf low).txt.length = 1 := rfl
      rw [List.length_drop, hfl] at a ⊢
      exact Nat.le_antisymm a (Nat.sub_pos_of_lt hk4)
    · rcases List.mem_cons.mp m with rfl | m
      · refine List.mem_append_right _ (List.mem_filter.mpr ⟨.tail _ (.head _), decide_eq_true ?_⟩)
        refine (hpre.eq_of_length ?_).symm
        have a := hpre.length_le
        have b : (Tr.lf 255).txt.length = 1 := rfl
        rw [List.length_drop, hfl] at a ⊢
        exact Nat.le_antisymm a (Nat.sub_pos_of_lt hk4)
      · exact List.mem_append_left _ (List.mem_filter.mpr ⟨sh.perm.mem_iff.mpr m, decide_eq_true hpre⟩)
  have hgo : goOn P (TR (fr.take k)) t = true := by unfold goOn; rw [l2, eTA, l3]; rfl
  have hRm : A ++ [t] ∈ madeT P low M TR fr k := List.mem_map.mpr ⟨t, List.mem_filter.mpr ⟨hz, hgo⟩, by rw [eTA]⟩
  -- a made row that begins the row is this one
  have uniq : ∀ k' R, k' < 4 → R ∈ madeT P low M TR fr k' → hitR R (TR xs) = true → R = A ++ [t] ∧ k' = k := by
    intro k' R hk' m hit
    obtain ⟨u, r0, r1, r2⟩ := made_row w sh hT hf m
    have hpR := (hitR_iff r1.val.wf hX.val.wf).mp hit
    have hpA : A ++ [t] <+: TR xs := ⟨B, hAt.symm⟩
    have tT := (hT _ (lets_take hf k')).txt
    have lT : (txtR (TR (fr.take k'))).length = k' := by rw [tT, List.length_take, hfl, Nat.min_eq_left (Nat.le_of_lt hk')]
    have lR : 4 ≤ (txtR R).length := by rw [r1.txt]; exact hfl ▸ r2.length_le
    have mono : ∀ {X Y : List Tr}, X <+: Y → (txtR X).length ≤ (txtR Y).length := fun {X Y} h => by
      obtain ⟨C, rfl⟩ := h
      rw [txtR_app, List.length_append]; exact Nat.le_add_right _ _
    have lAt : (txtR (A ++ [t])).length = (txtR A).length + t.txt.length := by rw [txtR_app, List.length_append]; simp [txtR]
    have hlen : R.length = (A ++ [t]).length := by
      rcases Nat.lt_trichotomy R.length (A ++ [t]).length with z | z | z
      · exfalso
        have h1 : R <+: A := by
          refine List.prefix_of_prefix_length_le hpR ⟨[t] ++ B, ?_⟩ ?_
          · rw [hAt, List.append_assoc]
          · rw [List.length_append] at z; exact Nat.le_of_lt_succ z
        exact Nat.lt_irrefl _ (Nat.lt_of_le_of_lt (Nat.le_trans lR (mono h1)) e2)
      · exact z
      · exfalso
        have h1 : A ++ [t] <+: TR (fr.take k') := by
          refine List.prefix_of_prefix_length_le hpA (List.IsPrefix.trans ⟨[u], r0.symm⟩ hpR) ?_
          have hr0 : R.length = (TR (fr.take k')).length + 1 := by rw [r0]; simp
          exact Nat.le_of_lt_succ (Nat.lt_of_lt_of_eq z hr0)
        exact Nat.lt_irrefl _ (Nat.lt_of_le_of_lt (Nat.le_trans e3 (Nat.le_trans (Nat.le_of_eq lAt.symm) (Nat.le_trans (mono h1) (Nat.le_of_eq lT)))) hk')
    have hRA : R = A ++ [t] := by
      have := List.prefix_of_prefix_length_le hpR hpA (Nat.le_of_eq hlen)
      exact this.eq_of_length hlen
    refine ⟨hRA, ?_⟩
    rw [r0] at hRA
    have := congrArg List.dropLast hRA
    rw [List.dropLast_concat, List.dropLast_concat] at this
    rw [this] at lT
    exact lT.symm.trans hk.symm
  refine ⟨k, hk4, ⟨A ++ [t], ?_⟩, fun k' hk' hne => List.filter_eq_nil_iff.mpr fun R m hp => hne (uniq k' R hk' m hp).2⟩
  have nd : (madeT P low M TR fr k).Nodup := by
    unfold madeT
    have ndz : (zOf low M (fr.drop k)).Nodup := by
      unfold zOf
      have ndF : (forest low ts).Nodup := (List.pairwise_map.mp w.fnodup).imp fun hab e => hab (by rw [e])
      have ndF' : (Tr.lf low :: Tr.lf 255 :: ts).Nodup := ndF
      rw [List.nodup_cons, List.nodup_cons] at ndF'
      have ndM : M.Nodup := sh.perm.nodup_iff.mpr ndF'.2.2
      refine List.nodup_append.mpr ⟨ndM.filter _, ?_, fun a ha b hb e => ?_⟩
      · refine List.Pairwise.filter _ ?_
        show [Tr.lf low, Tr.lf 255].Nodup
        rw [List.nodup_cons, List.nodup_cons]
        refine ⟨fun m => ndF'.1 ?_, (by simp), List.nodup_nil⟩
        rw [List.mem_singleton.mp m]; exact .head _
      · have ha' : a ∈ ts := sh.perm.mem_iff.mp (List.mem_filter.mp ha).1
        have hb' := (List.mem_filter.mp hb).1
        rw [e] at ha'
        simp only [List.mem_cons, List.not_mem_nil, or_false] at hb'
        rcases hb' with rfl | rfl
        · exact ndF'.1 (.tail _ ha')
        · exact ndF'.2.1 ha'
    refine List.pairwise_map.mpr ((ndz.filter _).imp fun hab e => hab ?_)
    have := congrArg List.getLast? e
    simpa using this
  exact fil_uniq nd hRm fun R m => ⟨fun z => (uniq k R hk4 m z).1, fun z => by rw [z]; exact (hitR_iff rAt.val.wf hX.val.wf).mpr ⟨B, hAt.symm⟩⟩
theorem met_iff (w : Wd low P ts) (sh : Shf ts M) {TR : List Int → List Tr} (hT : ∀ xs, Lets low xs → RowOf low P ts xs (TR xs)) (hf : Lets low fr) (hfl : fr.length = 4) {xs : List Int} (hx : Lets low xs) :
    ((madeAll P low M TR fr).filter (fun R => hitR R (TR xs))).length = 1 ↔ fr <+: xs := by
  unfold madeAll
  rw [List.filter_append, List.filter_append, List.filter_append]
  constructor
  · intro h
    refine Decidable.byContradiction fun hn => ?_
    rw [made_none w sh hT hf hx hn, made_none w sh hT hf hx hn, made_none w sh hT hf hx hn, made_none w sh hT hf hx hn] at h
    exact absurd h (by decide)
  · intro hp
    obtain ⟨k, hk, ⟨R, hR⟩, ho⟩ := made_one w sh hT hf hfl hx hp
    rcases k with _ | _ | _ | _ | k
    · rw [hR, ho 1 (by decide) (by decide), ho 2 (by decide) (by decide), ho 3 (by decide) (by decide)]; rfl
    · rw [hR, ho 0 (by decide) (by decide), ho 2 (by decide) (by decide), ho 3 (by decide) (by decide)]; rfl
    · rw [hR, ho 0 (by decide) (by decide), ho 1 (by decide) (by decide), ho 3 (by decide) (by decide)]; rfl
    · rw [hR, ho 0 (by decide) (by decide), ho 1 (by decide) (by decide), ho 2 (by decide) (by decide)]; rfl
    · exact absurd hk (Nat.not_lt.mpr (Nat.le_add_left 4 k))
end
end Mine
end

section
open PySem PySem.W PyProof.Rows Builtin.Str
namespace Mine
noncomputable def ft (j : Nat) : Stmt := (blk (stm 17 17))[j]?.getD (.Pass default)
theorem ft_blk : blk (stm 17 17) = [ft 0, ft 1, ft 2, ft 3] := rfl
noncomputable def gt (j : Nat) : Stmt := (blk (ft 3))[j]?.getD (.Pass default)
theorem gt_blk : blk (ft 3) = [gt 0, gt 1] := rfl
noncomputable def mLC : Expr := pick (rhs (ft 1)) noC (cmp := fun l _ _ => pick l noC (call := fun _ as _ _ => as.headD noC))
theorem slcS_last (xs : List Int) : slcS (sOf xs) (some (-1)) none = sOf (xs.drop (xs.length - 1)) := by
  unfold slcS
  show (⟨(slcD (xs.map Int.toNat).toArray.toList (some (-1)) none).toArray⟩ : Str) = ⟨((xs.drop (xs.length - 1)).map Int.toNat).toArray⟩
  rw [List.toList_toArray, Mine.slc_last, List.map_drop, List.length_map]
section
variable {low tot : Int} {P : List (Int × Int)} {ts M : List Tr} {st : LSt} {n : Nat} {fr xs : List Int}
theorem ft0 (w : Wd low P ts) {TR : List Int → List Tr} (hT : ∀ xs, Lets low xs → RowOf low P ts xs (TR xs)) (hx : Lets low xs) (hxl : xs.length ≤ 10) (h : LwS low tot P ts M st) (g1 : st.get (Str.ofString "text") = some (.val (.str (sOf xs)))) :
    exS oLaw (Itp.at oLaw (n + 24)) st (ft 0) = some (.nx, st.put (Str.ofString "row") (.val (dR (TR xs)))) := by
  have h4 := w.le4
  have hl := w.len
  have hj : spJoin [.str (sOf xs), .list (P.map dPair)] = some (dR (TR xs)) := by
    have := join_eq (P := P) (xs := xs) (by omega) (by omega) (w.nn hx)
    unfold dR
    rw [(hT xs hx).syms w]
    exact this
  have g := h.hg (Str.ofString "_law_joined") (by decide)
  have hp := h.hpairs
  generalize dR (TR xs) = R at *
  generalize P.map dPair = C at *
  (conv in (ft _) => whnf); simp +decide [LSt.get_put, g1, g, hp, hj, fn_joined, bi_joined]
theorem ft1 (w : Wd low P ts) {X : List Tr} {MT : List (List Tr)} (hX : X.length ≤ 1000) (hMl : MT.length ≤ 1000) (hM : ∀ R ∈ MT, R.length ≤ 1000) (h : LwS low tot P ts M st) (g1 : st.get (Str.ofString "row") = some (.val (dR X))) (g2 : st.get (Str.ofString "made_rows") = some (.own (MT.map dR))) :
    exS oLaw (Itp.at oLaw (n + 24)) st (ft 1) = some (.nx, st.put (Str.ofString "met") (.val (.bool (decide ((MT.filter fun R => hitR R X).length = 1))))) := by
  have g := h.hg (Str.ofString "len") (by decide)
  have hit : itemsOf (Itp.at oLaw (n + 21)) (evD (Itp.at oLaw (n + 21))) st (gI mLC) = some (MT.map dR) := by
    have l : (MT.map dR).length ≤ 4096 := by rw [List.length_map]; omega
    generalize MT.map dR = A at *
    (conv in mLC => whnf); simp +decide [LSt.get_put, g2, l]
  have hfr : freeOf oLaw.capt st (gS mLC).names = some [(Str.ofString "len", .glo), (Str.ofString "row", .val (dR X))] := by
    show (match st.get (Str.ofString "row") with
        | some .glo => none
        | some l => if oLaw.capt (Str.ofString "row") then (freeOf oLaw.capt st []).map ((Str.ofString "row", l) :: ·) else none
        | none => none).map ((Str.ofString "len", LV.glo) :: ·) = _
    rw [g1]
    rfl
  obtain ⟨p, hp⟩ : ∃ p : Dat → Bool, ∀ R, p (dR R) = hitR R X := by
    refine ⟨fun d => match d with | .list ds => (match intsOf ds with | some ns => decide ((syms X).take ns.length = ns) | none => false) | _ => false, fun R => ?_⟩
    show (match intsOf ((syms R).map .int) with | some ns => decide ((syms X).take ns.length = ns) | none => false) = _
    rw [intsOf_map]
    rfl
  have key := lc_filter (O := oLaw) (I := Itp.at oLaw (n + 21)) (st := st) (cap := [(Str.ofString "len", .glo), (Str.ofString "row", .val (dR X))]) (e := mLC) p id rfl (by decide) hfr hit (fun d m => by
      obtain ⟨R, mR, rfl⟩ := List.mem_map.mp m
      rw [hp]
      have hRl := hM R mR
      have l1 : ((syms R).map Dat.int).length ≤ 4096 := by unfold syms; rw [List.length_map, List.length_map]; omega
      have l2 : ((syms X).map Dat.int).length ≤ 4096 := by unfold syms; rw [List.length_map, List.length_map]; omega
      have hb := bi_len _ l1
      have e1 : slcD ((syms X).map Dat.int) none (some ((((syms R).map Dat.int).length : Nat) : Int)) = ((syms X).take (syms R).length).map .int := by rw [slc_take, List.length_map, List.map_take]
      have ok1 := ok_ints (syms R)
      have ok2 := ok_ints ((syms X).take (syms R).length)
      have dq := deq_ints ((syms X).take (syms R).length) (syms R)
      have dq : deq 8 (.list (((syms X).take (syms R).length).map .int)) (.list ((syms R).map .int)) = hitR R X := dq
      have eX : dR X = .list ((syms X).map .int) := rfl
      have eR : dR R = .list ((syms R).map .int) := rfl
      rw [eX, eR]
      generalize ((syms X).take (syms R).length).map Dat.int = B at *
      generalize (syms X).map Dat.int = C at *
      generalize (syms R).map Dat.int = D at *
      (conv in mLC => whnf); (conv in mLC => whnf); simp +decide [LSt.get_put, hb, l2, e1, ok1, ok2, dq]) (fun d m _ => by
      obtain ⟨R, mR, rfl⟩ := List.mem_map.mp m
      (conv in mLC => whnf); (conv in mLC => whnf); simp +decide [LSt.get_put]) (by rw [List.length_map]; omega)
  have efil : ((MT.map dR).filter p).map id = (MT.filter fun R => hitR R X).map dR := by
    rw [List.map_id, List.filter_map]
    congr 1
    exact List.filter_congr fun R m => hp R
  rw [efil] at key
  have hb := bi_len ((MT.filter fun R => hitR R X).map dR) (by rw [List.length_map]; have := List.length_filter_le (fun R => hitR R X) MT; omega)
  rw [List.length_map] at hb
  generalize (MT.filter fun R => hitR R X).map dR = A at *
  obtain ⟨c, hc⟩ : ∃ c, c = (MT.filter fun R => hitR R X).length := ⟨_, rfl⟩
  rw [← hc] at hb ⊢
  have ec : decide ((c : Int) = 1) = decide (c = 1) := by
    by_cases z : c = 1
    · rw [decide_eq_true z, decide_eq_true (by omega)]
    · rw [decide_eq_false z, decide_eq_false (by omega)]
  (conv at key in mLC => whnf); simp only [U2_11] at key
  rw [← ec]
  generalize hz : decide ((c : Int) = 1) = b
  have hz' : (c : Int) = 1 ↔ b = true := by rw [← hz, decide_eq_true_eq]
  cases b with
  | true =>
    have hz2 : (c : Int) = 1 := hz'.mpr rfl
    rw [hz2] at hb
    (conv in (ft _) => whnf); simp +decide [LSt.get_put, g, key, hb]
  | false =>
    have hz2 : ¬ (c : Int) = 1 := fun z => by have := hz'.mp z; cases this
    have hz3 : ¬ c = 1 := fun z => hz2 (by omega)
    (conv in (ft _) => whnf); simp +decide [LSt.get_put, g, key, hb, hz2, hz3]
theorem ft2 (w : Wd low P ts) (hf : Lets low fr) (hfl : fr.length = 4) (hx : Lets low xs) (hxl : xs.length ≤ 10) (h : LwS low tot P ts M st) (g1 : st.get (Str.ofString "text") = some (.val (.str (sOf xs)))) (g2 : st.get (Str.ofString "front") = some (.val (.str (sOf fr)))) (g3 : st.get (Str.ofString "met") = some (.val (.bool (decide (fr <+: xs))))) :
    exS oLaw (Itp.at oLaw (n + 24)) st (ft 2) = some (.nx, st) := by
  have g := h.hg (Str.ofString "_ellipsis_match") (by decide)
  have he := w.ell_beg hf hx (by intro e; rw [e] at hfl; simp at hfl) (by omega) (by omega)
  have hl : (sOf fr).length + (Str.ofString "...").length ≤ 4096 := by rw [sOf_len, dots_str, nS_len]; show _ + 3 ≤ 4096; omega
  generalize decide (fr <+: xs) = b at *
  have bb : (b == b) = true := by cases b <;> rfl
  (conv in (ft _) => whnf); simp +decide [LSt.get_put, g, g1, g2, g3, he, hl, bb, fn_ell, bi_ell]
end
end Mine
end

section
open PySem PySem.W PyProof.Rows Builtin.Str
namespace Mine
section
variable {low tot : Int} {P : List (Int × Int)} {ts M : List Tr} {st : LSt} {n : Nat} {fr xs : List Int}
noncomputable def IsLet (low c : Int) : Prop := c = low ∨ c = 255
theorem Wd.nnc (w : Wd low P ts) {c : Int} (h : IsLet low c) : 0 ≤ c := by
  rcases h with rfl | rfl
  · exact Int.le_of_lt w.lo.1
  · decide
theorem Wd.dotc (w : Wd low P ts) {c : Int} (h : IsLet low c) : 46 ≠ c.toNat := fun e => by
  have e2 : (46 : Int) = c := (congrArg Int.ofNat e).trans (Int.toNat_of_nonneg (w.nnc h))
  rcases h with rfl | rfl
  · exact absurd (e2 ▸ w.lo.2) (by decide)
  · exact absurd e2 (by decide)
theorem Wd.frne (_ : Wd low P ts) (hfl : fr.length = 4) : fr ≠ [] := fun e => by rw [e] at hfl; cases hfl
theorem last_of (hfl : fr.length = 4) (hp : fr <+: xs) {c : Int} : ([c] <:+ xs ∧ 4 + 1 ≤ xs.length) ↔ (xs.drop 4).drop ((xs.drop 4).length - 1) = [c] := by
  obtain ⟨ys, rfl⟩ := hp
  rw [List.drop_left' hfl, List.length_append, hfl]
  rcases List.eq_nil_or_concat ys with rfl | ⟨zs, z, rfl⟩
  · exact iff_of_false (fun h => absurd h.2 (by decide)) fun h => absurd (List.drop_nil.symm.trans h) (List.cons_ne_nil _ _).symm
  · rw [List.concat_eq_append, List.length_append, ← List.append_assoc, show (zs ++ [z]).drop (zs.length + [z].length - 1) = [z] from List.drop_left' rfl, List.singleton_suffix_iff_getLast?_eq_some, List.getLast?_concat, Option.some.injEq, List.cons.injEq]
    exact ⟨fun h => ⟨h.1, rfl⟩, fun h => ⟨h.1, Nat.add_le_add_left (Nat.le_add_left 1 zs.length) 4⟩⟩
theorem Wd.ell_c (w : Wd low P ts) (hf : Lets low fr) (hfl : fr.length = 4) (hx : Lets low xs) (hxl : xs.length ≤ 10) {c : Int} (hc : IsLet low c) :
    spEll [.str (sOf fr ++ Str.ofString "..." ++ sOf [c]), .str (sOf xs)] = some (.bool (decide (fr <+: xs) && decide (sOf ((xs.drop 4).drop ((xs.drop 4).length - 1)) = sOf [c]))) := by
  have e1 : sOf fr ++ Str.ofString "..." ++ sOf [c] = nS (fr.map Int.toNat ++ dots ++ [c.toNat]) := by
    rw [dots_str, sOf_nS, nS_app, sOf_nS, nS_app]
    rfl
  rw [e1, sOf_nS xs, ellC (map_ne (w.frne hfl)) (w.nodot hf) (w.dotc hc) (by rw [List.length_map, hfl]; decide) (by rw [List.length_map]; exact Nat.le_trans hxl (by decide))]
  have nc : ∀ y ∈ [c], 0 ≤ y := fun y m => by rw [List.mem_singleton.mp m]; exact w.nnc hc
  have e2 : [c.toNat] <:+ xs.map Int.toNat ↔ [c] <:+ xs := suf_nat nc (w.nn hx)
  simp only [pre_nat (w.nn hf) (w.nn hx), e2, List.length_map, hfl]
  have nd : ∀ y ∈ (xs.drop 4).drop ((xs.drop 4).length - 1), 0 ≤ y := fun y m => w.nn hx y (List.mem_of_mem_drop (List.mem_of_mem_drop m))
  have e3 : sOf ((xs.drop 4).drop ((xs.drop 4).length - 1)) = sOf [c] ↔ (xs.drop 4).drop ((xs.drop 4).length - 1) = [c] := by
    rw [sOf_nS, sOf_nS, nS_inj]
    exact ⟨map_inj_nat nd nc, fun e => by rw [e]⟩
  simp only [e3, Bool.decide_and]
  congr 2
  by_cases hp : fr <+: xs
  · rw [decide_eq_true hp, Bool.true_and, Bool.true_and, ← Bool.decide_and]
    exact decide_eq_decide.mpr (last_of hfl hp)
  · rw [decide_eq_false hp, Bool.false_and, Bool.false_and]
theorem Wd.ell_d (w : Wd low P ts) (hf : Lets low fr) (hfl : fr.length = 4) (hx : Lets low xs) (hxl : xs.length ≤ 10) {c : Int} (hc : IsLet low c) :
    spEll [.str (sOf fr ++ Str.ofString "..." ++ sOf [c] ++ Str.ofString "..."), .str (sOf xs)] = some (.bool (decide (fr <+: xs) && strIn (sOf [c]) (sOf (xs.drop 4)))) := by
  have e1 : sOf fr ++ Str.ofString "..." ++ sOf [c] ++ Str.ofString "..." = nS (fr.map Int.toNat ++ dots ++ [c.toNat] ++ dots) := by
    rw [dots_str, sOf_nS, nS_app, sOf_nS, nS_app, nS_app]
    rfl
  rw [e1, sOf_nS xs, ellD (map_ne (w.frne hfl)) (w.nodot hf) (w.dotc hc) (by rw [List.length_map, hfl]; decide) (by rw [List.length_map]; exact Nat.le_trans hxl (by decide))]
  have e2 : strIn (sOf [c]) (sOf (xs.drop 4)) = decide (c.toNat ∈ (xs.drop 4).map Int.toNat) := by
    unfold strIn
    have := StrLaws.found_one (sOf (xs.drop 4)) c.toNat
    have e3 : (sOf (xs.drop 4)).cps.toList = (xs.drop 4).map Int.toNat := by show (((xs.drop 4).map Int.toNat).toArray).toList = _; simp
    rw [e3] at this
    exact this
  rw [e2]
  simp only [pre_nat (w.nn hf) (w.nn hx), List.length_map, hfl, List.map_drop, Bool.decide_and]
theorem gt_turn (w : Wd low P ts) (hf : Lets low fr) (hfl : fr.length = 4) (hx : Lets low xs) (hxl : xs.length ≤ 10) {c : Int} (hc : IsLet low c) (h : LwS low tot P ts M st) (g1 : st.get (Str.ofString "text") = some (.val (.str (sOf xs)))) (g2 : st.get (Str.ofString "front") = some (.val (.str (sOf fr)))) (g3 : st.get (Str.ofString "met") = some (.val (.bool (decide (fr <+: xs))))) (g4 : st.get (Str.ofString "sign") = some (.val (.str (sOf [c])))) :
    (Itp.at oLaw (n + 28)).exs st (blk (ft 3)) = some (.nx, st) := by
  have g := h.hg (Str.ofString "_ellipsis_match") (by decide)
  have hC := w.ell_c hf hfl hx hxl hc
  have hD := w.ell_d hf hfl hx hxl hc
  have l3 : (Str.ofString "...").length = 3 := by rw [dots_str, nS_len]; rfl
  have la : ∀ x y : Str, (x ++ y).length = x.length + y.length := fun x y => by show (x.cps ++ y.cps).size = _; rw [Array.size_append]; rfl
  have lc : (sOf [c]).length = 1 := rfl
  have lf : (sOf fr).length = 4 := (sOf_len fr).trans hfl
  have h1 : (sOf fr).length + (Str.ofString "...").length ≤ 4096 := by rw [lf, l3]; decide
  have h2 : (sOf fr ++ Str.ofString "...").length + (sOf [c]).length ≤ 4096 := by rw [la, lf, l3, lc]; decide
  have h3 : (sOf fr ++ Str.ofString "..." ++ sOf [c]).length + (Str.ofString "...").length ≤ 4096 := by rw [la, la, lf, l3, lc]; decide
  have s1 : slcS (sOf xs) (some 4) none = sOf (xs.drop 4) := slcS_drop xs 4
  have s2 := slcS_last (xs.drop 4)
  have l1 : (sOf xs).length ≤ 4096 := by rw [sOf_len]; exact Nat.le_trans hxl (by decide)
  have l2 : (sOf (xs.drop 4)).length ≤ 4096 := by rw [sOf_len, List.length_drop]; exact Nat.le_trans (Nat.sub_le _ _) (Nat.le_trans hxl (by decide))
  obtain ⟨T, hT⟩ : ∃ T, T = sOf (xs.drop 4) := ⟨_, rfl⟩
  rw [← hT] at s1 s2 l2 hD
  obtain ⟨L, hL⟩ : ∃ L, L = sOf ((xs.drop 4).drop ((xs.drop 4).length - 1)) := ⟨_, rfl⟩
  rw [← hL] at s2 hC
  obtain ⟨W1, hW1⟩ : ∃ W1, W1 = sOf fr ++ Str.ofString "..." := ⟨_, rfl⟩
  rw [← hW1] at h2 h3 hC hD
  obtain ⟨W2, hW2⟩ : ∃ W2, W2 = W1 ++ sOf [c] := ⟨_, rfl⟩
  rw [← hW2] at h3 hC hD
  have q1 := hW1.symm
  have q2 := hW2.symm
  generalize decide (fr <+: xs) = b at *
  generalize sOf [c] = sg at *
  generalize sOf fr = F at *
  generalize sOf xs = X at *
  have t0 : tst (Itp.at oLaw (n + 27)) st (tstOf (gt 0)) = some false := by
    generalize hz : decide (L = sg) = z at hC
    (conv in (gt _) => whnf); simp +decide [g, g1, g2, g3, g4, h1, h2, q1, q2, hC, s1, s2, l1, l2, hz, fn_ell, bi_ell]
    cases b <;> cases z <;> rfl
  have t1 : tst (Itp.at oLaw (n + 26)) st (tstOf (gt 1)) = some false := by
    generalize hz : strIn sg T = z at *
    (conv in (gt _) => whnf); simp +decide [g, g1, g2, g3, g4, h1, h2, h3, q1, q2, hD, s1, l1, hz, fn_ell, bi_ell]
    cases b <;> cases z <;> rfl
  rw [gt_blk]
  exact ex_cons (by rw [if_f (fun _ _ => rfl) t0]; rfl) (ex_cons (by rw [if_f (fun _ _ => rfl) t1]; rfl) rfl)
end
end Mine
end

section
open PySem PySem.W PyProof.Rows Builtin.Str
namespace Mine
section
variable {O : Orc} {I : Itp} {st cap : LSt} {e : Expr} {ds : List Dat}
theorem comp_two {elt it it' : Expr} {x y : Str} {sc : Scope} (es : Dat → List Dat) (g : Dat → Dat → Dat) (hb : (blockOk O.capt sc [x, y] && x != y) = true) (hf : freeOf O.capt st sc.names = some cap) (hi : itemsOf I (evD I) st it = some ds)
    (he : ∀ d ∈ ds, itemsOf I (evV I) ((x, .val d) :: cap) it' = some (es d)) (hg : ∀ d ∈ ds, ∀ e ∈ es d, evV I ((y, .val e) :: (x, .val d) :: cap) elt = some (g d e)) (hl : ((ds.map fun d => (es d).map (g d)).flatten).length ≤ 4096) :
    comp2 O I st elt x it y it' sc = some ((ds.map fun d => (es d).map (g d)).flatten) := by
  unfold comp2
  rw [if_pos hb, hf, hi]
  show ((mapO _ ds).map List.flatten).bind (fun rs => if rs.length ≤ 4096 then some rs else none) = _
  rw [mapO_eq (g := fun d => (es d).map (g d)) fun d m => ?_]
  · exact if_pos hl
  · show (itemsOf I (evV I) ((x, .val d) :: cap) it').bind (fun es => compLoop I (fun st'' => (evV I st'' elt).map ([·])) y ((x, .val d) :: cap) [] es) = _
    rw [he d m]
    show (mapO _ (es d)).map List.flatten = _
    rw [mapO_eq (g := fun e => [g d e]) fun e me => by show (evV I ((y, .val e) :: (x, .val d) :: cap) elt).map ([·]) = _; rw [hg d m e me]; rfl]
    exact congrArg some (flat_one (g d) (es d))
noncomputable def gH (e : Expr) : Comprehension := (gens e).tail.headD default
noncomputable def gY (e : Expr) : Str := (nmOf (gH e).target).getD ⟨#[]⟩
noncomputable def gI2 (e : Expr) : Expr := (gH e).iter
@[simp] theorem gY_1 (e c x q it ifs n gs sc p) : gY (.ListComp e (c :: ⟨.Name x q, it, ifs, n⟩ :: gs) sc p) = x := rfl
@[simp] theorem gI2_1 (e c t it ifs n gs sc p) : gI2 (.ListComp e (c :: ⟨t, it, ifs, n⟩ :: gs) sc p) = it := rfl
theorem lc_two (es : Dat → List Dat) (g : Dat → Dat → Dat) (hp : (evF O I st e, genOf (gG e), genOf (gH e), (gG e).ifs, (gH e).ifs) = (compF O I st (gE e) [gG e, gH e] (gS e), some (gX e), some (gY e), [], [])) (hb : (blockOk O.capt (gS e) [gX e, gY e] && gX e != gY e) = true) (hf : freeOf O.capt st (gS e).names = some cap) (hi : itemsOf I (evD I) st (gI e) = some ds)
    (he : ∀ d ∈ ds, itemsOf I (evV I) ((gX e, .val d) :: cap) (gI2 e) = some (es d)) (hg : ∀ d ∈ ds, ∀ u ∈ es d, evV I ((gY e, .val u) :: (gX e, .val d) :: cap) (gE e) = some (g d u)) (hl : ((ds.map fun d => (es d).map (g d)).flatten).length ≤ 4096) : evF O I st e = some ((ds.map fun d => (es d).map (g d)).flatten) := by
  obtain ⟨h1, h2⟩ := Prod.mk.inj hp
  obtain ⟨h2, h3⟩ := Prod.mk.inj h2
  obtain ⟨h3, h4⟩ := Prod.mk.inj h3
  obtain ⟨h4, h5⟩ := Prod.mk.inj h4
  rw [h1]
  show ((genOf (gG e)).bind fun x => (genOf (gH e)).bind fun y => if (gG e).ifs.isEmpty && (gH e).ifs.isEmpty then comp2 O I st (gE e) x (gI e) y (gI2 e) (gS e) else none) = _
  rw [h2, h3, h4, h5]
  exact comp_two es g hb hf hi he hg hl
end
section
variable {low tot : Int} {P : List (Int × Int)} {ts M : List Tr} {st : LSt} {n : Nat} {fr xs : List Int}
noncomputable def textsL (low : Int) (fr : List Int) : List (List Int) := [fr ++ [], fr ++ [low], fr ++ [255, low], fr.drop 1 ++ [], fr.drop 1 ++ [low], fr.drop 1 ++ [255, low]]
noncomputable def catD (a b : Dat) : Dat := .str ((strO a).getD ⟨#[]⟩ ++ (strO b).getD ⟨#[]⟩)
theorem lw17_items (w : Wd low P ts) (hfl : fr.length = 4) (h : LwS low tot P ts M st) (g2 : st.get (Str.ofString "front") = some (.val (.str (sOf fr)))) :
    itemsOf (Itp.at oLaw (n + 24)) (evV (Itp.at oLaw (n + 24))) st (tstOf (stm 17 17)) = some ((textsL low fr).map fun xs => .str (sOf xs)) := by
  have hlo := w.lo
  have hc1 := bi_chr low (Int.le_of_lt hlo.1) (Int.le_trans hlo.2 (by decide))
  have hc2 := bi_chr 255 (by decide) (by decide)
  have l1 : (sOf fr).length ≤ 4096 := by rw [sOf_len, hfl]; decide
  have s1 : slcS (sOf fr) (some 1) none = sOf (fr.drop 1) := slcS_drop fr 1
  have hit : itemsOf (Itp.at oLaw (n + 23)) (evD (Itp.at oLaw (n + 23))) st (gI (tstOf (stm 17 17))) = some [.str (sOf fr), .str (sOf (fr.drop 1))] := by
    generalize sOf fr = A at *
    generalize sOf (fr.drop 1) = B at *
    (conv in (stm _ _) => whnf); simp +decide [LSt.get_put, g2, l1, s1]
  have hfr : freeOf oLaw.capt st (gS (tstOf (stm 17 17))).names = some [(Str.ofString "chr", .glo), (Str.ofString "low", .val (.int low))] := by
    show (match st.get (Str.ofString "low") with
        | some .glo => none
        | some l => if oLaw.capt (Str.ofString "low") then (freeOf oLaw.capt st []).map ((Str.ofString "low", l) :: ·) else none
        | none => none).map ((Str.ofString "chr", LV.glo) :: ·) = _
    rw [h.hlow]
    rfl
  have e0 : Str.ofString "" = sOf [] := by decide
  have e255 : (⟨#[(255 : Int).toNat]⟩ : Str) ++ ⟨#[low.toNat]⟩ = sOf [255, low] := rfl
  have e1 : (⟨#[low.toNat]⟩ : Str) = sOf [low] := rfl
  have la : Str.length ⟨#[(255 : Int).toNat]⟩ + Str.length ⟨#[low.toNat]⟩ ≤ 4096 := (by decide : 2 ≤ 4096)
  have key := lc_two (O := oLaw) (I := Itp.at oLaw (n + 23)) (st := st) (cap := [(Str.ofString "chr", .glo), (Str.ofString "low", .val (.int low))]) (e := tstOf (stm 17 17)) (fun _ => [.str (sOf []), .str (sOf [low]), .str (sOf [255, low])]) catD rfl (by decide) hfr hit (fun d m => by
      have := @e0
      rw [← e0, ← e255, ← e1]
      generalize hq : (⟨#[low.toNat]⟩ : Str) = q at *
      generalize hq2 : (⟨#[(255 : Int).toNat]⟩ : Str) = q2 at *
      (conv in (stm _ _) => whnf); (conv in (stm _ _) => whnf); simp +decide [LSt.get_put, hc1, hc2, la]) (fun d m u mu => by
      have hx : ∀ d ∈ [Dat.str (sOf fr), .str (sOf (fr.drop 1))], ∃ x, d = .str x ∧ x.length ≤ 4 := List.forall_mem_cons.mpr ⟨⟨_, rfl, by rw [sOf_len, hfl]; exact Nat.le_refl _⟩, List.forall_mem_singleton.mpr ⟨_, rfl, by rw [sOf_len, List.length_drop, hfl]; decide⟩⟩
      have hy : ∀ d ∈ [Dat.str (sOf []), .str (sOf [low]), .str (sOf [255, low])], ∃ x, d = .str x ∧ x.length ≤ 4 := List.forall_mem_cons.mpr ⟨⟨_, rfl, (by decide : 0 ≤ 4)⟩, List.forall_mem_cons.mpr ⟨⟨_, rfl, (by decide : 1 ≤ 4)⟩, List.forall_mem_singleton.mpr ⟨_, rfl, (by decide : 2 ≤ 4)⟩⟩⟩
      obtain ⟨x, rfl, lx⟩ := hx d m
      obtain ⟨y, rfl, ly⟩ := hy u mu
      have l : x.length + y.length ≤ 4096 := Nat.le_trans (Nat.add_le_add lx ly) (by decide)
      show _ = some (Dat.str (x ++ y))
      (conv in (stm _ _) => whnf); (conv in (stm _ _) => whnf); (conv in (stm _ _) => whnf)
      simp +decide [l]) (by decide : 6 ≤ 4096)
  have er : (([Dat.str (sOf fr), .str (sOf (fr.drop 1))].map fun d => [Dat.str (sOf []), .str (sOf [low]), .str (sOf [255, low])].map (catD d)).flatten) = (textsL low fr).map fun xs => .str (sOf xs) := by
    show [Dat.str (sOf fr ++ sOf []), .str (sOf fr ++ sOf [low]), .str (sOf fr ++ sOf [255, low]), .str (sOf (fr.drop 1) ++ sOf []), .str (sOf (fr.drop 1) ++ sOf [low]), .str (sOf (fr.drop 1) ++ sOf [255, low])] = _
    rw [sOf_app, sOf_app, sOf_app, sOf_app, sOf_app, sOf_app]
    rfl
  have key2 : evF oLaw (Itp.at oLaw (n + 23)) st (tstOf (stm 17 17)) = some ((textsL low fr).map fun xs => .str (sOf xs)) := by rw [← er]; exact key
  have hl6 : ((textsL low fr).map fun xs => Dat.str (sOf xs)).length ≤ 4096 := by rw [List.length_map]; exact (by decide : 6 ≤ 4096)
  generalize (textsL low fr).map (fun xs => Dat.str (sOf xs)) = Z at *
  (conv at key2 in (stm _ _) => whnf); simp only [tst_f, U2_11] at key2
  (conv in (stm _ _) => whnf); simp +decide [LSt.get_put, key2, hl6]
end
end Mine
end

section
open PySem PySem.W PyProof.Rows Builtin.Str
namespace Mine
section
variable {low tot : Int} {P : List (Int × Int)} {ts M : List Tr} {st : LSt} {n : Nat} {fr xs : List Int}
structure FdS (low tot : Int) (P : List (Int × Int)) (ts M : List Tr) (fr : List Int) (MD : List Dat) (st : LSt) : Prop where
  lw : LwS low tot P ts M st
  front : st.get (Str.ofString "front") = some (.val (.str (sOf fr)))
  made : st.get (Str.ofString "made_rows") = some (.own MD)
theorem FdS.put {MD : List Dat} (h : FdS low tot P ts M fr MD st) {x : Str} {l : LV} (hx : x ∉ lawNames ++ names ["front", "made_rows"]) : FdS low tot P ts M fr MD (st.put x l) := by
  have h1 : x ∉ lawNames := fun m => hx (List.mem_append_left _ m)
  have h2 : ∀ y ∈ names ["front", "made_rows"], (st.put x l).get y = st.get y := fun y m => by
    rw [LSt.get_put, if_neg (mem_ne (fun z => hx (List.mem_append_right _ z)) m)]
  exact ⟨h.lw.put h1, (h2 _ (by decide)).trans h.front, (h2 _ (by decide)).trans h.made⟩
theorem ft3_for (I : Itp) (O : Orc) (st : LSt) : exS O I st (ft 3) = if O.loc (Str.ofString "sign") = false then none else (itemsOf I (evV I) st (tstOf (ft 3))).bind fun ds => forLoop I (Str.ofString "sign") (blk (ft 3)) st ds := rfl
theorem madeAll_len (w : Wd low P ts) (sh : Shf ts M) (TR : List Int → List Tr) : (madeAll P low M TR fr).length ≤ 1000 := by
  have a : ∀ k, (madeT P low M TR fr k).length ≤ 6 := fun k => Nat.le_trans (madeT_len sh TR k) (Nat.add_le_add_right w.le4 2)
  unfold madeAll
  rw [List.length_append, List.length_append, List.length_append]
  exact Nat.le_trans (Nat.add_le_add (Nat.add_le_add (Nat.add_le_add (a 0) (a 1)) (a 2)) (a 3)) (by decide)
theorem madeAll_mem {TR : List Int → List Tr} {R : List Tr} (m : R ∈ madeAll P low M TR fr) : ∃ k, R ∈ madeT P low M TR fr k :=
  (List.mem_append.mp m).elim (fun m => (List.mem_append.mp m).elim (fun m => (List.mem_append.mp m).elim (fun m => ⟨0, m⟩) fun m => ⟨1, m⟩) fun m => ⟨2, m⟩) fun m => ⟨3, m⟩
theorem ft_turn (w : Wd low P ts) (sh : Shf ts M) {TR : List Int → List Tr} (hT : ∀ xs, Lets low xs → RowOf low P ts xs (TR xs)) (hf : Lets low fr) (hfl : fr.length = 4) (hx : Lets low xs) (hxl : xs.length ≤ 10) (h : FdS low tot P ts M fr ((madeAll P low M TR fr).map dR) st) :
    ∃ st', (Itp.at oLaw (n + 40)).exs (st.put (Str.ofString "text") (.val (.str (sOf xs)))) (blk (stm 17 17)) = some (.nx, st') ∧ FdS low tot P ts M fr ((madeAll P low M TR fr).map dR) st' := by
  have h4 := w.le4
  have hlo := w.lo
  obtain ⟨s0, hs0⟩ : ∃ s0, s0 = st.put (Str.ofString "text") (.val (.str (sOf xs))) := ⟨_, rfl⟩
  have h0 : FdS low tot P ts M fr ((madeAll P low M TR fr).map dR) s0 := by rw [hs0]; exact h.put (by decide)
  rw [← hs0]
  have t0 : s0.get (Str.ofString "text") = some (.val (.str (sOf xs))) := hs0 ▸ spt
  have e0 := ft0 (n := n + 15) w hT hx hxl h0.lw t0
  obtain ⟨s1, hs1⟩ : ∃ s1, s1 = s0.put (Str.ofString "row") (.val (dR (TR xs))) := ⟨_, rfl⟩
  have h1 : FdS low tot P ts M fr ((madeAll P low M TR fr).map dR) s1 := by rw [hs1]; exact h0.put (by decide)
  rw [← hs1] at e0
  have t1 : s1.get (Str.ofString "text") = some (.val (.str (sOf xs))) := hs1 ▸ npt t0 rfl
  have r1 : s1.get (Str.ofString "row") = some (.val (dR (TR xs))) := hs1 ▸ spt
  have e1 := ft1 (n := n + 14) w (X := TR xs) (MT := madeAll P low M TR fr) (Nat.le_trans (rowOf_len (hT xs hx)) (Nat.le_trans hxl (by decide))) (madeAll_len w sh TR) (fun R m => by
      obtain ⟨k, m⟩ := madeAll_mem m
      obtain ⟨t, r0, r1', r2⟩ := made_row w sh hT hf m
      have a := rowOf_len r1'
      rw [List.length_append, List.length_take, hfl] at a
      exact Nat.le_trans a (Nat.le_trans (Nat.add_le_add (Nat.min_le_right _ _) (w.fsmall t (r1'.mem t (by rw [r0]; exact List.mem_append_right _ (.head _))))) (by decide))) h1.lw r1 h1.made
  have emet : decide (((madeAll P low M TR fr).filter fun R => hitR R (TR xs)).length = 1) = decide (fr <+: xs) := by
    have := met_iff w sh hT hf hfl hx
    simp only [this]
  rw [emet] at e1
  obtain ⟨s2, hs2⟩ : ∃ s2, s2 = s1.put (Str.ofString "met") (.val (.bool (decide (fr <+: xs)))) := ⟨_, rfl⟩
  have h2 : FdS low tot P ts M fr ((madeAll P low M TR fr).map dR) s2 := by rw [hs2]; exact h1.put (by decide)
  rw [← hs2] at e1
  have t2 : s2.get (Str.ofString "text") = some (.val (.str (sOf xs))) := hs2 ▸ npt t1 rfl
  have m2 : s2.get (Str.ofString "met") = some (.val (.bool (decide (fr <+: xs)))) := hs2 ▸ spt
  have e2 := ft2 (n := n + 13) w hf hfl hx hxl h2.lw t2 h2.front m2
  have hit : itemsOf (Itp.at oLaw (n + 36)) (evV (Itp.at oLaw (n + 36))) s2 (tstOf (ft 3)) = some [.str (sOf [low]), .str (sOf [255])] := by
    have hc1 := bi_chr low (Int.le_of_lt hlo.1) (Int.le_trans hlo.2 (by decide))
    have hc2 := bi_chr 255 (by decide) (by decide)
    have g := h2.lw.hg (Str.ofString "chr") (by decide)
    have gl := h2.lw.hlow
    have q1 : (⟨#[low.toNat]⟩ : Str) = sOf [low] := rfl
    have q2 : (⟨#[(255 : Int).toNat]⟩ : Str) = sOf [255] := rfl
    rw [q1] at hc1
    rw [q2] at hc2
    generalize sOf [low] = A at *
    generalize sOf [255] = B at *
    (conv in (ft _) => whnf); simp +decide [LSt.get_put, g, gl, hc1, hc2]
  have turn : ∀ (s : LSt) (c : Int), IsLet low c → FdS low tot P ts M fr ((madeAll P low M TR fr).map dR) s → s.get (Str.ofString "text") = some (.val (.str (sOf xs))) → s.get (Str.ofString "met") = some (.val (.bool (decide (fr <+: xs)))) →
      (Itp.at oLaw (n + 36)).exs (s.put (Str.ofString "sign") (.val (.str (sOf [c])))) (blk (ft 3)) = some (.nx, s.put (Str.ofString "sign") (.val (.str (sOf [c])))) := fun s c hc hs ht hm => by
    have hs' := hs.put (x := Str.ofString "sign") (l := .val (.str (sOf [c]))) (by decide)
    exact gt_turn (n := n + 8) w hf hfl hx hxl hc hs'.lw (npt ht rfl) hs'.front (npt hm rfl) spt
  have f1 := turn s2 low (.inl rfl) h2 t2 m2
  have h3 := h2.put (x := Str.ofString "sign") (l := .val (.str (sOf [low]))) (by decide)
  have f2 := turn _ 255 (.inr rfl) h3 (npt t2 rfl) (npt m2 rfl)
  refine ⟨_, ?_, h3.put (x := Str.ofString "sign") (l := .val (.str (sOf [255]))) (by decide)⟩
  rw [ft_blk]
  refine ex_cons e0 (ex_cons e1 (ex_cons e2 (ex_cons ?_ rfl)))
  rw [ft3_for, if_neg (by decide), hit, Option.bind_some, for_cons, f1, Option.bind_some]
  show forLoop _ _ _ (s2.put (Str.ofString "sign") (.val (.str (sOf [low])))) _ = _
  rw [for_cons, f2]
  rfl
theorem lw17_for (I : Itp) (O : Orc) (st : LSt) : exS O I st (stm 17 17) = if O.loc (Str.ofString "text") = false then none else (itemsOf I (evV I) st (tstOf (stm 17 17))).bind fun ds => forLoop I (Str.ofString "text") (blk (stm 17 17)) st ds := rfl
theorem lw17_loop (w : Wd low P ts) (sh : Shf ts M) {TR : List Int → List Tr} (hT : ∀ xs, Lets low xs → RowOf low P ts xs (TR xs)) (hf : Lets low fr) (hfl : fr.length = 4) : ∀ (X : List (List Int)) (st : LSt), (∀ xs ∈ X, Lets low xs ∧ xs.length ≤ 10) → FdS low tot P ts M fr ((madeAll P low M TR fr).map dR) st →
    ∃ st', forLoop (Itp.at oLaw (n + 40)) (Str.ofString "text") (blk (stm 17 17)) st (X.map fun xs => .str (sOf xs)) = some (.nx, st') := by
  intro X
  induction X with
  | nil => exact fun st _ _ => ⟨st, rfl⟩
  | cons xs X ih =>
    intro st hX h
    obtain ⟨st1, e1, h1⟩ := ft_turn (n := n) w sh hT hf hfl (hX xs (.head _)).1 (hX xs (.head _)).2 h
    obtain ⟨st2, e2⟩ := ih st1 (fun ys m => hX ys (.tail _ m)) h1
    refine ⟨st2, ?_⟩
    rw [List.map_cons, for_cons, e1, Option.bind_some]
    exact e2
theorem lw17 (w : Wd low P ts) (sh : Shf ts M) {TR : List Int → List Tr} (hT : ∀ xs, Lets low xs → RowOf low P ts xs (TR xs)) (hf : Lets low fr) (hfl : fr.length = 4) (h : FdS low tot P ts M fr ((madeAll P low M TR fr).map dR) st) :
    ∃ st', exS oLaw (Itp.at oLaw (n + 40)) st (stm 17 17) = some (.nx, st') := by
  have hit := lw17_items (n := n + 16) w hfl h.lw h.front
  have hd : Lets low (fr.drop 1) := fun x m => hf x (List.mem_of_mem_drop m)
  have ha : ∀ {ys zs : List Int}, Lets low ys → Lets low zs → Lets low (ys ++ zs) := fun {ys zs} a b x m => by
    rcases List.mem_append.mp m with m | m
    · exact a x m
    · exact b x m
  have l0 : Lets low [] := fun _ m => nomatch m
  have l1 : Lets low [low] := fun x m => .inl (List.mem_singleton.mp m)
  have l2 : Lets low [255, low] := fun x m => by
    rcases List.mem_cons.mp m with rfl | m
    · exact .inr rfl
    · exact .inl (List.mem_singleton.mp m)
  have ll : ∀ {ys zs : List Int}, Lets low ys ∧ ys.length ≤ 4 → Lets low zs ∧ zs.length ≤ 2 → Lets low (ys ++ zs) ∧ (ys ++ zs).length ≤ 10 := fun a b => ⟨ha a.1 b.1, by rw [List.length_append]; exact Nat.le_trans (Nat.add_le_add a.2 b.2) (by decide)⟩
  have f0 : Lets low fr ∧ fr.length ≤ 4 := ⟨hf, Nat.le_of_eq hfl⟩
  have f1 : Lets low (fr.drop 1) ∧ (fr.drop 1).length ≤ 4 := ⟨hd, by rw [List.length_drop, hfl]; decide⟩
  have z0 : Lets low [] ∧ 0 ≤ 2 := ⟨l0, by decide⟩
  have z1 : Lets low [low] ∧ 1 ≤ 2 := ⟨l1, by decide⟩
  have z2 : Lets low [255, low] ∧ 2 ≤ 2 := ⟨l2, by decide⟩
  obtain ⟨st2, e2⟩ := lw17_loop (n := n) w sh hT hf hfl (textsL low fr) st (List.forall_mem_cons.mpr ⟨ll f0 z0, List.forall_mem_cons.mpr ⟨ll f0 z1, List.forall_mem_cons.mpr ⟨ll f0 z2, List.forall_mem_cons.mpr ⟨ll f1 z0, List.forall_mem_cons.mpr ⟨ll f1 z1, List.forall_mem_singleton.mpr (ll f1 z2)⟩⟩⟩⟩⟩) h
  exact ⟨st2, by rw [lw17_for, if_neg (by decide), hit]; exact e2⟩
theorem lw18 : exS oLaw (Itp.at oLaw (n + 20)) st (stm 17 18) = some (.ret (.st (.bool true)), st) := by
  (conv in (stm _ _) => whnf); simp +decide [LSt.get_put]
end
end Mine
end

section
open PySem PySem.W PyProof.Rows Builtin.Str
namespace Mine
theorem stp {O : Orc} (n : Nat) {st st' : LSt} {s : Stmt} {r : List Stmt} (h : exS O (Itp.at O n) st s = some (.nx, st')) : (Itp.at O (n + 1)).exs st (s :: r) = (Itp.at O n).exs st' r := by
  rw [exs_c, h]; rfl
theorem stl {O : Orc} (n : Nat) {st st' : LSt} {s : Stmt} {v : RV} {r : List Stmt} (h : exS O (Itp.at O n) st s = some (.ret v, st')) : (Itp.at O (n + 1)).exs st (s :: r) = some (.ret v, st') := by
  rw [exs_c, h]; rfl
theorem body17 : bodyN 17 = [stm 17 0, stm 17 1, stm 17 2, stm 17 3, stm 17 4, stm 17 5, stm 17 6, stm 17 7, stm 17 8, stm 17 9, stm 17 10, stm 17 11, stm 17 12, stm 17 13, stm 17 14, stm 17 15, stm 17 16, stm 17 17, stm 17 18] := rfl
theorem wd0 {low : Int} (h0 : 0 < low) (h1 : low ≤ 45) : Wd low [] [] where
  lo := ⟨h0, h1⟩
  len := rfl
  le4 := Nat.zero_le _
  wf := fun _ m => nomatch m
  sym := fun k t e => by simp at e
  small := fun _ m => nomatch m
  lets := fun _ m => nomatch m
  pwf := fun k l r e => by simp at e
theorem shf0 : Shf [] [] := ⟨List.Perm.refl _, List.Pairwise.nil⟩
theorem glo0 (script : List Int) : ∀ x ∈ fLaw.glos, LSt.get (fLaw.pars.zip [LV.val (.list (script.map .int))] ++ fLaw.glos.map (·, LV.glo)) x = some .glo := by
  intro x m
  simp only [fLaw, names, List.map_cons, List.map_nil, List.mem_cons, List.not_mem_nil, or_false] at m
  rcases m with rfl | rfl | rfl | rfl | rfl | rfl | rfl | rfl | rfl | rfl | rfl | rfl | rfl | rfl <;> rfl
theorem law_half {low tot : Int} {P : List (Int × Int)} {ts M : List Tr} {st : LSt} (w : Wd low P ts) (sh : Shf ts M) (h : LwS low tot P ts M st) :
    ∃ st', (Itp.at oLaw 94).exs st [stm 17 6, stm 17 7, stm 17 8, stm 17 9, stm 17 10, stm 17 11, stm 17 12, stm 17 13, stm 17 14, stm 17 15, stm 17 16, stm 17 17, stm 17 18] = some (.ret (.st (.bool true)), st') := by
  have e6 := lw6 (n := 73) w sh h
  obtain ⟨s7, e7, h7⟩ := lw7 (n := 68) w h
  have e8 := lw8 (n := 71) w sh h7
  obtain ⟨s8, hs8⟩ : ∃ s8, s8 = s7.put (Str.ofString "words") (.val (.list (wordsD M))) := ⟨_, rfl⟩
  have h8 : LwS low tot P ts M s8 := by rw [hs8]; exact h7.put (by decide)
  have w8 : s8.get (Str.ofString "words") = some (.val (.list (wordsD M))) := by rw [hs8, LSt.get_put, if_pos rfl]
  rw [← hs8] at e8
  have e9 := lw9 (n := 70) w h8
  obtain ⟨s9, hs9⟩ : ∃ s9, s9 = s8.put (Str.ofString "whole") (.own (dS [.lf low, .lf 255])) := ⟨_, rfl⟩
  have h9 : LwS low tot P ts M s9 := by rw [hs9]; exact h8.put (by decide)
  have w9 : s9.get (Str.ofString "words") = some (.val (.list (wordsD M))) := by rw [hs9, LSt.get_put, if_neg (by decide)]; exact w8
  have q9 : s9.get (Str.ofString "whole") = some (.own (dS [.lf low, .lf 255])) := by rw [hs9, LSt.get_put, if_pos rfl]
  rw [← hs9] at e9
  obtain ⟨s10, e10, h10, q10, w10⟩ := lw10 (n := 65) w h9 q9
  rw [w9] at w10
  obtain ⟨fr, hfl, hf, e11⟩ := lw11 (n := 68) w h10
  have hf : Lets low fr := hf
  obtain ⟨s11, hs11⟩ : ∃ s11, s11 = s10.put (Str.ofString "front") (.val (.str (sOf fr))) := ⟨_, rfl⟩
  have h11 : LwS low tot P ts M s11 := by rw [hs11]; exact h10.put (by decide)
  have w11 : s11.get (Str.ofString "words") = some (.val (.list (wordsD M))) := by rw [hs11, LSt.get_put, if_neg (by decide)]; exact w10
  have q11 : s11.get (Str.ofString "whole") = some (.own (dS (wholeT P low ts))) := by rw [hs11, LSt.get_put, if_neg (by decide)]; exact q10
  have f11 : s11.get (Str.ofString "front") = some (.val (.str (sOf fr))) := by rw [hs11, LSt.get_put, if_pos rfl]
  rw [← hs11] at e11
  have e12 := lw12 (n := 67) (st := s11)
  obtain ⟨s12, hs12⟩ : ∃ s12, s12 = s11.put (Str.ofString "rows") (.own [.list []]) := ⟨_, rfl⟩
  have h12 : LwS low tot P ts M s12 := by rw [hs12]; exact h11.put (by decide)
  have w12 : s12.get (Str.ofString "words") = some (.val (.list (wordsD M))) := by rw [hs12, LSt.get_put, if_neg (by decide)]; exact w11
  have q12 : s12.get (Str.ofString "whole") = some (.own (dS (wholeT P low ts))) := by rw [hs12, LSt.get_put, if_neg (by decide)]; exact q11
  have f12 : s12.get (Str.ofString "front") = some (.val (.str (sOf fr))) := by rw [hs12, LSt.get_put, if_neg (by decide)]; exact f11
  have r12 : s12.get (Str.ofString "rows") = some (.own [.list []]) := by rw [hs12, LSt.get_put, if_pos rfl]
  rw [← hs12] at e12
  obtain ⟨TR, hT⟩ : ∃ TR : List Int → List Tr, ∀ xs, Lets low xs → RowOf low P ts xs (TR xs) := by
    have : ∀ xs : List Int, ∃ R : List Tr, Lets low xs → RowOf low P ts xs R := fun xs => by
      by_cases hx : Lets low xs
      · obtain ⟨R, hR⟩ := w.rowOf hx
        exact ⟨R, fun _ => hR⟩
      · exact ⟨[], fun a => absurd a hx⟩
    exact Classical.axiomOfChoice this
  have hr1 : rowsD TR fr 1 = [.list []] := by
    have e : TR [] = [] := (hT [] fun _ m => nomatch m).uniq w RowOf.nil
    have : rowsD TR fr 1 = [rowD TR (fr.take 0)] := rfl
    rw [this, List.take_zero, rowD, e]
    rfl
  obtain ⟨s13, e13, h13⟩ := lw13 (n := 52) w hT hf hfl (st := s12) ⟨h12, f12, by rw [hr1]; exact r12, .inl q12, w12⟩
  have e14 := lw14 (n := 65) w hT hf hfl h13
  have e15 := lw15 (n := 64) (st := s13)
  obtain ⟨s15, hs15⟩ : ∃ s15, s15 = s13.put (Str.ofString "made_rows") (.own []) := ⟨_, rfl⟩
  have h15 : MdS low tot P ts M fr TR [] s15 := by
    have h2 : ∀ y ∈ names ["front", "rows", "whole"], s15.get y = s13.get y := fun y m => by
      rw [hs15, LSt.get_put, if_neg]
      rintro rfl
      revert m
      decide
    exact ⟨by rw [hs15]; exact h13.lw.put (by decide), (h2 _ (by decide)).trans h13.front, (h2 _ (by decide)).trans h13.rows, h13.whole.imp (fun z => (h2 _ (by decide)).trans z) (fun z => (h2 _ (by decide)).trans z), by rw [hs15, LSt.get_put, if_pos rfl]⟩
  have w15 : s15.get (Str.ofString "words") = some (.val (.list (wordsD M))) := by rw [hs15, LSt.get_put, if_neg (by decide)]; exact h13.words
  rw [← hs15] at e15
  obtain ⟨s16, e16, h16⟩ := lw16 (n := 43) w sh hT hf hfl h15 w15
  obtain ⟨s17, e17⟩ := lw17 (n := 42) w sh hT hf hfl ⟨h16.lw, h16.front, h16.made⟩
  have e18 := lw18 (n := 61) (st := s17)
  exact ⟨s17, (stp 93 e6).trans ((stp 92 e7).trans ((stp 91 e8).trans ((stp 90 e9).trans ((stp 89 e10).trans ((stp 88 e11).trans ((stp 87 e12).trans ((stp 86 e13).trans ((stp 85 e14).trans ((stp 84 e15).trans ((stp 83 e16).trans ((stp 82 e17).trans (stl 81 e18))))))))))))⟩
theorem law_true (script : List Int) (hl : script.length ≤ 63) : spLaw script = some (.bool true) := by
  unfold spLaw Fnn.run
  have hb : bodyN fLaw.ix = bodyN 17 := rfl
  have hO : fLaw.O = oLaw := rfl
  rw [hb, hO, body17]
  have hz : List.map LV.val [Dat.list (script.map .int)] = [LV.val (.list (script.map .int))] := rfl
  have g0 := glo0 script
  have s0g : LSt.get (fLaw.pars.zip [LV.val (.list (script.map .int))] ++ fLaw.glos.map (·, LV.glo)) (Str.ofString "script") = some (.val (.list (script.map .int))) := rfl
  generalize fLaw.pars.zip [LV.val (.list (script.map .int))] ++ fLaw.glos.map (·, LV.glo) = S at *
  have e0 := lw0 (n := 79) s0g hl
  have ml : (marksOf script).length ≤ 63 := by unfold marksOf; rw [List.length_map]; exact hl
  have mp : ∀ x ∈ marksOf script, 0 ≤ x := fun x m => by
    obtain ⟨y, _, rfl⟩ := List.mem_map.mp m
    exact Int.emod_nonneg _ (by decide)
  generalize marksOf script = m at *
  obtain ⟨s0, hs0⟩ : ∃ s0 : LSt, s0 = LSt.put S (Str.ofString "marks") (.val (.list (m.map .int))) := ⟨_, rfl⟩
  have gput : ∀ {s : LSt} {x : Str} {l : LV}, x ∉ fLaw.glos → (∀ y ∈ fLaw.glos, s.get y = some .glo) → ∀ y ∈ fLaw.glos, (s.put x l).get y = some .glo := fun {s x l} hx h y my => by
    rw [LSt.get_put, if_neg (mem_ne hx my)]
    exact h y my
  have g1 : ∀ y ∈ fLaw.glos, s0.get y = some .glo := by rw [hs0]; exact gput (by decide) g0
  have m0 : s0.get (Str.ofString "marks") = some (.val (.list (m.map .int))) := by rw [hs0, LSt.get_put, if_pos rfl]
  rw [← hs0] at e0
  have e1 := lw1 (n := 78) m0 (g1 _ (by decide))
  generalize m.sum = tot at *
  obtain ⟨s1, hs1⟩ : ∃ s1, s1 = s0.put (Str.ofString "total") (.val (.int tot)) := ⟨_, rfl⟩
  have g2 : ∀ y ∈ fLaw.glos, s1.get y = some .glo := by rw [hs1]; exact gput (by decide) g1
  have m1 : s1.get (Str.ofString "marks") = some (.val (.list (m.map .int))) := by rw [hs1, LSt.get_put, if_neg (by decide)]; exact m0
  have t1 : s1.get (Str.ofString "total") = some (.val (.int tot)) := by rw [hs1, LSt.get_put, if_pos rfl]
  rw [← hs1] at e1
  have e2 := lw2 (n := 77) t1
  have l0 : 0 < 1 + tot % 45 := by omega
  have l1 : 1 + tot % 45 ≤ 45 := by omega
  generalize 1 + tot % 45 = low at *
  obtain ⟨s2, hs2⟩ : ∃ s2, s2 = s1.put (Str.ofString "low") (.val (.int low)) := ⟨_, rfl⟩
  have g3 : ∀ y ∈ fLaw.glos, s2.get y = some .glo := by rw [hs2]; exact gput (by decide) g2
  have m2 : s2.get (Str.ofString "marks") = some (.val (.list (m.map .int))) := by rw [hs2, LSt.get_put, if_neg (by decide)]; exact m1
  have t2 : s2.get (Str.ofString "total") = some (.val (.int tot)) := by rw [hs2, LSt.get_put, if_neg (by decide)]; exact t1
  have w2 : s2.get (Str.ofString "low") = some (.val (.int low)) := by rw [hs2, LSt.get_put, if_pos rfl]
  rw [← hs2] at e2
  have e3 := lw3 (n := 76) w2
  obtain ⟨s3, hs3⟩ : ∃ s3, s3 = ((s2.put (Str.ofString "pairs") (.own [])).put (Str.ofString "symbols") (.own (dS (forest low [])))).put (Str.ofString "shelf") (.own (shelfD low [])) := ⟨_, rfl⟩
  have g4 : ∀ y ∈ fLaw.glos, s3.get y = some .glo := by rw [hs3]; exact gput (by decide) (gput (by decide) (gput (by decide) g3))
  have m3 : s3.get (Str.ofString "marks") = some (.val (.list (m.map .int))) := by
    rw [hs3, LSt.get_put, if_neg (by decide), LSt.get_put, if_neg (by decide), LSt.get_put, if_neg (by decide)]; exact m2
  have t3 : s3.get (Str.ofString "total") = some (.val (.int tot)) := by
    rw [hs3, LSt.get_put, if_neg (by decide), LSt.get_put, if_neg (by decide), LSt.get_put, if_neg (by decide)]; exact t2
  have w3 : s3.get (Str.ofString "low") = some (.val (.int low)) := by
    rw [hs3, LSt.get_put, if_neg (by decide), LSt.get_put, if_neg (by decide), LSt.get_put, if_neg (by decide)]; exact w2
  have p3 : s3.get (Str.ofString "pairs") = some (.own []) := by
    rw [hs3, LSt.get_put, if_neg (by decide), LSt.get_put, if_neg (by decide), LSt.get_put, if_pos rfl]
  have y3 : s3.get (Str.ofString "symbols") = some (.own (dS (forest low []))) := by
    rw [hs3, LSt.get_put, if_neg (by decide), LSt.get_put, if_pos rfl]
  have x3 : s3.get (Str.ofString "shelf") = some (.own (shelfD low [])) := by
    rw [hs3, LSt.get_put, if_pos rfl]
  rw [← hs3] at e3
  have e4 := lw4 (n := 75) w3 l0 l1 (g4 _ (by decide))
  obtain ⟨s4, hs4⟩ : ∃ s4, s4 = s3.put (Str.ofString "texts") (.dct (es (forest low []))) := ⟨_, rfl⟩
  have g5 : ∀ y ∈ fLaw.glos, s4.get y = some .glo := by rw [hs4]; exact gput (by decide) g4
  have k4 : ∀ y ∈ names ["marks", "total", "low", "pairs", "symbols", "shelf"], s4.get y = s3.get y := fun y m => by
    rw [hs4, LSt.get_put, if_neg]
    rintro rfl
    revert m
    decide
  have h4 : LwS low tot [] [] [] s4 := ⟨g5, (k4 _ (by decide)).trans w3, (k4 _ (by decide)).trans t3, (k4 _ (by decide)).trans p3, (k4 _ (by decide)).trans y3, (k4 _ (by decide)).trans x3, by rw [hs4, LSt.get_put, if_pos rfl]⟩
  have m4 : s4.get (Str.ofString "marks") = some (.val (.list (m.map .int))) := (k4 _ (by decide)).trans m3
  rw [← hs4] at e4
  have i5 := lw5_items (n := 74) ml m4 (g5 _ (by decide))
  obtain ⟨P, ts, M, s5, e5, w, sh, h5⟩ := build_loop (n := 64) (m.take 4 ++ ([2, 1, 12, 2] : List Int).drop (m.take 4).length) (wd0 l0 l1) shf0 h4 (fun x mx => by
    rcases List.mem_append.mp mx with mx | mx
    · exact mp x (List.mem_of_mem_take mx)
    · have := List.mem_of_mem_drop mx
      simp only [List.mem_cons, List.not_mem_nil, or_false] at this
      omega) (by
    rw [List.length_append, List.length_drop, List.length_take]
    simp only [List.length_cons, List.length_nil]
    omega)
  have e5' : exS oLaw (Itp.at oLaw 94) s4 (stm 17 5) = some (.nx, s5) := by
    rw [lw5_for, if_neg (by decide), i5]
    exact e5
  obtain ⟨s18, e18⟩ := law_half w sh h5
  have E := (stp 99 e0).trans ((stp 98 e1).trans ((stp 97 e2).trans ((stp 96 e3).trans ((stp 95 e4).trans ((stp 94 e5').trans e18)))))
  rw [E]
  rfl
end Mine
end

theorem PySem.Challenge.cw_rw0029_01_holds : PySem.Challenge.rw_rw0029_01.Holds :=
  Mine.law_holds Mine.law_true
