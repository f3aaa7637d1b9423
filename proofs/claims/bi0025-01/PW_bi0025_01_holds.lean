import PyProof.Rows.All
import Wide.All
import OpenK.AllK
import Wide.FinOn
import KE.KStateDown
import Lean
import PySem.Challenge.RW_bi0025_01

section
open PySem PySem.W PyProof.Rows
set_option Elab.async false
set_option maxRecDepth 100000
namespace Sb

/-- a value without its token -/
inductive MV where
  | int (i : Int) | str (s : Str) | bool (b : Bool) | none | ref (a : Addr)

def MV.of : Value → Option MV
  | .int i _ => some (.int i)
  | .str s _ => some (.str s)
  | .bool b => some (.bool b)
  | .none => some .none
  | .ref a => some (.ref a)
  | _ => Option.none

inductive Fld where | cur | cursor | limit | lb | bra | ket | p1
  deriving DecidableEq
def Fld.name : Fld → Str
  | .cur => "current" | .cursor => "cursor" | .limit => "limit" | .lb => "limit_backward" | .bra => "bra" | .ket => "ket" | .p1 => "I_p1"

inductive Loc where
  | value | s | v | word | i | j | c | lb | common_i | common_j | fki | k | diff | common | w | i2 | adjustment | c_bra | c_ket
  | v_1 | v_2 | v_3 | v_4 | among_var | S_ch | I_x
  deriving DecidableEq
def Loc.name : Loc → Str
  | .value => "value" | .s => "s" | .v => "v" | .word => "word" | .i => "i" | .j => "j" | .c => "c" | .lb => "lb" | .common_i => "common_i" | .common_j => "common_j"
  | .fki => "first_key_inspected" | .k => "k" | .diff => "diff" | .common => "common" | .w => "w" | .i2 => "i2" | .adjustment => "adjustment" | .c_bra => "c_bra" | .c_ket => "c_ket"
  | .v_1 => "v_1" | .v_2 => "v_2" | .v_3 => "v_3" | .v_4 => "v_4" | .among_var => "among_var" | .S_ch => "S_ch" | .I_x => "I_x"

inductive Cls where | da | no | sv
  deriving DecidableEq
def Cls.name : Cls → Str
  | .da => "DanishStemmer" | .no => "NorwegianStemmer" | .sv => "SwedishStemmer"
inductive Att where | g_v | g_s_ending | g_undouble_c | g_ost_ending | a_0 | a_1 | a_2 | a_3
  deriving DecidableEq
def Att.name : Att → Str
  | .g_v => "g_v" | .g_s_ending => "g_s_ending" | .g_undouble_c => "g_undouble_c" | .g_ost_ending => "g_ost_ending" | .a_0 => "a_0" | .a_1 => "a_1" | .a_2 => "a_2" | .a_3 => "a_3"
inductive Amf where | s | sub | res
  deriving DecidableEq
def Amf.name : Amf → Str
  | .s => "s" | .sub => "substring_i" | .res => "result"
inductive Lab where | l0 | l1 | l2
  deriving DecidableEq
def Lab.name : Cls → Lab → Str
  | .da, .l0 => "lab0_danish_stemmer" | .da, .l1 => "lab1_danish_stemmer" | .da, .l2 => "lab2_danish_stemmer"
  | .no, .l0 => "lab0_norwegian_stemmer" | .no, .l1 => "lab1_norwegian_stemmer" | .no, .l2 => "lab2_norwegian_stemmer"
  | .sv, .l0 => "lab0_swedish_stemmer" | .sv, .l1 => "lab1_swedish_stemmer" | .sv, .l2 => "lab2_swedish_stemmer"
inductive Mth where
  | init | set_current | get_current | go_in | go_out | in_b | out_b | eq_s_b | find_b | replace_s | slice_from | slice_del | slice_to | stemWord
  | r_mark | r_main | r_cons | r_other | r_undouble | r_et | stem
  deriving DecidableEq
def Mth.name : Mth → Str
  | .init => "__init__" | .set_current => "set_current" | .get_current => "get_current" | .go_in => "go_in_grouping" | .go_out => "go_out_grouping" | .in_b => "in_grouping_b" | .out_b => "out_grouping_b"
  | .eq_s_b => "eq_s_b" | .find_b => "find_among_b" | .replace_s => "replace_s" | .slice_from => "slice_from" | .slice_del => "slice_del" | .slice_to => "slice_to" | .stemWord => "stemWord"
  | .r_mark => "r_mark_regions" | .r_main => "r_main_suffix" | .r_cons => "r_consonant_pair" | .r_other => "r_other_suffix" | .r_undouble => "r_undouble" | .r_et => "r_et_condition" | .stem => "_stem"

/-- expressions -/
inductive IX where
  | lit (v : MV)
  | loc (x : Loc)
  | fld (f : Fld)
  | glob (c : Cls) (a : Att)
  | amg (x : Loc) (k : Amf)
  | add (a b : IX) | sub (a b : IX) | shr1 (a : IX)
  | lt (a b : IX) | le (a b : IX) | gt (a b : IX) | ge (a b : IX) | eq (a b : IX) | ne (a b : IX)
  | inn (a b : IX) | notin (a b : IX)
  | orr (a b : IX)
  | len (a : IX) | ord (a : IX) | min (a b : IX)
  | idx (a i : IX)
  | slc (a lo hi : IX) | slcE (a lo : IX)
  | ends (a b : IX)

/-- statements -/
inductive IS where
  | setL (x : Loc) (e : IX)
  | setF (f : Fld) (e : IX)
  | augL (x : Loc) (e : IX)
  | augF (f : Fld) (plus : Bool) (e : IX)
  | ife (c : IX) (t e : List IS)
  | ifNot (m : Mth) (args : List IX) (t : List IS)
  | ifZero (m : Mth) (args : List IX) (t : List IS)
  | setC (x : Loc) (m : Mth) (args : List IX)
  | call (m : Mth) (args : List IX)
  | retC (m : Mth) (args : List IX)
  | whil (c : IX) (b : List IS)
  | fordown (x : Loc) (e : IX) (b : List IS)
  | tryx (b : List IS) (c : Cls) (l : Lab)
  | raise (c : Cls) (l : Lab)
  | ret (e : IX)
  | brk | pass
  | asrt (e : IX)

/-- what stands at the top -/
structure Sg where
  gattr : Cls → Att → Option Addr
  lst : Addr → Option (List Addr)
  amg : Addr → Option (Str × Int × Int)
  set : Addr → Option (List Str)

def setA {κ : Type} [DecidableEq κ] (x : κ) (v : MV) : List (κ × MV) → List (κ × MV)
  | [] => [(x, v)]
  | p :: r => if p.1 = x then (x, v) :: r else p :: setA x v r
def getA {κ : Type} [DecidableEq κ] (x : κ) : List (κ × MV) → Option MV
  | [] => none
  | p :: r => if p.1 = x then some p.2 else getA x r

structure St where
  fld : List (Fld × MV)
  loc : List (Loc × MV)
def St.setL (σ : St) (x : Loc) (v : MV) : St := { σ with loc := setA x v σ.loc }
def St.setF (σ : St) (f : Fld) (v : MV) : St := { σ with fld := setA f v σ.fld }

def bigLine : Nat := 4096
def amf : Amf → Str × Int × Int → MV
  | .s, t => .str t.1
  | .sub, t => .int t.2.1
  | .res, t => .int t.2.2
def chr1 (n : Nat) : Str := ⟨#[n]⟩
def cut (s : Str) (lo hi : Nat) : Str := ⟨((s.cps.toList.drop lo).take (hi - lo)).toArray⟩

def cmpI (p : Int → Int → Bool) : Option MV → Option MV → Option MV
  | some (.int a), some (.int b) => some (.bool (p a b))
  | _, _ => none
def arI (p : Int → Int → Int) : Option MV → Option MV → Option MV
  | some (.int a), some (.int b) => some (.int (p a b))
  | _, _ => none
def addV : Option MV → Option MV → Option MV
  | some (.int a), some (.int b) => some (.int (a + b))
  | some (.str a), some (.str b) => if a.length + b.length ≤ bigLine then some (.str (a ++ b)) else none
  | _, _ => none
def shrV : Option MV → Option MV
  | some (.int a) => if 0 ≤ a ∧ a < 4096 then some (.int (a / 2)) else none
  | _ => none
def eqV : Option MV → Option MV → Option MV
  | some (.int a), some (.int b) => some (.bool (a == b))
  | some (.str a), some (.str b) => some (.bool (a == b))
  | _, _ => none
def notV : Option MV → Option MV
  | some (.bool b) => some (.bool !b)
  | _ => none
def inV (g : Sg) : Option MV → Option MV → Option MV
  | some (.str a), some (.ref b) => (g.set b).map fun l => .bool (l.contains a)
  | _, _ => none
def lenV (g : Sg) : Option MV → Option MV
  | some (.str a) => if a.length ≤ bigLine then some (.int a.length) else none
  | some (.ref a) => (g.lst a).map fun l => .int l.length
  | _ => none
def ordV : Option MV → Option MV
  | some (.str a) => if a.length = 1 then some (.int (a.cps.getD 0 0 : Nat)) else none
  | _ => none
def minV : Option MV → Option MV → Option MV
  | some (.int a), some (.int b) => some (.int (if b < a then b else a))
  | _, _ => none
def idxV (g : Sg) : Option MV → Option MV → Option MV
  | some (.str a), some (.int i) => if 0 ≤ i ∧ i < a.length ∧ a.length ≤ bigLine then some (.str (chr1 (a.cps.getD i.toNat 0))) else none
  | some (.ref a), some (.int i) => if 0 ≤ i ∧ i < 4096 then (g.lst a).bind fun l => (l[i.toNat]?).map .ref else none
  | _, _ => none
def slcV : Option MV → Option MV → Option MV → Option MV
  | some (.str a), some (.int lo), some (.int hi) => if 0 ≤ lo ∧ lo ≤ hi ∧ hi ≤ a.length ∧ a.length ≤ bigLine then some (.str (cut a lo.toNat hi.toNat)) else none
  | _, _, _ => none
def slcEV : Option MV → Option MV → Option MV
  | some (.str a), some (.int lo) => if 0 ≤ lo ∧ lo ≤ a.length ∧ a.length ≤ bigLine then some (.str (cut a lo.toNat a.length)) else none
  | _, _ => none
def endsV : Option MV → Option MV → Option MV
  | some (.str a), some (.str b) => some (.bool (b.cps.toList.isSuffixOf a.cps.toList))
  | _, _ => none

def ev (g : Sg) (σ : St) : IX → Option MV
  | .lit v => some v
  | .loc x => getA x σ.loc
  | .fld f => getA f σ.fld
  | .glob c a => (g.gattr c a).map .ref
  | .amg x k => match getA x σ.loc with
    | some (.ref a) => (g.amg a).map (amf k)
    | _ => none
  | .add a b => addV (ev g σ a) (ev g σ b)
  | .sub a b => arI (· - ·) (ev g σ a) (ev g σ b)
  | .shr1 a => shrV (ev g σ a)
  | .lt a b => cmpI (fun x y => decide (x < y)) (ev g σ a) (ev g σ b)
  | .le a b => cmpI (fun x y => decide (x ≤ y)) (ev g σ a) (ev g σ b)
  | .gt a b => cmpI (fun x y => decide (y < x)) (ev g σ a) (ev g σ b)
  | .ge a b => cmpI (fun x y => decide (y ≤ x)) (ev g σ a) (ev g σ b)
  | .eq a b => eqV (ev g σ a) (ev g σ b)
  | .ne a b => notV (eqV (ev g σ a) (ev g σ b))
  | .inn a b => inV g (ev g σ a) (ev g σ b)
  | .notin a b => notV (inV g (ev g σ a) (ev g σ b))
  | .orr a b => match ev g σ a with
    | some (.bool true) => some (.bool true)
    | some (.bool false) => (match ev g σ b with | some (.bool c) => some (.bool c) | _ => none)
    | _ => none
  | .len a => lenV g (ev g σ a)
  | .ord a => ordV (ev g σ a)
  | .min a b => minV (ev g σ a) (ev g σ b)
  | .idx a i => idxV g (ev g σ a) (ev g σ i)
  | .slc a lo hi => slcV (ev g σ a) (ev g σ lo) (ev g σ hi)
  | .slcE a lo => slcEV (ev g σ a) (ev g σ lo)
  | .ends a b => endsV (ev g σ a) (ev g σ b)
def evs (g : Sg) (σ : St) : List IX → Option (List MV)
  | [] => some []
  | e :: r => match ev g σ e, evs g σ r with
    | some v, some vs => some (v :: vs)
    | _, _ => none

inductive Out where
  | next | brk | ret (v : MV) | exc (c : Cls) (l : Lab)

/-- a method's parameters (behind self) and its body -/
abbrev Meths := Mth → Option (List Loc × List IS)

inductive Tk where
  | blk (b : List IS) (σ : St) (o : Out) (σ' : St)
  | stm (s : IS) (σ : St) (o : Out) (σ' : St)
  | loop (c : IX) (b : List IS) (σ : St) (o : Out) (σ' : St)
  | down (x : Loc) (n : Int) (b : List IS) (σ : St) (o : Out) (σ' : St)
  | mth (m : Mth) (args : List MV) (f : List (Fld × MV)) (v : MV) (f' : List (Fld × MV))

def Out.isNext : Out → Bool
  | .next => true
  | _ => false

inductive Ex (g : Sg) (M : Meths) : Nat → Tk → Prop
  | nil {n : Nat} {σ} : Ex g M n (.blk [] σ .next σ)
  | cons {n : Nat} {s r σ σ₁ o σ₂} : Ex g M n (.stm s σ .next σ₁) → Ex g M n (.blk r σ₁ o σ₂) → Ex g M n (.blk (s :: r) σ o σ₂)
  | stop {n : Nat} {s r σ o σ₁} : Ex g M n (.stm s σ o σ₁) → o.isNext = false → Ex g M n (.blk (s :: r) σ o σ₁)
  | setL {n : Nat} {x e σ v} : ev g σ e = some v → Ex g M n (.stm (.setL x e) σ .next (σ.setL x v))
  | setF {n : Nat} {f e σ v} : ev g σ e = some v → Ex g M n (.stm (.setF f e) σ .next (σ.setF f v))
  | augL {n : Nat} {x e σ v} : ev g σ (.add (.loc x) e) = some (.int v) → Ex g M n (.stm (.augL x e) σ .next (σ.setL x (.int v)))
  | augF {n : Nat} {f p e σ v} : ev g σ (if p then .add (.fld f) e else .sub (.fld f) e) = some (.int v) → Ex g M n (.stm (.augF f p e) σ .next (σ.setF f (.int v)))
  | iteT {n : Nat} {c t e σ o σ'} : ev g σ c = some (.bool true) → Ex g M n (.blk t σ o σ') → Ex g M n (.stm (.ife c t e) σ o σ')
  | iteF {n : Nat} {c t e σ o σ'} : ev g σ c = some (.bool false) → Ex g M n (.blk e σ o σ') → Ex g M n (.stm (.ife c t e) σ o σ')
  | notT {n : Nat} {m as t σ vs f' o σ'} : evs g σ as = some vs → Ex g M n (.mth m vs σ.fld (.bool false) f') → Ex g M n (.blk t { σ with fld := f' } o σ') → Ex g M n (.stm (.ifNot m as t) σ o σ')
  | notF {n : Nat} {m as t σ vs f'} : evs g σ as = some vs → Ex g M n (.mth m vs σ.fld (.bool true) f') → Ex g M n (.stm (.ifNot m as t) σ .next { σ with fld := f' })
  | zeroT {n : Nat} {m as t σ vs f' o σ'} : evs g σ as = some vs → Ex g M n (.mth m vs σ.fld (.int 0) f') → Ex g M n (.blk t { σ with fld := f' } o σ') → Ex g M n (.stm (.ifZero m as t) σ o σ')
  | zeroF {n : Nat} {m as t σ vs f' z} : evs g σ as = some vs → Ex g M n (.mth m vs σ.fld (.int z) f') → z ≠ 0 → Ex g M n (.stm (.ifZero m as t) σ .next { σ with fld := f' })
  | setC {n : Nat} {x m as σ vs v f'} : evs g σ as = some vs → Ex g M n (.mth m vs σ.fld v f') → Ex g M n (.stm (.setC x m as) σ .next (St.setL { σ with fld := f' } x v))
  | call {n : Nat} {m as σ vs v f'} : evs g σ as = some vs → Ex g M n (.mth m vs σ.fld v f') → Ex g M n (.stm (.call m as) σ .next { σ with fld := f' })
  | retC {n : Nat} {m as σ vs v f'} : evs g σ as = some vs → Ex g M n (.mth m vs σ.fld v f') → Ex g M n (.stm (.retC m as) σ (.ret v) { σ with fld := f' })
  | whil {n : Nat} {c b σ o σ'} : Ex g M n (.loop c b σ o σ') → Ex g M n (.stm (.whil c b) σ o σ')
  | loopF {n : Nat} {c b σ} : ev g σ c = some (.bool false) → Ex g M n (.loop c b σ .next σ)
  | loopN {n : Nat} {c b σ σ₁ o σ'} : ev g σ c = some (.bool true) → Ex g M n (.blk b σ .next σ₁) → Ex g M n (.loop c b σ₁ o σ') → Ex g M n (.loop c b σ o σ')
  | loopB {n : Nat} {c b σ σ₁} : ev g σ c = some (.bool true) → Ex g M n (.blk b σ .brk σ₁) → Ex g M n (.loop c b σ .next σ₁)
  | loopR {n : Nat} {c b σ σ₁ v} : ev g σ c = some (.bool true) → Ex g M n (.blk b σ (.ret v) σ₁) → Ex g M n (.loop c b σ (.ret v) σ₁)
  | loopX {n : Nat} {c b σ σ₁ k l} : ev g σ c = some (.bool true) → Ex g M n (.blk b σ (.exc k l) σ₁) → Ex g M n (.loop c b σ (.exc k l) σ₁)
  | forD {n : Nat} {x e b σ o σ'} {z : Int} : ev g σ e = some (.int z) → -1 ≤ z → z < 4096 → Ex g M n (.down x z b σ o σ') → Ex g M n (.stm (.fordown x e b) σ o σ')
  | downE {n : Nat} {x b σ} {z : Int} : z < 0 → Ex g M n (.down x z b σ .next σ)
  | downN {n : Nat} {x b σ σ₁ o σ'} {z : Int} : 0 ≤ z → Ex g M n (.blk b (σ.setL x (.int z)) .next σ₁) → Ex g M n (.down x (z - 1) b σ₁ o σ') → Ex g M n (.down x z b σ o σ')
  | downB {n : Nat} {x b σ σ₁} {z : Int} : 0 ≤ z → Ex g M n (.blk b (σ.setL x (.int z)) .brk σ₁) → Ex g M n (.down x z b σ .next σ₁)
  | tryN {n : Nat} {b c l σ o σ'} : Ex g M n (.blk b σ o σ') → (match o with | .exc _ _ => False | _ => True) → Ex g M n (.stm (.tryx b c l) σ o σ')
  | tryC {n : Nat} {b c l σ σ'} : Ex g M n (.blk b σ (.exc c l) σ') → Ex g M n (.stm (.tryx b c l) σ .next σ')
  | tryX {n : Nat} {b c l σ k l' σ'} : Ex g M n (.blk b σ (.exc k l') σ') → (k, l') ≠ (c, l) → Ex g M n (.stm (.tryx b c l) σ (.exc k l') σ')
  | raise {n : Nat} {c l σ} : Ex g M n (.stm (.raise c l) σ (.exc c l) σ)
  | ret {n : Nat} {e σ v} : ev g σ e = some v → Ex g M n (.stm (.ret e) σ (.ret v) σ)
  | brk {n : Nat} {σ} : Ex g M n (.stm .brk σ .brk σ)
  | pass {n : Nat} {σ} : Ex g M n (.stm .pass σ .next σ)
  | asrt {n : Nat} {e σ} : ev g σ e = some (.bool true) → Ex g M n (.stm (.asrt e) σ .next σ)
  | mthR {n : Nat} {m ps b vs f v σ'} : M m = some (ps, b) → ps.length = vs.length → Ex g M n (.blk b ⟨f, ps.zip vs⟩ (.ret v) σ') → Ex g M (n + 1) (.mth m vs f v σ'.fld)
  | mthN {n : Nat} {m ps b vs f σ'} : M m = some (ps, b) → ps.length = vs.length → Ex g M n (.blk b ⟨f, ps.zip vs⟩ .next σ') → Ex g M (n + 1) (.mth m vs f .none σ'.fld)

end Sb
end

section
open PySem PySem.W PyProof.Rows
set_option Elab.async false
set_option maxRecDepth 100000
namespace Sb

def seq (a b : Str) : Bool := a.cps.toList == b.cps.toList
theorem seq_eq {a b : Str} (h : seq a b = true) : a = b := by
  have h' : a.cps.toList = b.cps.toList := by simpa [seq] using h
  obtain ⟨⟨a⟩⟩ := a
  obtain ⟨⟨b⟩⟩ := b
  simp only at h'
  rw [h']

def isLoc (sc : Scope) (n : Str) : Bool := sc.names.lookup n == some .local
def isGlob (sc : Scope) (n : Str) : Bool := sc.names.lookup n == some .globalImplicit

def ckName (sc : Scope) (x : Str) (g : Bool) : Expr → Bool
  | .Name n _ => seq n x && (if g then isGlob sc n else isLoc sc n)
  | _ => false
def ckAttr (sc : Scope) (x a : Str) (g : Bool) : Expr → Bool
  | .Attribute o at_ _ => seq at_ a && ckName sc x g o
  | _ => false

def ckE (sc : Scope) : IX → Expr → Bool
  | .lit (.int i), e => (match e with
    | .Constant (.int j) _ _ => i == j
    | .UnaryOp .USub (.Constant (.int j) _ _) _ => i == -j
    | _ => false)
  | .lit (.str s), e => (match e with | .Constant (.str t) _ _ => seq t s | _ => false)
  | .lit (.bool b), e => (match e with | .Constant (.bool c) _ _ => b == c | _ => false)
  | .lit _, _ => false
  | .loc x, e => ckName sc x.name false e
  | .fld f, e => ckAttr sc "self" f.name false e
  | .glob c a, e => ckAttr sc c.name a.name true e
  | .amg x k, e => ckAttr sc x.name k.name false e
  | .add a b, e => (match e with | .BinOp l .Add r _ => ckE sc a l && ckE sc b r | _ => false)
  | .sub a b, e => (match e with | .BinOp l .Sub r _ => ckE sc a l && ckE sc b r | _ => false)
  | .shr1 a, e => (match e with | .BinOp l .RShift (.Constant (.int 1) _ _) _ => ckE sc a l | _ => false)
  | .lt a b, e => (match e with | .Compare l [.Lt] [r] _ => ckE sc a l && ckE sc b r | _ => false)
  | .le a b, e => (match e with | .Compare l [.LtE] [r] _ => ckE sc a l && ckE sc b r | _ => false)
  | .gt a b, e => (match e with | .Compare l [.Gt] [r] _ => ckE sc a l && ckE sc b r | _ => false)
  | .ge a b, e => (match e with | .Compare l [.GtE] [r] _ => ckE sc a l && ckE sc b r | _ => false)
  | .eq a b, e => (match e with | .Compare l [.Eq] [r] _ => ckE sc a l && ckE sc b r | _ => false)
  | .ne a b, e => (match e with | .Compare l [.NotEq] [r] _ => ckE sc a l && ckE sc b r | _ => false)
  | .inn a b, e => (match e with | .Compare l [.In] [r] _ => ckE sc a l && ckE sc b r | _ => false)
  | .notin a b, e => (match e with | .Compare l [.NotIn] [r] _ => ckE sc a l && ckE sc b r | _ => false)
  | .orr _ _, _ => false
  | .len a, e => (match e with | .Call f [l] [] _ => ckName sc "len" true f && ckE sc a l | _ => false)
  | .ord a, e => (match e with | .Call f [l] [] _ => ckName sc "ord" true f && ckE sc a l | _ => false)
  | .min a b, e => (match e with | .Call f [l, r] [] _ => ckName sc "min" true f && ckE sc a l && ckE sc b r | _ => false)
  | .idx a i, e => (match e with | .Subscript l r _ => ckE sc a l && ckE sc i r | _ => false)
  | .slc a lo hi, e => (match e with | .Subscript l (.Slice (some u) (some v) none _) _ => ckE sc a l && ckE sc lo u && ckE sc hi v | _ => false)
  | .slcE a lo, e => (match e with | .Subscript l (.Slice (some u) none none _) _ => ckE sc a l && ckE sc lo u | _ => false)
  | .ends a b, e => (match e with | .Call (.Attribute l at_ p) [r] [] q => seq at_ "endswith" && p.endLine == q.line && ckE sc a l && ckE sc b r | _ => false)
/-- a condition -/
def ckC (sc : Scope) : IX → Expr → Bool
  | .orr a b, e => (match e with | .BoolOp .Or [l, r] _ => ckE sc a l && ckE sc b r | _ => false)
  | a, e => ckE sc a e

def ckEs (sc : Scope) : List IX → List Expr → Bool
  | [], [] => true
  | a :: r, e :: s => ckE sc a e && ckEs sc r s
  | _, _ => false
/-- self.m(args) -/
def ckCall (sc : Scope) (m : Mth) (as : List IX) : Expr → Bool
  | .Call (.Attribute (.Name n _) at_ p) es [] q => seq n "self" && isLoc sc n && seq at_ m.name && p.endLine == q.line && ckEs sc as es && Nat.blt es.length 8
  | _ => false

def labOk : Cls → Lab → Bool
  | .sv, .l1 | .sv, .l2 => false
  | _, _ => true

mutual
def ckS (sc : Scope) : IS → Stmt → Bool
  | .setL x e, s => (match s with | .Assign [t] v _ => ckName sc x.name false t && ckE sc e v | _ => false)
  | .setF f e, s => (match s with | .Assign [t] v _ => ckAttr sc "self" f.name false t && ckE sc e v | _ => false)
  | .augL x e, s => (match s with | .AugAssign t .Add v _ => ckName sc x.name false t && ckE sc e v | _ => false)
  | .augF f p e, s => (match s with
    | .AugAssign t .Add v _ => p && ckAttr sc "self" f.name false t && ckE sc e v
    | .AugAssign t .Sub v _ => !p && ckAttr sc "self" f.name false t && ckE sc e v
    | _ => false)
  | .ife c t e, s => (match s with | .If x b o _ => ckC sc c x && ckB sc t b && ckB sc e o | _ => false)
  | .ifNot m as t, s => (match s with | .If (.UnaryOp .Not x _) b [] _ => ckCall sc m as x && ckB sc t b | _ => false)
  | .ifZero m as t, s => (match s with | .If (.Compare x [.Eq] [.Constant (.int 0) _ _] _) b [] _ => ckCall sc m as x && ckB sc t b | _ => false)
  | .setC x m as, s => (match s with | .Assign [t] v _ => ckName sc x.name false t && ckCall sc m as v | _ => false)
  | .call m as, s => (match s with | .Expr v _ => ckCall sc m as v | _ => false)
  | .retC m as, s => (match s with | .Return (some v) _ => ckCall sc m as v | _ => false)
  | .whil c b, s => (match s with | .While x y [] _ => ckC sc c x && ckB sc b y | _ => false)
  | .fordown x e b, s => (match s with
    | .For t (.Call f [u, .UnaryOp .USub (.Constant (.int 1) _ _) _, .UnaryOp .USub (.Constant (.int 1) _ _) _] [] _) y [] _ => ckName sc x.name false t && ckName sc "range" true f && ckE sc e u && ckB sc b y
    | _ => false)
  | .tryx b c l, s => (match s with
    | .Try y [.ExceptHandler (some t) none [.Pass _] _] [] [] _ => labOk c l && ckName sc (Lab.name c l) true t && ckB sc b y
    | _ => false)
  | .raise c l, s => (match s with | .Raise (some (.Call f [] [] _)) none _ => labOk c l && ckName sc (Lab.name c l) true f | _ => false)
  | .ret e, s => (match s with | .Return (some v) _ => ckE sc e v | _ => false)
  | .brk, s => (match s with | .Break _ => true | _ => false)
  | .pass, s => (match s with | .Pass _ => true | _ => false)
  | .asrt e, s => (match s with | .Assert x none _ => ckC sc e x | _ => false)
def ckB (sc : Scope) : List IS → List Stmt → Bool
  | [], [] => true
  | a :: r, e :: s => ckS sc a e && ckB sc r s
  | _, _ => false
end

def noTwice : List Loc → Bool
  | [] => true
  | x :: r => !decide (x ∈ r) && noTwice r
/-- a def: its parameters self and ps, its body -/
def ckM (params : Arguments) (sc : Scope) (body : List Stmt) (ps : List Loc) (b : List IS) : Bool :=
  ckB sc b body && (match params with
    | ⟨[], s :: as, none, [], [], none, []⟩ => seq s.arg "self" && as.length == ps.length && ((as.zip ps).all fun (a, p) => seq a.arg p.name) && isLoc sc s.arg && (as.all fun a => isLoc sc a.arg)
    | _ => false) && noTwice ps && sc.kind == .function && !sc.isCoroutine && !sc.isGenerator && (sc.names.all fun x => x.2 != .cell)

end Sb
end

section
open PySem PySem.W PyProof.Rows
set_option Elab.async false
set_option maxRecDepth 100000
set_option maxHeartbeats 0
namespace Sb

abbrev n0 : IX := .lit (.int 0)
abbrev n1 : IX := .lit (.int 1)
abbrev nm1 : IX := .lit (.int (-1))
abbrev tt : IX := .lit (.bool true)
abbrev ff : IX := .lit (.bool false)
abbrev fCur : IX := .fld .cur
abbrev fC : IX := .fld .cursor
abbrev fL : IX := .fld .limit
abbrev fB : IX := .fld .lb
abbrev lS : IX := .loc .s
abbrev bad (e : IX) : IS := .ife e [.ret ff] []
abbrev thr (c : Cls) (l : Lab) : List IS := [.raise c l]

def P_init : List IS := [.call .set_current [.lit (.str "")]]
def P_set_current : List IS := [.setF .cur (.loc .value), .setF .cursor n0, .setF .limit (.len fCur), .setF .lb n0, .setF .bra fC, .setF .ket fL]
def P_get_current : List IS := [.ret fCur]
def P_go_in : List IS := [.whil (.lt fC fL) [.ife (.notin (.idx fCur fC) lS) [.ret tt] [], .augF .cursor true n1], .ret ff]
def P_go_out : List IS := [.whil (.lt fC fL) [.ife (.inn (.idx fCur fC) lS) [.ret tt] [], .augF .cursor true n1], .ret ff]
def P_in_b : List IS := [bad (.le fC fB), bad (.notin (.idx fCur (.sub fC n1)) lS), .augF .cursor false n1, .ret tt]
def P_out_b : List IS := [bad (.le fC fB), .ife (.notin (.idx fCur (.sub fC n1)) lS) [.augF .cursor false n1, .ret tt] [], .ret ff]
def P_eq_s_b : List IS := [.ife (.ends (.slc fCur fB fC) lS) [.augF .cursor false (.len lS), .ret tt] [], .ret ff]
def P_find_turn : List IS := [
  .ife (.eq (.sub (.loc .c) (.loc .common)) (.loc .lb)) [.setL .diff nm1, .brk] [],
  .setL .diff (.sub (.ord (.idx fCur (.sub (.sub (.loc .c) n1) (.loc .common)))) (.ord (.idx (.amg .w .s) (.loc .i2)))),
  .ife (.ne (.loc .diff) n0) [.brk] [],
  .augL .common n1]
def P_find_1 : List IS := [
  .setL .k (.add (.loc .i) (.shr1 (.sub (.loc .j) (.loc .i)))),
  .setL .diff n0,
  .setL .common (.min (.loc .common_i) (.loc .common_j)),
  .setL .w (.idx (.loc .v) (.loc .k)),
  .fordown .i2 (.sub (.sub (.len (.amg .w .s)) n1) (.loc .common)) P_find_turn,
  .ife (.lt (.loc .diff) n0) [.setL .j (.loc .k), .setL .common_j (.loc .common)] [.setL .i (.loc .k), .setL .common_i (.loc .common)],
  .ife (.le (.sub (.loc .j) (.loc .i)) n1) [.ife (.gt (.loc .i) n0) [.brk] [], .ife (.eq (.loc .j) (.loc .i)) [.brk] [], .ife (.loc .fki) [.brk] [], .setL .fki tt] []]
def P_find_2 : List IS := [
  .setL .w (.idx (.loc .v) (.loc .i)),
  .ife (.ge (.loc .common_i) (.len (.amg .w .s))) [.setF .cursor (.sub (.loc .c) (.len (.amg .w .s))), .ret (.amg .w .res)] [],
  .setL .i (.amg .w .sub),
  .ife (.lt (.loc .i) n0) [.ret n0] []]
def P_find_b : List IS := [
  .setL .i n0, .setL .j (.len (.loc .v)), .setL .c fC, .setL .lb fB, .setL .common_i n0, .setL .common_j n0, .setL .fki ff,
  .whil tt P_find_1, .whil tt P_find_2, .ret nm1]
def P_replace_s : List IS := [
  .setL .adjustment (.sub (.len lS) (.sub (.loc .c_ket) (.loc .c_bra))),
  .setF .cur (.add (.add (.slc fCur n0 (.loc .c_bra)) lS) (.slcE fCur (.loc .c_ket))),
  .augF .limit true (.loc .adjustment),
  .ife (.ge fC (.loc .c_ket)) [.augF .cursor true (.loc .adjustment)] [.ife (.gt fC (.loc .c_bra)) [.setF .cursor (.loc .c_bra)] []],
  .ret (.loc .adjustment)]
abbrev fBra : IX := .fld .bra
abbrev fKet : IX := .fld .ket
def P_asserts : List IS := [.asrt (.ge fBra n0), .asrt (.le fBra fKet), .asrt (.le fKet fL), .asrt (.le fL (.len fCur))]
def P_slice_from : List IS := [.asrt (.ge fBra n0), .asrt (.le fBra fKet), .asrt (.le fKet fL), .asrt (.le fL (.len fCur)), .call .replace_s [fBra, fKet, lS], .setF .ket (.add fBra (.len lS))]
def P_slice_del : List IS := [.retC .slice_from [.lit (.str "")]]
def P_slice_to : List IS := [.asrt (.ge fBra n0), .asrt (.le fBra fKet), .asrt (.le fKet fL), .asrt (.le fL (.len fCur)), .ret (.slc fCur fBra fKet)]
def P_stemWord : List IS := [.call .set_current [.loc .word], .call .stem [], .retC .get_current []]

abbrev fP : IX := .fld .p1
/-- Danish and Norwegian -/
def P_mark2 (k : Cls) : List IS := [
  .setF .p1 fL, .setL .v_1 fC,
  .tryx [
    .whil tt [
      .setL .v_2 fC,
      .tryx [
        .whil tt [
          .tryx [.ife (.orr (.eq fC fL) (.ne (.idx fCur fC) (.lit (.str "'")))) (thr k .l2) [], .augF .cursor true n1, .brk] k .l2,
          .ife (.ge fC fL) (thr k .l1) [],
          .augF .cursor true n1],
        .brk] k .l1,
      .setF .cursor (.loc .v_2),
      .ifNot .go_out [.glob k .g_v] (thr k .l0),
      .augF .cursor true n1,
      .ifNot .go_in [.glob k .g_v] (thr k .l0),
      .augF .cursor true n1,
      .brk],
    .setF .p1 fC] k .l0,
  .setF .cursor (.loc .v_1), .setL .v_3 fC,
  .ife (.gt (.add fC (.lit (.int 3))) fL) [.ret ff] [],
  .augF .cursor true (.lit (.int 3)),
  .tryx [.ife (.ge fP fC) (thr k .l0) [], .setF .p1 fC] k .l0,
  .setF .cursor (.loc .v_3),
  .ret tt]
def P_mark_sv : List IS := [
  .setF .p1 fL, .setL .v_1 fC,
  .ife (.gt (.add fC (.lit (.int 3))) fL) [.ret ff] [],
  .augF .cursor true (.lit (.int 3)),
  .setL .I_x fC,
  .setF .cursor (.loc .v_1),
  .ifNot .go_out [.glob .sv .g_v] [.ret ff],
  .augF .cursor true n1,
  .ifNot .go_in [.glob .sv .g_v] [.ret ff],
  .augF .cursor true n1,
  .setF .p1 fC,
  .tryx [.ife (.ge fP (.loc .I_x)) (thr .sv .l0) [], .setF .p1 (.loc .I_x)] .sv .l0,
  .ret tt]
/-- v = self.limit_backward; self.limit_backward = self.I_p1; self.ket = self.cursor -/
abbrev enterR (v : Loc) : List IS := [.setL v fB, .setF .lb fP, .setF .ket fC]
abbrev outR (v : Loc) : List IS := [.setF .lb (.loc v), .ret ff]
abbrev back (v : Loc) : IS := .setF .cursor (.sub fL (.loc v))
abbrev behind (v : Loc) : IS := .setL v (.sub fL fC)
abbrev av : IX := .loc .among_var
def P_main_da : List IS := [bad (.lt fC fP)] ++ enterR .v_2 ++ [
  .setC .among_var .find_b [.glob .da .a_0],
  .ife (.eq av n0) (outR .v_2) [],
  .setF .bra fC, .setF .lb (.loc .v_2),
  .ife (.eq av n1) [.call .slice_del []] [.ifNot .in_b [.glob .da .g_s_ending] [.ret ff], .call .slice_del []],
  .ret tt]
def P_cons2 (k : Cls) (a : Att) : List IS := [behind .v_1, bad (.lt fC fP)] ++ enterR .v_3 ++ [
  .ifZero .find_b [.glob k a] (outR .v_3),
  .setF .bra fC, .setF .lb (.loc .v_3),
  back .v_1,
  bad (.le fC fB),
  .augF .cursor false n1, .setF .bra fC, .call .slice_del [], .ret tt]
def P_other_da : List IS := [behind .v_1,
  .tryx [.setF .ket fC, .ifNot .eq_s_b [.lit (.str "st")] (thr .da .l0), .setF .bra fC, .ifNot .eq_s_b [.lit (.str "ig")] (thr .da .l0), .call .slice_del []] .da .l0,
  back .v_1, bad (.lt fC fP)] ++ enterR .v_3 ++ [
  .setC .among_var .find_b [.glob .da .a_2],
  .ife (.eq av n0) (outR .v_3) [],
  .setF .bra fC, .setF .lb (.loc .v_3),
  .ife (.eq av n1) [.call .slice_del [], behind .v_4, .call .r_cons [], back .v_4] [.call .slice_from [.lit (.str "løs")]],
  .ret tt]
def P_undouble : List IS := [bad (.lt fC fP)] ++ enterR .v_2 ++ [
  .ifNot .in_b [.glob .da .g_undouble_c] (outR .v_2),
  .setF .bra fC, .setC .S_ch .slice_to [], .setF .lb (.loc .v_2),
  .ifNot .eq_s_b [.loc .S_ch] [.ret ff],
  .call .slice_del [], .ret tt]
abbrev stage (v : Loc) (m : Mth) : List IS := [behind v, .call m [], back v]
abbrev lastSign : List IS := [.setF .ket fC, .ife (.orr (.le fC fB) (.ne (.idx fCur (.sub fC n1)) (.lit (.str "'")))) [.ret ff] [], .augF .cursor false n1, .setF .bra fC, .call .slice_del [], .setF .cursor fB, .ret tt]
def P_stem_da : List IS := [.ifNot .r_mark [] [.ret ff], .setF .lb fC, .setF .cursor fL] ++ stage .v_1 .r_main ++ stage .v_2 .r_cons ++ stage .v_3 .r_other ++ stage .v_4 .r_undouble ++ lastSign
def P_stem_no : List IS := [.ifNot .r_mark [] [.ret ff], .setF .lb fC, .setF .cursor fL] ++ stage .v_1 .r_main ++ stage .v_2 .r_cons ++ stage .v_3 .r_other ++ lastSign
def P_stem_sv : List IS := [.setL .v_1 fC, .call .r_mark [], .setF .cursor (.loc .v_1), .setF .lb fC, .setF .cursor fL] ++ stage .v_2 .r_main ++ stage .v_3 .r_cons ++ stage .v_4 .r_other ++ [.setF .cursor fB, .ret tt]
abbrev noSign (x : String) : IX := .orr (.le fC fB) (.ne (.idx fCur (.sub fC n1)) (.lit (.str (Str.ofString x))))
def P_main_no : List IS := [bad (.lt fC fP)] ++ enterR .v_2 ++ [
  .setC .among_var .find_b [.glob .no .a_1],
  .ife (.eq av n0) (outR .v_2) [],
  .setF .bra fC, .setF .lb (.loc .v_2),
  .ife (.eq av n1) [.call .slice_del []] [
    .ife (.eq av (.lit (.int 2))) [.setC .among_var .find_b [.glob .no .a_0], .ife (.eq av n1) [.call .slice_del []] []] [
      .ife (.eq av (.lit (.int 3))) [
        .whil tt [
          behind .v_3,
          .tryx [.ifNot .in_b [.glob .no .g_s_ending] (thr .no .l0), .brk] .no .l0,
          back .v_3,
          .tryx [.ife (noSign "r") (thr .no .l0) [], .augF .cursor false n1,
            .tryx [.ife (noSign "e") (thr .no .l1) [], .augF .cursor false n1, .raise .no .l0] .no .l1,
            .brk] .no .l0,
          back .v_3,
          .ife (noSign "k") [.ret ff] [],
          .augF .cursor false n1,
          .ifNot .out_b [.glob .no .g_v] [.ret ff],
          .brk],
        .call .slice_del []] [
        .call .slice_from [.lit (.str "er")]]]],
  .ret tt]
def P_other_no : List IS := [bad (.lt fC fP)] ++ enterR .v_2 ++ [
  .ifZero .find_b [.glob .no .a_3] (outR .v_2),
  .setF .bra fC, .setF .lb (.loc .v_2), .call .slice_del [], .ret tt]
def P_et : List IS := [behind .v_1,
  .ifNot .out_b [.glob .sv .g_v] [.ret ff],
  .ifNot .in_b [.glob .sv .g_v] [.ret ff],
  bad (.le fC fB),
  back .v_1, behind .v_2,
  .tryx [.ifZero .find_b [.glob .sv .a_0] (thr .sv .l0), .ret ff] .sv .l0,
  back .v_2, .ret tt]
def P_main_sv : List IS := [bad (.lt fC fP)] ++ enterR .v_2 ++ [
  .setC .among_var .find_b [.glob .sv .a_1],
  .ife (.eq av n0) (outR .v_2) [],
  .setF .bra fC, .setF .lb (.loc .v_2),
  .ife (.eq av n1) [.call .slice_del []] [
    .ife (.eq av (.lit (.int 2))) [
      .whil tt [
        behind .v_3,
        .tryx [.ifNot .eq_s_b [.lit (.str "et")] (thr .sv .l0), .ifNot .r_et [] (thr .sv .l0), .setF .bra fC, .brk] .sv .l0,
        back .v_3,
        .ifNot .in_b [.glob .sv .g_s_ending] [.ret ff],
        .brk],
      .call .slice_del []] [
      .ifNot .r_et [] [.ret ff], .call .slice_del []]],
  .ret tt]
def P_cons_sv : List IS := [bad (.lt fC fP), .setL .v_2 fB, .setF .lb fP, behind .v_3,
  .ifZero .find_b [.glob .sv .a_2] (outR .v_2),
  back .v_3, .setF .ket fC,
  .ife (.le fC fB) (outR .v_2) [],
  .augF .cursor false n1, .setF .bra fC, .call .slice_del [], .setF .lb (.loc .v_2), .ret tt]
def P_other_sv : List IS := [bad (.lt fC fP)] ++ enterR .v_2 ++ [
  .setC .among_var .find_b [.glob .sv .a_3],
  .ife (.eq av n0) (outR .v_2) [],
  .setF .bra fC, .setF .lb (.loc .v_2),
  .ife (.eq av n1) [.call .slice_del []] [
    .ife (.eq av (.lit (.int 2))) [.ifNot .in_b [.glob .sv .g_ost_ending] [.ret ff], .call .slice_from [.lit (.str "ös")]] [.call .slice_from [.lit (.str "full")]]],
  .ret tt]

def meths : Cls → Meths
  | _, .init => some ([], P_init)
  | _, .set_current => some ([.value], P_set_current)
  | _, .get_current => some ([], P_get_current)
  | _, .go_in => some ([.s], P_go_in)
  | _, .go_out => some ([.s], P_go_out)
  | _, .in_b => some ([.s], P_in_b)
  | _, .out_b => some ([.s], P_out_b)
  | _, .eq_s_b => some ([.s], P_eq_s_b)
  | _, .find_b => some ([.v], P_find_b)
  | _, .replace_s => some ([.c_bra, .c_ket, .s], P_replace_s)
  | _, .slice_from => some ([.s], P_slice_from)
  | _, .slice_del => some ([], P_slice_del)
  | _, .slice_to => some ([], P_slice_to)
  | _, .stemWord => some ([.word], P_stemWord)
  | .da, .r_mark => some ([], P_mark2 .da)
  | .no, .r_mark => some ([], P_mark2 .no)
  | .sv, .r_mark => some ([], P_mark_sv)
  | .da, .r_main => some ([], P_main_da)
  | .no, .r_main => some ([], P_main_no)
  | .sv, .r_main => some ([], P_main_sv)
  | .da, .r_cons => some ([], P_cons2 .da .a_1)
  | .no, .r_cons => some ([], P_cons2 .no .a_2)
  | .sv, .r_cons => some ([], P_cons_sv)
  | .da, .r_other => some ([], P_other_da)
  | .no, .r_other => some ([], P_other_no)
  | .sv, .r_other => some ([], P_other_sv)
  | .da, .r_undouble => some ([], P_undouble)
  | .sv, .r_et => some ([], P_et)
  | .da, .stem => some ([], P_stem_da)
  | .no, .stem => some ([], P_stem_no)
  | .sv, .stem => some ([], P_stem_sv)
  | _, _ => none

/-- where a method's def stands: in the class or in its base -/
def homeOf : Cls → Mth → Str
  | k, .r_mark | k, .r_main | k, .r_cons | k, .r_other | k, .r_undouble | k, .r_et | k, .stem => k.name
  | _, _ => "BaseStemmer"
def classBody (c : Str) : List Stmt → List Stmt
  | [] => []
  | .ClassDef n _ _ b _ _ _ _ _ _ _ :: r => if seq n c then b else classBody c r
  | _ :: r => classBody c r
def defIn (m : Str) : List Stmt → Option (Arguments × List Stmt × Scope)
  | [] => none
  | .FunctionDef n a b _ _ _ sc _ _ _ :: r => if seq n m then some (a, b, sc) else defIn m r
  | _ :: r => defIn m r
def defOfM (k : Cls) (m : Mth) : Option (Arguments × List Stmt × Scope) := defIn m.name (classBody (homeOf k m) PySem.Challenge.pw_bi0025_01.main.body)
def ckAll (k : Cls) (m : Mth) : Bool := match meths k m with
  | none => true
  | some (ps, b) => match defOfM k m with
    | some (a, body, sc) => ckM a sc body ps b
    | none => false

theorem ck_init : ckAll .da .init = true := by kernel_rfl
theorem ck_set_current : ckAll .da .set_current = true := by kernel_rfl
theorem ck_get_current : ckAll .da .get_current = true := by kernel_rfl
theorem ck_go_in : ckAll .da .go_in = true := by kernel_rfl
theorem ck_go_out : ckAll .da .go_out = true := by kernel_rfl
theorem ck_in_b : ckAll .da .in_b = true := by kernel_rfl
theorem ck_out_b : ckAll .da .out_b = true := by kernel_rfl
theorem ck_eq_s_b : ckAll .da .eq_s_b = true := by kernel_rfl
theorem ck_find_b : ckAll .da .find_b = true := by kernel_rfl
theorem ck_replace_s : ckAll .da .replace_s = true := by kernel_rfl
theorem ck_slice_from : ckAll .da .slice_from = true := by kernel_rfl
theorem ck_slice_del : ckAll .da .slice_del = true := by kernel_rfl
theorem ck_slice_to : ckAll .da .slice_to = true := by kernel_rfl
theorem ck_stemWord : ckAll .da .stemWord = true := by kernel_rfl
theorem ck_mark_da : ckAll .da .r_mark = true := by kernel_rfl
theorem ck_mark_no : ckAll .no .r_mark = true := by kernel_rfl
theorem ck_mark_sv : ckAll .sv .r_mark = true := by kernel_rfl
theorem ck_main_da : ckAll .da .r_main = true := by kernel_rfl
theorem ck_main_no : ckAll .no .r_main = true := by kernel_rfl
theorem ck_main_sv : ckAll .sv .r_main = true := by kernel_rfl
theorem ck_cons_da : ckAll .da .r_cons = true := by kernel_rfl
theorem ck_cons_no : ckAll .no .r_cons = true := by kernel_rfl
theorem ck_cons_sv : ckAll .sv .r_cons = true := by kernel_rfl
theorem ck_other_da : ckAll .da .r_other = true := by kernel_rfl
theorem ck_other_no : ckAll .no .r_other = true := by kernel_rfl
theorem ck_other_sv : ckAll .sv .r_other = true := by kernel_rfl
theorem ck_undouble : ckAll .da .r_undouble = true := by kernel_rfl
theorem ck_et : ckAll .sv .r_et = true := by kernel_rfl
theorem ck_stem_da : ckAll .da .stem = true := by kernel_rfl
theorem ck_stem_no : ckAll .no .stem = true := by kernel_rfl
theorem ck_stem_sv : ckAll .sv .stem = true := by kernel_rfl
end Sb
end

section
open PySem PySem.W PyProof.Rows PySem.Calls PySem.Spec
set_option Elab.async false
set_option maxRecDepth 100000
set_option linter.constructorNameAsVariable false
namespace Sb

abbrev prog : Program := PySem.Challenge.pw_bi0025_01

/-- locals -/
def LR (m : Str → Option Value) (l : List (Loc × MV)) : Prop := ∀ x v, getA x l = some v → ∃ u, m x.name = some u ∧ MV.of u = some v
/-- fields: the dict's entries stand for them, one by one -/
def DR (P : Params) : List DictEntry → List (Fld × MV) → Prop
  | [], [] => True
  | e :: es, f :: fs => (∃ t, e.key = .str f.1.name t) ∧ MV.of e.val = some f.2 ∧ DR P es fs
  | _, _ => False
/-- outer frames: the same up to slots -/
def UpS : List (Addr × Obj) → List (Addr × Obj) → Prop
  | [], [] => True
  | p :: a, q :: b => p.1 = q.1 ∧ (∃ sl, q.2 = { p.2 with slots := sl }) ∧ UpS a b
  | _, _ => False

structure Cx where
  w : World
  A : Around
  K : Frag
  g : Heap
  L : Addr
  x : Addr
  d : Addr
  C : Addr
  qual : Str
  scope : Scope
  fa : Addr
  cd : Value
  outer : List Env
  its : List (Addr × Obj)
  frs : List (Addr × Obj)
  gens : Array GenState
  drawn : Drawn
  os : OsState
  sg : Sg
  M : Meths
  mg : Str → Option Value
  mb : Str → Option Value
  q : Program
  loose : List Str
abbrev Cx.env (c : Cx) : Env := envOf c.qual c.scope c.L c.fa c.cd

structure Rp (c : Cx) (σ : St) (s : Shared) : Prop where
  ex : ∃ m es n fr, Fr c.g c.L s.heap m ∧ News c.g c.L s.heap ((c.d, dictOf es n) :: (c.its ++ fr)) ∧ UpS c.frs fr ∧ m "self" = some (.ref c.x) ∧ LR m σ.loc ∧ DR c.w.params es σ.fld ∧ (σ.fld.map (·.1)).Nodup
  gens : s.gens = c.gens
  drawn : s.drawn = c.drawn
  os : s.os = c.os

/-- what is known of the class of self -/
structure ClsOk (K : Frag) (C : Addr) (M : Meths) : Prop where
  mth : ∀ m ps b, M m = some (ps, b) → ∃ f qual params body scope kV doc pm cdv ct oc an od osl nm,
    findIn K (.ref C) m.name = some (some (.ref f)) ∧ isFn K (.ref f) = true ∧ keepIn K (.ref f) = true ∧
    K.lookup f = some ⟨oc, od, .func (fnOf nm qual params body scope .none kV doc pm an cdv ct), osl⟩ ∧ codeIn K cdv qual = true ∧ ckM params scope body ps b = true
  hg : plainGet K C "" = true
  hh : hasDictIn K C = true
  hs : findIn K (.ref C) "__setattr__" = some (some (.builtin "object.__setattr__"))
  hp : plainOver K C = true
  fld : ∀ f : Fld, (∃ a, findIn K (.ref C) f.name = some a ∧ noGet K a = true) ∧ takerIn K C f.name = some none
/-- what stands at the top, as far as the methods look -/
structure SgOk (w : World) (K : Frag) (g : Heap) (sg : Sg) : Prop where
  gattr : ∀ k a p, sg.gattr k a = some p → ∃ C mc, nsIn K mainGlobals k.name = some (some (.ref C)) ∧ typeIn K (.ref C) = some mc ∧ readsIn K C mc = true ∧ findCls K (.ref C) mc a.name = some (.val (.ref p))
  lst : ∀ a l, sg.lst a = some l → l.length < 4096 ∧ ∃ dd n sl, K.lookup a = some ⟨.type "list", dd, .seq (l.map Value.ref).toArray n, sl⟩
  amg : ∀ a t, sg.amg a = some t → ∃ C dx es n, K.lookup a = some (instObj C dx) ∧ K.lookup dx = some (dictOf es n) ∧ plainGet K C "" = true ∧ hasDictIn K C = true ∧
    ∀ k : Amf, ∃ at_ v, findIn K (.ref C) k.name = some at_ ∧ noGet K at_ = true ∧ getL k.name es = some (some v) ∧ MV.of v = some (amf k t)
  set : ∀ a l, sg.set a = some l → ∃ o n, g.get? a = some o ∧ o.SetObjOf (PySem.strKind prog w) (fun k => l.contains k) n ∧ n < scanBound
  lab : ∀ k l, labOk k l = true → ∃ C, nsIn K mainGlobals (Lab.name k l) = some (some (.ref C)) ∧ excIn K C [.type "Exception", .type "BaseException", .type "object"] "Exception.__new__" = true ∧
    exmOne K (.ref C) (.ref C) = some true ∧ ∀ k' l', labOk k' l' = true → (k', l') ≠ (k, l) → ∃ C', nsIn K mainGlobals (Lab.name k' l') = some (some (.ref C')) ∧ exmOne K (.ref C') (.ref C) = some false
  noLen : nsIn K mainGlobals "len" = some none
  noOrd : nsIn K mainGlobals "ord" = some none
  noMin : nsIn K mainGlobals "min" = some none
  noRange : nsIn K mainGlobals "range" = some none

structure Okx (c : Cx) : Prop where
  X : c.K.In c.g
  T : TopRead c.q c.loose c.mg c.mb c.g
  self : c.g.get? c.x = some (instObj c.C c.d)
  cls : ClsOk c.K c.C c.M
  sg : SgOk c.w c.K c.g c.sg
  kind : c.scope.kind = .function
  hand : c.A.handled = none
  frames : c.A.frames = some (c.env :: c.outer)
  out : ∀ e ∈ c.outer, e.scope.kind ≠ .module ∧ ∃ b, e.frame = some b ∧ b ∈ c.frs.map (·.1)
  isd : ∀ p ∈ c.frs, ∀ vs, p.2.data ≠ .fields vs
  apart : (c.d :: (c.its ++ c.frs).map (·.1)).Nodup

theorem handedIn_of {u : Value} {v : MV} (h : MV.of u = some v) : handedIn u = true := by
  cases u <;> first | rfl | cases h
theorem of_int {u : Value} {i : Int} (h : MV.of u = some (.int i)) : ∃ t, u = .int i t := by
  cases u <;> simp [MV.of] at h
  exact ⟨_, by rw [h]⟩
theorem of_str {u : Value} {x : Str} (h : MV.of u = some (.str x)) : ∃ t, u = .str x t := by
  cases u <;> simp [MV.of] at h
  exact ⟨_, by rw [h]⟩
theorem of_bool {u : Value} {b : Bool} (h : MV.of u = some (.bool b)) : u = .bool b := by
  cases u <;> simp [MV.of] at h
  rw [h]
theorem of_ref {u : Value} {a : Addr} (h : MV.of u = some (.ref a)) : u = .ref a := by
  cases u <;> simp [MV.of] at h
  rw [h]
theorem of_none {u : Value} (h : MV.of u = some .none) : u = .none := by
  cases u <;> simp [MV.of] at h
  rfl

theorem Fld.name_inj {a b : Fld} (h : a.name = b.name) : a = b := by
  cases a <;> cases b <;> first | rfl | exact absurd h (by decide)
theorem Loc.name_inj {a b : Loc} (h : a.name = b.name) : a = b := by
  cases a <;> cases b <;> first | rfl | exact absurd h (by decide)
theorem Loc.name_self (a : Loc) : a.name ≠ ("self" : Str) := by cases a <;> decide

theorem isStr_iff {x y : Str} {t : Tok} : (Value.str y t).isStr x = true ↔ y = x := by simp [Value.isStr]
theorem DR.get {P : Params} {f : Fld} : ∀ {es : List DictEntry} {fs : List (Fld × MV)} {v : MV}, DR P es fs → getA f fs = some v → ∃ u, getL f.name es = some (some u) ∧ MV.of u = some v
  | [], [], v, _, h => by cases h
  | e :: es, p :: fs, v, ⟨⟨t, hk⟩, hv, r⟩, h => by
    unfold getA at h
    unfold getL
    rw [List.find?_cons]
    by_cases q : p.1 = f
    · rw [if_pos q] at h
      have : e.key.isStr f.name = true := by rw [hk, isStr_iff, q]
      simp only [this]
      exact ⟨e.val, rfl, hv.trans h⟩
    · rw [if_neg q] at h
      have : e.key.isStr f.name = false := by
        cases z : e.key.isStr f.name with
        | false => rfl
        | true => rw [hk, isStr_iff] at z; exact absurd (Fld.name_inj z) q
      simp only [this]
      obtain ⟨u, hu, hu'⟩ := DR.get r h
      refine ⟨u, ?_, hu'⟩
      unfold getL at hu
      split at hu
      · rename_i e' he'; rw [he']; exact hu
      · rename_i he'
        split at hu <;> cases hu
  | [], _ :: _, _, h, _ => h.elim
  | _ :: _, [], _, h, _ => h.elim
theorem DR.noRef {P : Params} : ∀ {es : List DictEntry} {fs : List (Fld × MV)}, DR P es fs → es.any (·.refKey) = false
  | [], [], _ => rfl
  | e :: es, p :: fs, ⟨⟨t, hk⟩, _, r⟩ => by
    rw [List.any_cons, DR.noRef r, Bool.or_false]
    unfold DictEntry.refKey
    rw [hk]
  | [], _ :: _, h => h.elim
  | _ :: _, [], h => h.elim
theorem DR.some {P : Params} {es : List DictEntry} {fs : List (Fld × MV)} (h : DR P es fs) (name : Str) : (getL name es).isSome = true := by
  unfold getL
  split
  · rfl
  · rw [h.noRef]; rfl
theorem DR.none {P : Params} {name : Str} (hn : ∀ f : Fld, f.name ≠ name) : ∀ {es : List DictEntry} {fs : List (Fld × MV)}, DR P es fs → getL name es = .some .none := by
  intro es fs h
  have hf : es.find? (·.key.isStr name) = Option.none := by
    induction es generalizing fs with
    | nil => rfl
    | cons e es ih =>
      cases fs with
      | nil => exact h.elim
      | cons p fs =>
        obtain ⟨⟨t, hk⟩, _, r⟩ := h
        rw [List.find?_cons]
        have : e.key.isStr name = false := by
          cases z : e.key.isStr name with
          | false => rfl
          | true => rw [hk, isStr_iff] at z; exact absurd z (hn p.1)
        simp only [this]
        exact ih r
  unfold getL
  rw [hf, h.noRef]; rfl
theorem DR.put {P : Params} {f : Fld} {u key : Value} {v : MV} {hsh : Int} (hu : MV.of u = .some v) (hkey : ∃ t, key = .str f.name t) : ∀ {es : List DictEntry} {fs : List (Fld × MV)}, DR P es fs → DR P (putL f.name hsh key u es) (setA f v fs)
  | [], [], _ => ⟨hkey, hu, trivial⟩
  | e :: es, p :: fs, ⟨⟨t, hk⟩, hv, r⟩ => by
    unfold putL setA
    by_cases q : p.1 = f
    · have : e.key.isStr f.name = true := by rw [hk, isStr_iff, q]
      rw [if_pos q, if_pos this]
      exact ⟨⟨t, by rw [← q]; exact hk⟩, hu, r⟩
    · have : ¬ e.key.isStr f.name = true := by
        intro z; rw [hk, isStr_iff] at z; exact absurd (Fld.name_inj z) q
      rw [if_neg q, if_neg this]
      exact ⟨⟨t, hk⟩, hv, DR.put hu hkey r⟩
  | [], _ :: _, h => h.elim
  | _ :: _, [], h => h.elim
theorem DR.length {P : Params} : ∀ {es : List DictEntry} {fs : List (Fld × MV)}, DR P es fs → es.length = fs.length
  | [], [], _ => rfl
  | _ :: _, _ :: _, ⟨_, _, r⟩ => by rw [List.length_cons, List.length_cons, r.length]
  | [], _ :: _, h => h.elim
  | _ :: _, [], h => h.elim
theorem getA_setA {κ : Type} [DecidableEq κ] (x y : κ) (v : MV) : ∀ l : List (κ × MV), getA x (setA y v l) = if x = y then some v else getA x l
  | [] => by
    unfold setA
    unfold getA
    by_cases h : y = x
    · rw [if_pos h, if_pos h.symm]
    · rw [if_neg h, if_neg (Ne.symm h)]; rfl
  | p :: r => by
    unfold setA
    by_cases q : p.1 = y
    · rw [if_pos q]
      by_cases h : x = y
      · rw [if_pos h]; unfold getA; rw [if_pos h.symm]
      · rw [if_neg h]
        unfold getA
        rw [if_neg (Ne.symm h), if_neg (by rw [q]; exact Ne.symm h)]
    · rw [if_neg q]
      unfold getA
      by_cases h : p.1 = x
      · rw [if_pos h, if_pos h, if_neg (by rw [← h]; exact q)]
      · rw [if_neg h, if_neg h]; exact getA_setA x y v r
theorem LR.set {m : Str → Option Value} {l : List (Loc × MV)} {x : Loc} {u : Value} {v : MV} (h : LR m l) (hu : MV.of u = some v) : LR (fun y => if y = x.name then some u else m y) (setA x v l) := by
  intro y v' hy
  rw [getA_setA] at hy
  by_cases q : y = x
  · rw [if_pos q] at hy
    cases hy
    exact ⟨u, by dsimp only; rw [if_pos (by rw [q])], hu⟩
  · rw [if_neg q] at hy
    obtain ⟨u', h1, h2⟩ := h y v' hy
    exact ⟨u', by dsimp only; rw [if_neg (fun z => q (Loc.name_inj z))]; exact h1, h2⟩

section
variable {c : Cx} {σ : St} {s : Shared}

theorem Rp.toks (h : Rp c σ s) (k : Nat) : Rp c σ { s with toks := k } := ⟨h.ex, h.gens, h.drawn, h.os⟩
theorem Rp.inst (O : Okx c) {m es n fr} (F : Fr c.g c.L s.heap m) (N : News c.g c.L s.heap ((c.d, dictOf es n) :: (c.its ++ fr))) : PySem.W.InstAt s.heap c.x (instObj c.C c.d) c.C (some (dictOf es n)) :=
  ⟨F.keep _ _ O.self, rfl, rfl, (N _ (.head _)).1⟩

theorem kindL (O : Okx c) {n : Str} (h : isLoc c.scope n = true) : c.env.kindOf n = some .local := by
  have h' : c.scope.names.lookup n = some .local := by simpa [isLoc] using h
  exact h'
theorem kindG (O : Okx c) {n : Str} (h : isGlob c.scope n = true) : c.env.kindOf n = some .globalImplicit := by
  have h' : c.scope.names.lookup n = some .globalImplicit := by simpa [isGlob] using h
  exact h'
end
end Sb
end

section
open PySem PySem.W PyProof.Rows PySem.Calls PySem.Spec
set_option Elab.async false
set_option maxRecDepth 100000
set_option linter.constructorNameAsVariable false
set_option linter.unusedVariables false
namespace Sb

section
variable {c : Cx} {σ : St} {s : Shared} {E : Value → Shared → Prop} {Q : Value → Shared → Prop} {e : Expr}

theorem ckName_of {sc : Scope} {x : Str} {g : Bool} (h : ckName sc x g e = true) : ∃ p, e = .Name x p ∧ (if g then isGlob sc x else isLoc sc x) = true := by
  cases e <;> first | exact absurd h Bool.false_ne_true | skip
  rename_i n p
  obtain ⟨h1, h2⟩ := Bool.and_eq_true_iff.mp h
  obtain rfl := seq_eq h1
  exact ⟨p, rfl, h2⟩
theorem ckAttr_of {sc : Scope} {x a : Str} {g : Bool} (h : ckAttr sc x a g e = true) : ∃ p p', e = .Attribute (.Name x p) a p' ∧ (if g then isGlob sc x else isLoc sc x) = true := by
  cases e <;> first | exact absurd h Bool.false_ne_true | skip
  rename_i o n p
  obtain ⟨h1, h2⟩ := Bool.and_eq_true_iff.mp h
  obtain rfl := seq_eq h1
  obtain ⟨p', rfl, h3⟩ := ckName_of h2
  exact ⟨p', p, rfl, h3⟩

theorem e_name (O : Okx c) {x : Str} {p : Pos} {v : Value} (R : ∃ m, Fr c.g c.L s.heap m ∧ m x = some v) (hl : isLoc c.scope x = true) (hd : (x == ("__debug__" : Str)) = false) (h : Q v s) :
    wpAny (model prog c.w) c.A (eval (.Name x p) c.env) Q E s := by
  obtain ⟨m, F, hm⟩ := R
  exact ld F hm h O.kind (kindL O hl) hd
theorem Loc.noDebug (x : Loc) : (x.name == ("__debug__" : Str)) = false := by cases x <;> decide
theorem Cls.noDebug (x : Cls) : (x.name == ("__debug__" : Str)) = false := by cases x <;> decide

theorem e_self (O : Okx c) (R : Rp c σ s) {p : Pos} (hl : isLoc c.scope "self" = true) (h : Q (.ref c.x) s) : wpAny (model prog c.w) c.A (eval (.Name "self" p) c.env) Q E s := by
  obtain ⟨m, es, n, fr, F, N, U, hs, hL, hD, hn⟩ := R.ex
  exact e_name O ⟨m, F, hs⟩ hl (by decide) h

theorem e_loc (O : Okx c) (R : Rp c σ s) {x : Loc} {v : MV} (hc : ckName c.scope x.name false e = true) (hv : getA x σ.loc = some v) (h : ∀ u, MV.of u = some v → Q u s) :
    wpAny (model prog c.w) c.A (eval e c.env) Q E s := by
  obtain ⟨p, rfl, hl⟩ := ckName_of hc
  obtain ⟨m, es, n, fr, F, N, U, hs, hL, hD, hn⟩ := R.ex
  obtain ⟨u, hu, hu'⟩ := hL x v hv
  exact e_name O ⟨m, F, hu⟩ hl x.noDebug (h u hu')

theorem get_fld (O : Okx c) (R : Rp c σ s) {f : Fld} {v : MV} {b : Bool} (hv : getA f σ.fld = some v) (h : ∀ u s', MV.of u = some v → Rp c σ s' → Q u s') :
    wpAny (model prog c.w) c.A (getAttr (.ref c.x) f.name b) Q E s := by
  obtain ⟨m, es, n, fr, F, N, U, hs, hL, hD, hn⟩ := R.ex
  obtain ⟨u, hu, hu'⟩ := hD.get hv
  obtain ⟨⟨a, ha, hna⟩, _⟩ := O.cls.fld f
  exact get_own F O.X (Rp.inst O F N) O.cls.hg O.cls.hh ha hna hu (handedIn_of hu') (h u _ hu' (R.toks _))

theorem e_fld (O : Okx c) (R : Rp c σ s) {f : Fld} {v : MV} (hc : ckAttr c.scope "self" f.name false e = true) (hv : getA f σ.fld = some v) (h : ∀ u s', MV.of u = some v → Rp c σ s' → Q u s') :
    wpAny (model prog c.w) c.A (eval e c.env) Q E s := by
  obtain ⟨p, p', rfl, hl⟩ := ckAttr_of hc
  exact Attribute_name (e_self O R hl (get_fld O R hv h))

theorem e_glob (O : Okx c) (R : Rp c σ s) {k : Cls} {a : Att} {r : Addr} (hc : ckAttr c.scope k.name a.name true e = true) (hv : c.sg.gattr k a = some r) (h : ∀ s', Rp c σ s' → Q (.ref r) s') :
    wpAny (model prog c.w) c.A (eval e c.env) Q E s := by
  obtain ⟨p, p', rfl, hl⟩ := ckAttr_of hc
  obtain ⟨m, es, n, fr, F, N, U, hs, hL, hD, hn⟩ := R.ex
  obtain ⟨C, mc, h1, h2, h3, h4⟩ := O.sg.gattr k a r hv
  refine Attribute_name (name_K F O.X O.T h1 ?_ O.kind (kindG O hl) k.noDebug)
  exact cls_val F O.X h2 h3 h4 rfl (h _ (R.toks _))

theorem e_amg (O : Okx c) (R : Rp c σ s) {x : Loc} {k : Amf} {a : Addr} {t : Str × Int × Int} (hc : ckAttr c.scope x.name k.name false e = true) (hx : getA x σ.loc = some (.ref a)) (ht : c.sg.amg a = some t)
    (h : ∀ u s', MV.of u = some (amf k t) → Rp c σ s' → Q u s') : wpAny (model prog c.w) c.A (eval e c.env) Q E s := by
  obtain ⟨p, p', rfl, hl⟩ := ckAttr_of hc
  obtain ⟨m, es, n, fr, F, N, U, hs, hL, hD, hn⟩ := R.ex
  obtain ⟨u, hu, hu'⟩ := hL x _ hx
  obtain rfl := of_ref hu'
  obtain ⟨C, dx, es', n', h1, h2, h3, h4, h5⟩ := O.sg.amg a t ht
  obtain ⟨at_, v, k1, k2, k3, k4⟩ := h5 k
  refine Attribute_name (e_name O ⟨m, F, hu⟩ hl x.noDebug ?_)
  have X := O.X.keeps F.keep
  exact get_own F O.X (InstAt.of_K X h1 h2) h3 h4 k1 k2 k3 (handedIn_of k4) (h v _ k4 (R.toks _))

theorem notSet {sc : Scope} {a : IX} {op : CmpOp} {r : Expr} (h : ckE sc a r = true) : behindInMarks op r = false := by
  cases r <;> try rfl
  exfalso
  cases a <;> try (exact absurd h Bool.false_ne_true)
  rename_i v
  cases v <;> exact absurd h Bool.false_ne_true

theorem cmp2 {op : CmpOp} {b : IX} {l r : Expr} {pos : Pos} {T : Value → Shared → Prop} (hb : ckE c.scope b r = true)
    (h : wpAny (model prog c.w) c.A (eval l c.env) (fun u s₁ => wpAny (model prog c.w) c.A (eval r c.env) (fun v s₂ => wpAny (model prog c.w) c.A (compareOp op u v) T E s₂) E s₁) E s) :
    wpAny (model prog c.w) c.A (eval (.Compare l [op] [r] pos) c.env) T E s := wpAny_Compare1 h (notSet hb)

/-- a comparison's end, whatever the two values -/
def opOf : IX → Option (IX × IX × CmpOp)
  | .lt a b => some (a, b, .Lt) | .le a b => some (a, b, .LtE) | .gt a b => some (a, b, .Gt) | .ge a b => some (a, b, .GtE)
  | .eq a b => some (a, b, .Eq) | .ne a b => some (a, b, .NotEq) | .inn a b => some (a, b, .In) | .notin a b => some (a, b, .NotIn)
  | _ => none
def cmpV (g : Sg) : CmpOp → Option MV → Option MV → Option MV
  | .Lt => cmpI (fun x y => decide (x < y)) | .LtE => cmpI (fun x y => decide (x ≤ y)) | .Gt => cmpI (fun x y => decide (y < x)) | .GtE => cmpI (fun x y => decide (y ≤ x))
  | .Eq => eqV | .NotEq => fun a b => notV (eqV a b) | .In => inV g | .NotIn => fun a b => notV (inV g a b)
  | _ => fun _ _ => none
theorem ev_op {g : Sg} {ix a b : IX} {op : CmpOp} (h : opOf ix = some (a, b, op)) : ev g σ ix = cmpV g op (ev g σ a) (ev g σ b) := by
  cases ix <;> simp only [opOf, Option.some.injEq, Prod.mk.injEq, reduceCtorEq] at h <;> (obtain ⟨rfl, rfl, rfl⟩ := h; rfl)
theorem ck_op {sc : Scope} {ix a b : IX} {op : CmpOp} (h : opOf ix = some (a, b, op)) (hc : ckE sc ix e = true) : ∃ l r p, e = .Compare l [op] [r] p ∧ ckE sc a l = true ∧ ckE sc b r = true := by
  cases ix <;> simp only [opOf, Option.some.injEq, Prod.mk.injEq, reduceCtorEq] at h <;>
  · obtain ⟨rfl, rfl, rfl⟩ := h
    unfold ckE at hc
    split at hc
    · exact ⟨_, _, _, rfl, Bool.and_eq_true_iff.mp hc⟩
    · cases hc

theorem strIs (w : World) (x : Str) (t : Tok) : (PySem.strKind prog w).is x (.str x t) = true := strKind_is prog w x t

theorem cmp_end (O : Okx c) (R : Rp c σ s) {op : CmpOp} {u v : Value} {a b : MV} {r : MV} (hu : MV.of u = some a) (hv : MV.of v = some b) (hr : cmpV c.sg op (some a) (some b) = some r)
    (h : ∀ z s', r = .bool z → Rp c σ s' → Q (.bool z) s') : wpAny (model prog c.w) c.A (compareOp op u v) Q E s := by
  have hInts : ∀ (p : Int → Int → Bool), cmpI p (some a) (some b) = some r → ∃ x y t t', u = .int x t ∧ v = .int y t' ∧ r = .bool (p x y) := by
    intro p hp
    unfold cmpI at hp
    split at hp
    · rename_i x y q1 q2
      cases hp
      obtain ⟨t, rfl⟩ := of_int (hu.trans q1)
      obtain ⟨t', rfl⟩ := of_int (hv.trans q2)
      exact ⟨_, _, _, _, rfl, rfl, rfl⟩
    · cases hp
  have hEqs : ∀ {r'}, eqV (some a) (some b) = some r' → (∃ x y t t', u = .int x t ∧ v = .int y t' ∧ r' = .bool (x == y)) ∨ ∃ x y t t', u = .str x t ∧ v = .str y t' ∧ r' = .bool (x == y) := by
    intro r' hp
    unfold eqV at hp
    split at hp
    · rename_i x y q1 q2
      cases hp
      obtain ⟨t, rfl⟩ := of_int (hu.trans q1)
      obtain ⟨t', rfl⟩ := of_int (hv.trans q2)
      exact .inl ⟨_, _, _, _, rfl, rfl, rfl⟩
    · rename_i x y q1 q2
      cases hp
      obtain ⟨t, rfl⟩ := of_str (hu.trans q1)
      obtain ⟨t', rfl⟩ := of_str (hv.trans q2)
      exact .inr ⟨_, _, _, _, rfl, rfl, rfl⟩
    · cases hp
  have hIns : ∀ {r'}, inV c.sg (some a) (some b) = some r' → ∃ x t d l, u = .str x t ∧ v = .ref d ∧ c.sg.set d = some l ∧ r' = .bool (l.contains x) := by
    intro r' hp
    unfold inV at hp
    split at hp
    · rename_i x d q1 q2
      obtain ⟨t, rfl⟩ := of_str (hu.trans q1)
      obtain rfl := of_ref (hv.trans q2)
      obtain ⟨l, hl, rfl⟩ := Option.map_eq_some_iff.mp hp
      exact ⟨_, _, _, _, rfl, rfl, hl, rfl⟩
    · cases hp
  have hNots : ∀ {o : Option MV}, notV o = some r → ∃ z, o = some (.bool z) ∧ r = .bool (!z) := by
    intro o ho
    unfold notV at ho
    split at ho
    · cases ho; exact ⟨_, rfl, rfl⟩
    · cases ho
  have hSetAt : ∀ {d : Addr} {l : List Str}, c.sg.set d = some l → ∃ n, s.heap.SetOf (PySem.strKind prog c.w) d (fun k => l.contains k) n := by
    intro d l hl
    obtain ⟨o, n, h1, h2, h3⟩ := O.sg.set d l hl
    obtain ⟨m, es, n', fr, F, _⟩ := R.ex
    exact ⟨n, h2.setOf (F.keep _ _ h1) h3⟩
  cases op
  case Lt => obtain ⟨x, y, t, t', rfl, rfl, rfl⟩ := hInts _ hr; exact lt_int (h _ _ rfl R)
  case LtE => obtain ⟨x, y, t, t', rfl, rfl, rfl⟩ := hInts _ hr; exact le_int (h _ _ rfl R)
  case Gt => obtain ⟨x, y, t, t', rfl, rfl, rfl⟩ := hInts _ hr; exact gt_int (h _ _ rfl R)
  case GtE => obtain ⟨x, y, t, t', rfl, rfl, rfl⟩ := hInts _ hr; exact ge_int (h _ _ rfl R)
  case Eq =>
    rcases hEqs hr with ⟨x, y, t, t', rfl, rfl, rfl⟩ | ⟨x, y, t, t', rfl, rfl, rfl⟩
    · exact eq_int (h _ _ rfl R)
    · exact eq_str (h _ _ rfl R)
  case NotEq =>
    obtain ⟨z, hz, rfl⟩ := hNots hr
    rcases hEqs hz with ⟨x, y, t, t', rfl, rfl, q⟩ | ⟨x, y, t, t', rfl, rfl, q⟩
    · cases q; exact ne_int (h _ _ rfl R)
    · cases q; exact ne_str (h _ _ rfl R)
  case In =>
    obtain ⟨x, t, d, l, rfl, rfl, hl, rfl⟩ := hIns hr
    obtain ⟨n, hS⟩ := hSetAt hl
    exact wpAny_inSet_of (strIs c.w x t) rfl hS (h _ _ rfl (R.toks _))
  case NotIn =>
    obtain ⟨z, hz, rfl⟩ := hNots hr
    obtain ⟨x, t, d, l, rfl, rfl, hl, q⟩ := hIns hz
    cases q
    obtain ⟨n, hS⟩ := hSetAt hl
    exact wpAny_notInSet_of (strIs c.w x t) rfl hS (h _ _ rfl (R.toks _))
  all_goals cases hr
end
end Sb
end

section
open PySem PySem.W PyProof.Rows PySem.Calls PySem.Spec
set_option Elab.async false
set_option maxRecDepth 100000
set_option linter.constructorNameAsVariable false
set_option linter.unusedVariables false
namespace Sb

theorem small_fits {n : Nat} (h : n ≤ bigLine) : n ≤ sizeLine := Nat.le_trans h (by decide)
theorem slice_cut {a : Str} {lo hi : Int} (h0 : 0 ≤ lo) (h1 : lo ≤ hi) (h2 : hi ≤ a.length) : Txt.slice a (some lo) (some hi) = cut a lo.toNat hi.toNat := by
  obtain ⟨i, rfl⟩ := Int.eq_ofNat_of_zero_le h0
  obtain ⟨j, rfl⟩ := Int.eq_ofNat_of_zero_le (Int.le_trans h0 h1)
  have h1 : i ≤ j := by omega
  have h2 : j ≤ a.length := by omega
  have z := StrLaws.sliced_plain a h1 h2
  have zi := StrLaws.strSliceIndices_plain h1 h2
  unfold Txt.slice cut
  rw [z]
  split
  · rename_i q
    rw [zi] at q
    have q' : j - i = a.length := by simpa using q
    have e1 : i = 0 := by omega
    have e2 : j = a.length := by omega
    subst e1 e2
    refine PySem.Str.ext' ?_
    apply Array.ext'
    show a.cps.toList = List.take (a.cps.size - 0) (List.drop 0 a.cps.toList)
    rw [List.drop_zero]
    exact (List.take_of_length_le (by simp)).symm
  · rfl
theorem slice_cutE {a : Str} {lo : Int} (h0 : 0 ≤ lo) (h1 : lo ≤ a.length) : Txt.slice a (some lo) none = cut a lo.toNat a.length := by
  have z := slice_cut h0 h1 (Int.le_refl _)
  rw [show (a.length : Int).toNat = a.length from rfl] at z
  rw [← z]
  · have e : Builtin.Str.strSliceIndices (some lo) none 1 a.length = Builtin.Str.strSliceIndices (some lo) (some (a.length : Int)) 1 a.length := by
      unfold Builtin.Str.strSliceIndices
      have h2 : ¬ ((a.length : Int) < 0) := by omega
      have e2 : max (0 : Int) (min (a.length : Int) (a.length : Int)) = a.length := by omega
      simp only [h2, if_false, e2, show ((1 : Int) > 0) = True from by simp, if_true]
    unfold Txt.slice
    rw [e]
theorem ends_eq (a b : Str) : Txt.endswith a b = b.cps.toList.isSuffixOf a.cps.toList := by
  unfold Txt.endswith
  rw [StrLaws.subAt_eq]
  rw [Bool.eq_iff_iff, List.isSuffixOf_iff_suffix, Bool.and_eq_true, decide_eq_true_eq, beq_iff_eq]
  constructor
  · rintro ⟨h1, h2⟩
    rw [← h2]
    have : (List.take b.length (List.drop (a.length - b.length) a.cps.toList)) = List.drop (a.length - b.length) a.cps.toList := by
      apply List.take_of_length_le
      simp [Str.length] at h1 ⊢
      omega
    rw [this]
    exact List.drop_suffix _ _
  · intro h
    obtain ⟨t, ht⟩ := h
    have hl : a.length = t.length + b.length := by
      have := congrArg List.length ht
      simpa [Str.length] using this.symm
    refine ⟨by omega, ?_⟩
    rw [← ht, show a.length - b.length = t.length by omega, List.drop_left]
    apply List.take_of_length_le
    simp [Str.length]

section
variable {c : Cx} {σ : St} {s : Shared} {E : Value → Shared → Prop} {Q : Value → Shared → Prop} {e : Expr}

theorem e_builtin (O : Okx c) (R : Rp c σ s) {x : Str} {id : String} {T : Value → Shared → Prop} {f : Expr} (hc : ckName c.scope x true f = true) (hno : nsIn c.K mainGlobals x = some none) (hb : bootBuiltins x = some (.builtin id)) (hn : x ≠ "__name__") (hd : (x == ("__debug__" : Str)) = false)
    (h : T (.builtin id) s) : wpAny (model prog c.w) c.A (eval f c.env) T E s := by
  obtain ⟨p, rfl, hl⟩ := ckName_of hc
  obtain ⟨m, es, n, fr, F, N, U, hs, hL, hD, hn'⟩ := R.ex
  exact name_B F O.X O.T hno hb hn h O.kind (kindG O hl) hd

theorem isName {sc : Scope} {x : Str} {g : Bool} {f : Expr} (h : ckName sc x g f = true) : ∃ p, f = .Name x p := let ⟨p, a, _⟩ := ckName_of h; ⟨p, a⟩

theorem star1 {sc : Scope} {a : IX} {l : Expr} {env : Env} (h : ckE sc a l = true) (rest : List Expr) : starEach (l :: rest) env = (false, eval l env) :: starEach rest env := by
  cases l <;> first | rfl | skip
  exfalso
  cases a <;> try (exact absurd h Bool.false_ne_true)
  rename_i v
  cases v <;> exact absurd h Bool.false_ne_true

theorem go_back (O : Okx c) (R : Rp c σ s) {m es n fr h'} {k : Nat} (U : UpS c.frs fr) (hs : m "self" = some (.ref c.x)) (hL : LR m σ.loc) (hD : DR c.w.params es σ.fld) (hn : (σ.fld.map (·.1)).Nodup)
    (F : Fr c.g c.L h' m) (N : News c.g c.L h' ((c.d, dictOf es n) :: (c.its ++ fr))) : Rp c σ { heap := h', gens := s.gens, drawn := s.drawn, toks := k, os := s.os } :=
  ⟨⟨m, es, n, fr, F, N, U, hs, hL, hD, hn⟩, R.gens, R.drawn, R.os⟩

theorem notSlice {sc : Scope} {a : IX} {r : Expr} (h : ckE sc a r = true) (o i : Value) : subscripted r false o i = operate [o, i] (getItem o i) := by
  cases r <;> first | rfl | skip
  exfalso
  cases a <;> try (exact absurd h Bool.false_ne_true)
  rename_i v
  cases v <;> exact absurd h Bool.false_ne_true
theorem letStr (l : Expr) (x : Str) (t : Tok) (r : Value) : letTemporaryGo l (.str x t) r = pure () := by cases l <;> rfl
theorem base_of {sc : Scope} {a : IX} {l : Expr} (h : ckE sc a l = true) (at_ : Str) (env : Env) (whole : Sem Value) : attributeBase l at_ env whole = whole := by
  unfold attributeBase
  split
  · exfalso
    cases a <;> try (exact absurd h Bool.false_ne_true)
    rename_i v
    cases v <;> exact absurd h Bool.false_ne_true
  · rfl

theorem meth_call {o : Expr} {name : Str} {apos pos : Pos} {es : List Expr} {T : Value → Shared → Prop} (hbase : attributeBase o name c.env (eval o c.env) = eval o c.env)
    (hst : (backTo pos (starEach es c.env)).all (fun x => !x.1) = true) (hlen : es.length < 8) (hline : (apos.endLine == pos.line) = true)
    (h : wpAny (model prog c.w) c.A (eval o c.env) (fun ov s₁ => ∀ pl, wpAny (model prog c.w) c.A (getMethod ov name pl) (fun fx s₂ => wpAny (model prog c.w) c.A (callWith pos fx.1 fx.2 (backTo pos (starEach es c.env)) []) T E s₂) E s₁) E s) :
    wpAny (model prog c.w) c.A (eval (.Call (.Attribute o name apos) es [] pos) c.env) T E s := by
  rw [arm_eval_Call, hbase]
  refine wpAny_bind (wpAny_mono h (fun ov s₁ h₁ => wpAny_bind (wpAny_standAt ?_)) fun _ _ e => e)
  have hform : methodCallForm (es.length + ([] : List Keyword).length) (backTo pos (starEach es c.env)) (backToKw pos (keywordEach [] c.env)) = true := by
    unfold methodCallForm
    rw [hst]
    show (true && true && decide (es.length + 0 + 0 < 30)) = true
    simp
    omega
  have hpos : methodCallPos true o c.env apos pos = pure pos := by unfold methodCallPos; simp [hline]
  unfold methodCall
  rw [hform]
  refine wpAny_bind (wpAny_holding (wpAny_mono (h₁ _) (fun fx s₂ h₂ => ?_) fun _ _ e => e))
  exact wpAny_bind (wpAny_of_eq hpos h₂)

theorem callWith_builtinM {pos : Pos} {id : String} {first : List Value} {e : Expr} {T : Value → Shared → Prop} (hs : ∀ r, starEach (e :: r) c.env = (false, eval e c.env) :: starEach r c.env)
    (h : wpAny (model prog c.w) c.A (eval e c.env) (fun v s₁ => wpAny (model prog c.w) c.A (call (.builtin id) (first ++ [v])) T E s₁) E s) :
    wpAny (model prog c.w) c.A (callWith pos (.builtin id) first (backTo pos (starEach [e] c.env)) []) T E s := by
  refine callWith_of (P := fun _ => True) (by rw [hs]; rfl) (fun _ _ => ⟨.machine, .inr (.inl rfl), Looks.of_pure rfl⟩) ?_
  have z := spliced_more (pos := pos) (Q := fun vs s₁ => True ∧ wpAny (model prog c.w) c.A (call (.builtin id) (first ++ vs)) T E s₁) (rest := []) (wpAny_mono h (fun v s₁ h₁ => spliced_none ⟨trivial, h₁⟩) fun _ _ x => x) (hs [])
  rw [hs] at z ⊢
  exact evalArgs_plain z

theorem soundE (O : Okx c) : ∀ (ix : IX) (e : Expr) {s : Shared} {v : MV} {Q : Value → Shared → Prop}, ckE c.scope ix e = true → ev c.sg σ ix = some v → Rp c σ s → (∀ u s', MV.of u = some v → Rp c σ s' → Q u s') →
    wpAny (model prog c.w) c.A (eval e c.env) Q E s := by
  have binop : ∀ {ix a b : IX} {op : CmpOp}, opOf ix = some (a, b, op) →
      (∀ (e : Expr) {s : Shared} {v : MV} {Q : Value → Shared → Prop}, ckE c.scope a e = true → ev c.sg σ a = some v → Rp c σ s → (∀ u s', MV.of u = some v → Rp c σ s' → Q u s') → wpAny (model prog c.w) c.A (eval e c.env) Q E s) →
      (∀ (e : Expr) {s : Shared} {v : MV} {Q : Value → Shared → Prop}, ckE c.scope b e = true → ev c.sg σ b = some v → Rp c σ s → (∀ u s', MV.of u = some v → Rp c σ s' → Q u s') → wpAny (model prog c.w) c.A (eval e c.env) Q E s) →
      ∀ (e : Expr) {s : Shared} {v : MV} {Q : Value → Shared → Prop}, ckE c.scope ix e = true → ev c.sg σ ix = some v → Rp c σ s → (∀ u s', MV.of u = some v → Rp c σ s' → Q u s') → wpAny (model prog c.w) c.A (eval e c.env) Q E s := by
    intro ix a b op ho ia ib e s v Q hc hv R h
    obtain ⟨l, r, p, rfl, h1, h2⟩ := ck_op ho hc
    rw [ev_op ho] at hv
    have hav : ∃ x, ev c.sg σ a = some x := by
      cases q : ev c.sg σ a with
      | none => rw [q] at hv; cases op <;> simp [cmpV, cmpI, eqV, notV, inV] at hv
      | some x => exact ⟨x, rfl⟩
    obtain ⟨x, hx⟩ := hav
    have hbv : ∃ y, ev c.sg σ b = some y := by
      cases q : ev c.sg σ b with
      | none => rw [q, hx] at hv; cases op <;> cases x <;> simp [cmpV, cmpI, eqV, notV, inV] at hv
      | some x => exact ⟨x, rfl⟩
    obtain ⟨y, hy⟩ := hbv
    rw [hx, hy] at hv
    exact cmp2 h2 (ia l h1 hx R fun u s₁ hu R₁ => ib r h2 hy R₁ fun w s₂ hw R₂ => cmp_end O R₂ hu hw hv fun z s₃ hz R₃ => h _ _ (by rw [hz]; rfl) R₃)
  intro ix
  induction ix with
  | lit v =>
    intro e s v' Q hc hv R h
    cases hv
    cases v with
    | int i =>
      unfold ckE at hc
      split at hc
      · obtain rfl := eq_of_beq hc
        exact wpAny_Constant_int (h _ _ rfl (R.toks _))
      · obtain rfl := eq_of_beq hc
        exact wpAny_UnaryOp (wpAny_Constant_int (PySem.P.neg_int (h _ _ rfl ((R.toks _).toks _))))
      · cases hc
    | str x =>
      unfold ckE at hc
      split at hc
      · obtain rfl := seq_eq hc
        exact wpAny_Constant_str (h _ _ rfl (R.toks _))
      · cases hc
    | bool b =>
      unfold ckE at hc
      split at hc
      · obtain rfl := eq_of_beq hc
        rw [arm_eval_Constant]
        exact wpAny_pure (h _ _ rfl R)
      · cases hc
    | none => cases e <;> exact absurd hc Bool.false_ne_true
    | ref a => cases e <;> exact absurd hc Bool.false_ne_true
  | loc x => intro e s v Q hc hv R h; exact e_loc O R hc hv fun u hu => h u _ hu R
  | fld f => intro e s v Q hc hv R h; exact e_fld O R hc hv h
  | glob k a =>
    intro e s v Q hc hv R h
    obtain ⟨r, hr, rfl⟩ := Option.map_eq_some_iff.mp hv
    exact e_glob O R hc hr fun s' R' => h _ _ rfl R'
  | amg x k =>
    intro e s v Q hc hv R h
    unfold ev at hv
    split at hv
    · rename_i a ha
      obtain ⟨t, ht, rfl⟩ := Option.map_eq_some_iff.mp hv
      exact e_amg O R hc ha ht h
    · cases hv
  | add a b ia ib =>
    intro e s v Q hc hv R h
    unfold ckE at hc
    split at hc
    · obtain ⟨h1, h2⟩ := Bool.and_eq_true_iff.mp hc
      unfold ev addV at hv
      split at hv
      · rename_i x y hx hy
        cases hv
        refine wpAny_BinOp (ia _ h1 hx R fun u s₁ hu R₁ => ib _ h2 hy R₁ fun w s₂ hw R₂ => ?_)
        obtain ⟨t, rfl⟩ := of_int hu
        obtain ⟨t', rfl⟩ := of_int hw
        exact add_int (h _ _ rfl (R₂.toks _))
      · rename_i x y hx hy
        split at hv
        · rename_i hz
          cases hv
          refine wpAny_BinOp (ia _ h1 hx R fun u s₁ hu R₁ => ib _ h2 hy R₁ fun w s₂ hw R₂ => ?_)
          obtain ⟨t, rfl⟩ := of_str hu
          obtain ⟨t', rfl⟩ := of_str hw
          exact add_str (fun t' tk => h _ _ rfl (R₂.toks _)) (small_fits hz)
        · cases hv
      · cases hv
    · cases hc
  | sub a b ia ib =>
    intro e s v Q hc hv R h
    unfold ckE at hc
    split at hc
    · obtain ⟨h1, h2⟩ := Bool.and_eq_true_iff.mp hc
      unfold ev arI at hv
      split at hv
      · rename_i x y hx hy
        cases hv
        refine wpAny_BinOp (ia _ h1 hx R fun u s₁ hu R₁ => ib _ h2 hy R₁ fun w s₂ hw R₂ => ?_)
        obtain ⟨t, rfl⟩ := of_int hu
        obtain ⟨t', rfl⟩ := of_int hw
        exact sub_int (h _ _ rfl (R₂.toks _))
      · cases hv
    · cases hc
  | shr1 a ia =>
    intro e s v Q hc hv R h
    unfold ckE at hc
    split at hc
    · unfold ev shrV at hv
      split at hv
      · rename_i x hx
        split at hv
        · rename_i hz
          cases hv
          refine wpAny_BinOp (ia _ hc hx R fun u s₁ hu R₁ => wpAny_Constant_int ?_)
          obtain ⟨t, rfl⟩ := of_int hu
          exact wpAny_rshift1_int hz.1 (h _ _ rfl ((R₁.toks _).toks _))
        · cases hv
      · cases hv
    · cases hc
  | lt a b ia ib => exact binop rfl ia ib
  | le a b ia ib => exact binop rfl ia ib
  | gt a b ia ib => exact binop rfl ia ib
  | ge a b ia ib => exact binop rfl ia ib
  | eq a b ia ib => exact binop rfl ia ib
  | ne a b ia ib => exact binop rfl ia ib
  | inn a b ia ib => exact binop rfl ia ib
  | notin a b ia ib => exact binop rfl ia ib
  | orr a b ia ib => intro e s v Q hc; cases e <;> exact absurd hc Bool.false_ne_true
  | len a ia =>
    intro e s v Q hc hv R h
    unfold ckE at hc
    split at hc
    · obtain ⟨h1, h2⟩ := Bool.and_eq_true_iff.mp hc
      obtain ⟨p, rfl⟩ := isName h1
      refine Call_Name1 (e_builtin O R h1 O.sg.noLen (by first | rfl | boot_by_name) (by decide) (by decide) ?_) (star1 h2 [])
      unfold ev lenV at hv
      split at hv
      · rename_i x hx
        split at hv
        · rename_i hz
          cases hv
          refine PySem.callWith_builtin1 (ia _ h2 hx R fun u s₁ hu R₁ => ?_)
          obtain ⟨t, rfl⟩ := of_str hu
          exact PySem.P.len_str (by unfold bigLine at hz; omega) (h _ _ rfl (R₁.toks _))
        · cases hv
      · rename_i x hx
        obtain ⟨l, hl, rfl⟩ := Option.map_eq_some_iff.mp hv
        refine PySem.callWith_builtin1 (ia _ h2 hx R fun u s₁ hu R₁ => ?_)
        obtain rfl := of_ref hu
        obtain ⟨hlt, dd, n, sl, hk⟩ := O.sg.lst _ _ hl
        obtain ⟨m, es, n', fr, F, _⟩ := R₁.ex
        have IL := lstK (O.X.keeps F.keep) hk
        refine len_list IL (by simp; omega) ?_
        rw [show ((List.map Value.ref l).toArray.size : Int) = l.length by simp]
        exact h _ _ rfl (R₁.toks _)
      · cases hv
    · cases hc
  | ord a ia =>
    intro e s v Q hc hv R h
    unfold ckE at hc
    split at hc
    · obtain ⟨h1, h2⟩ := Bool.and_eq_true_iff.mp hc
      obtain ⟨p, rfl⟩ := isName h1
      refine Call_Name1 (e_builtin O R h1 O.sg.noOrd (by first | rfl | boot_by_name) (by decide) (by decide) ?_) (star1 h2 [])
      unfold ev ordV at hv
      split at hv
      · rename_i x hx
        split at hv
        · rename_i hz
          cases hv
          refine PySem.callWith_builtin1 (ia _ h2 hx R fun u s₁ hu R₁ => ?_)
          obtain ⟨t, rfl⟩ := of_str hu
          exact ord_of_one hz (h _ _ rfl (R₁.toks _))
        · cases hv
      · cases hv
    · cases hc
  | min a b ia ib =>
    intro e s v Q hc hv R h
    unfold ckE at hc
    split at hc
    · obtain ⟨h1, h3⟩ := Bool.and_eq_true_iff.mp hc
      obtain ⟨h1, h2⟩ := Bool.and_eq_true_iff.mp h1
      obtain ⟨p, rfl⟩ := isName h1
      refine wpAny_Call_ofName (e_builtin O R h1 O.sg.noMin (by first | rfl | boot_by_name) (by decide) (by decide) ?_)
      unfold ev minV at hv
      split at hv
      · rename_i x y hx hy
        cases hv
        refine PyProof.Rows.callWith_builtin1 (spliced_more (ia _ h2 hx R fun u s₁ hu R₁ => spliced_more (ib _ h3 hy R₁ fun w s₂ hw R₂ => spliced_none ?_) (star1 h3 _)) (star1 h2 _)) (star1 h2 _) (by rw [star1 h3]; rfl)
        obtain ⟨t, rfl⟩ := of_int hu
        obtain ⟨t', rfl⟩ := of_int hw
        obtain ⟨m, es, n, fr, F, N, U, hs, hL, hD, hn⟩ := R₂.ex
        refine min_two_N O.hand F N fun h' tk F' N' => h _ _ ?_ (go_back O R₂ U hs hL hD hn F' N')
        split <;> rfl
      · cases hv
    · cases hc
  | idx a i ia ii =>
    intro e s v Q hc hv R h
    unfold ckE at hc
    split at hc
    · rename_i l r p
      obtain ⟨h1, h2⟩ := Bool.and_eq_true_iff.mp hc
      unfold ev idxV at hv
      split at hv
      · rename_i x y hx hy
        split at hv
        · rename_i hz
          cases hv
          refine Subscript_ (ia _ h1 hx R fun u s₁ hu R₁ => ii _ h2 hy R₁ fun w s₂ hw R₂ => ?_)
          obtain ⟨t, rfl⟩ := of_str hu
          obtain ⟨t', rfl⟩ := of_int hw
          obtain ⟨z0, z1, z2⟩ := hz
          have hb : x.length < 5000 := Nat.lt_of_le_of_lt z2 (by decide)
          refine subscriptTail_builtin (T := "str") (id := "str.__getitem__") (typeIs_str _ _ _) PySem.F.slot_str_getitem.lookup (PySem.P.getItem_str (c := x.cps.getD y.toNat 0) ?_ ?_ ?_) (notSlice h2 _ _) (letStr _ _ _)
          · simp; omega
          · obtain ⟨j, rfl⟩ := Int.eq_ofNat_of_zero_le z0
            have hj : j < x.length := by omega
            have : seqIndex? (j : Int) x.length = some j := by
              unfold seqIndex?
              first | (simp; omega) | (split <;> simp_all <;> omega)
            rw [this]
            simp [Str.length] at hj
            simp [hj]
          · exact h _ _ rfl (R₂.toks _)
        · cases hv
      · rename_i x y hx hy
        split at hv
        · rename_i hz
          obtain ⟨l', hl, hv⟩ := Option.bind_eq_some_iff.mp hv
          obtain ⟨r', hr, rfl⟩ := Option.map_eq_some_iff.mp hv
          refine Subscript_ (ia _ h1 hx R fun u s₁ hu R₁ => ii _ h2 hy R₁ fun w s₂ hw R₂ => ?_)
          obtain rfl := of_ref hu
          obtain ⟨t', rfl⟩ := of_int hw
          obtain ⟨hlt, dd, n, sl, hk⟩ := O.sg.lst _ _ hl
          obtain ⟨m, es, n', fr, F, _⟩ := R₂.ex
          exact topList_K F O.X hk hz.1 (by omega) (by rw [List.getElem?_map, hr]; rfl) (h _ _ rfl R₂) (notSlice h2 _ _)
        · cases hv
      · cases hv
    · cases hc
  | slc a lo hi ia il ih =>
    intro e s v Q hc hv R h
    unfold ckE at hc
    split at hc
    · obtain ⟨h1, h3⟩ := Bool.and_eq_true_iff.mp hc
      obtain ⟨h1, h2⟩ := Bool.and_eq_true_iff.mp h1
      unfold ev slcV at hv
      split at hv
      · rename_i x y z hx hy hz
        split at hv
        · rename_i hw
          cases hv
          obtain ⟨w0, w1, w2, w3⟩ := hw
          refine Subscript_ (ia _ h1 hx R fun u s₁ hu R₁ => wpAny_Slice (il _ h2 hy R₁ fun u₂ s₂ hu₂ R₂ => ih _ h3 hz R₂ fun u₃ s₃ hu₃ R₃ => wpAny_pure ?_))
          obtain ⟨t, rfl⟩ := of_str hu
          obtain ⟨t₂, rfl⟩ := of_int hu₂
          obtain ⟨t₃, rfl⟩ := of_int hu₃
          obtain ⟨m, es, n, fr, F, N, U, hs, hL, hD, hn⟩ := R₃.ex
          refine slice_strN_ss F N (fun h' t' k F' N' => h _ _ ?_ (go_back O R₃ U hs hL hD hn F' N')) rfl (letStr _ _ _) (small_fits w3)
          rw [slice_cut w0 w1 w2]; rfl
        · cases hv
      · cases hv
    · cases hc
  | slcE a lo ia il =>
    intro e s v Q hc hv R h
    unfold ckE at hc
    split at hc
    · obtain ⟨h1, h2⟩ := Bool.and_eq_true_iff.mp hc
      unfold ev slcEV at hv
      split at hv
      · rename_i x y hx hy
        split at hv
        · rename_i hw
          cases hv
          obtain ⟨w0, w1, w2⟩ := hw
          refine Subscript_ (ia _ h1 hx R fun u s₁ hu R₁ => wpAny_Slice (il _ h2 hy R₁ fun u₂ s₂ hu₂ R₂ => wpAny_pure (wpAny_pure ?_)))
          obtain ⟨t, rfl⟩ := of_str hu
          obtain ⟨t₂, rfl⟩ := of_int hu₂
          obtain ⟨m, es, n, fr, F, N, U, hs, hL, hD, hn⟩ := R₂.ex
          refine slice_strN_sn F N (fun h' t' k F' N' => h _ _ ?_ (go_back O R₂ U hs hL hD hn F' N')) rfl (letStr _ _ _) (small_fits w2)
          rw [slice_cutE w0 w1]; rfl
        · cases hv
      · cases hv
    · cases hc
  | ends a b ia ib =>
    intro e s v Q hc hv R h
    unfold ckE at hc
    split at hc
    · obtain ⟨h1, h4⟩ := Bool.and_eq_true_iff.mp hc
      obtain ⟨h1, h3⟩ := Bool.and_eq_true_iff.mp h1
      obtain ⟨h1, h2⟩ := Bool.and_eq_true_iff.mp h1
      obtain rfl := seq_eq h1
      unfold ev endsV at hv
      split at hv
      · rename_i x y hx hy
        cases hv
        refine meth_call (base_of h3 _ _ _) (by rw [star1 h4]; rfl) (by show 1 < 8; decide) h2 (ia _ h3 hx R fun u s₁ hu R₁ pl => ?_)
        obtain ⟨t, rfl⟩ := of_str hu
        refine GM.endswith (callWith_builtinM (star1 h4) (ib _ h4 hy R₁ fun w s₂ hw R₂ => ?_))
        obtain ⟨t', rfl⟩ := of_str hw
        refine SC.endswith (h _ _ ?_ R₂)
        rw [ends_eq]; rfl
      · cases hv
    · cases hc
end
end Sb
end

section
open PySem PySem.W PyProof.Rows PySem.Calls PySem.Spec
set_option Elab.async false
set_option maxRecDepth 100000
set_option linter.constructorNameAsVariable false
set_option linter.unusedVariables false
namespace Sb

section
variable {c : Cx} {σ : St} {s : Shared} {E : Value → Shared → Prop}

theorem notTest {sc : Scope} {a : IX} {e : Expr} (h : ckE sc a e = true) (ho : opOf a = none) (env : Env) (whole : Sem Value) :
    isTrue e env whole = (do let v ← whole; standAt e.pos; holding [v] (truthy v)) := by
  cases e <;> first | rfl | skip
  · exfalso
    cases a <;> try (exact absurd h Bool.false_ne_true)
    rename_i v
    cases v <;> exact absurd h Bool.false_ne_true
  · rename_i op x p
    cases op <;> first | rfl | skip
    exfalso
    cases a <;> try (exact absurd h Bool.false_ne_true)
    rename_i v
    cases v <;> exact absurd h Bool.false_ne_true
  · exfalso
    cases a <;> try (exact absurd h Bool.false_ne_true)
    rename_i v
    cases v <;> exact absurd h Bool.false_ne_true
  · exfalso
    cases a <;> first | (exact absurd h Bool.false_ne_true) | (cases ho; done) | skip
    rename_i v
    cases v <;> exact absurd h Bool.false_ne_true

theorem soundC1 (O : Okx c) (ix : IX) (e : Expr) {b : Bool} {Q : Bool → Shared → Prop} (hc : ckE c.scope ix e = true) (hv : ev c.sg σ ix = some (.bool b)) (R : Rp c σ s) (h : ∀ s', Rp c σ s' → Q b s') :
    wpAny (model prog c.w) c.A (isTrue e c.env (eval e c.env)) Q E s := by
  cases ho : opOf ix with
  | none =>
    refine isTrue_plain (soundE O ix e hc hv R fun u s' hu R' => ?_) (notTest hc ho _ _)
    obtain rfl := of_bool hu
    exact wpAny_truthy_bool (h _ R')
  | some p =>
    obtain ⟨a, a', op⟩ := p
    obtain ⟨l, r, p, rfl, h1, h2⟩ := ck_op ho hc
    rw [ev_op ho] at hv
    have hav : ∃ x, ev c.sg σ a = some x := by
      cases q : ev c.sg σ a with
      | none => rw [q] at hv; cases op <;> simp [cmpV, cmpI, eqV, notV, inV] at hv
      | some x => exact ⟨x, rfl⟩
    obtain ⟨x, hx⟩ := hav
    have hbv : ∃ y, ev c.sg σ a' = some y := by
      cases q : ev c.sg σ a' with
      | none => rw [q, hx] at hv; cases op <;> cases x <;> simp [cmpV, cmpI, eqV, notV, inV] at hv
      | some x => exact ⟨x, rfl⟩
    obtain ⟨y, hy⟩ := hbv
    rw [hx, hy] at hv
    refine wpAny_isTrue_Compare1 (soundE O a l h1 hx R fun u s₁ hu R₁ => soundE O a' r h2 hy R₁ fun w s₂ hw R₂ => cmp_end O R₂ hu hw hv fun z s₃ hz R₃ => ?_) (notSet h2)
    cases hz
    exact wpAny_truthy_bool (h _ R₃)

theorem soundC (O : Okx c) (ix : IX) (e : Expr) {b : Bool} {Q : Bool → Shared → Prop} (hc : ckC c.scope ix e = true) (hv : ev c.sg σ ix = some (.bool b)) (R : Rp c σ s) (h : ∀ s', Rp c σ s' → Q b s') :
    wpAny (model prog c.w) c.A (isTrue e c.env (eval e c.env)) Q E s := by
  cases ix
  case orr a a' =>
    have hq : ∃ l r p, e = .BoolOp .Or [l, r] p ∧ ckE c.scope a l = true ∧ ckE c.scope a' r = true := by
      unfold ckC at hc
      dsimp only at hc
      split at hc
      · rename_i l r p
        exact ⟨l, r, p, rfl, Bool.and_eq_true_iff.mp hc⟩
      · cases hc
    obtain ⟨l, r, p, rfl, h1, h2⟩ := hq
    · unfold ev at hv
      split at hv
      · rename_i hx
        cases hv
        refine isTrue_or (soundC1 O a _ h1 hx R fun s₁ R₁ => ?_)
        rw [if_pos rfl]
        exact h _ R₁
      · rename_i hx
        split at hv
        · rename_i z hz
          cases hv
          refine isTrue_or (soundC1 O a _ h1 hx R fun s₁ R₁ => ?_)
          rw [if_neg Bool.false_ne_true]
          refine isTrue_or (soundC1 O a' _ h2 hz R₁ fun s₂ R₂ => ?_)
          cases b with
          | true => rw [if_pos rfl]; exact h _ R₂
          | false => rw [if_neg Bool.false_ne_true]; exact isTrue_or_nil (h _ R₂)
        · cases hv
      · cases hv
  all_goals exact soundC1 O _ e hc hv R h

end
end Sb
end

section
open PySem PySem.W PyProof.Rows PySem.Calls PySem.Spec
set_option Elab.async false
set_option maxRecDepth 100000
set_option linter.constructorNameAsVariable false
set_option linter.unusedVariables false
namespace Sb

theorem UpS.map : ∀ {a b : List (Addr × Obj)}, UpS a b → b.map (·.1) = a.map (·.1)
  | [], [], _ => rfl
  | _ :: _, _ :: _, ⟨h, _, r⟩ => by rw [List.map_cons, List.map_cons, h, UpS.map r]
  | [], _ :: _, h => h.elim
  | _ :: _, [], h => h.elim
theorem UpS.refl : ∀ a : List (Addr × Obj), UpS a a
  | [] => trivial
  | p :: a => ⟨rfl, ⟨p.2.slots, rfl⟩, UpS.refl a⟩
theorem UpS.trans : ∀ {a b d : List (Addr × Obj)}, UpS a b → UpS b d → UpS a d
  | [], [], [], _, _ => trivial
  | _ :: _, _ :: _, _ :: _, ⟨h, ⟨sl, e⟩, r⟩, ⟨h', ⟨sl', e'⟩, r'⟩ => ⟨h.trans h', ⟨sl', by rw [e', e]⟩, UpS.trans r r'⟩
  | [], _ :: _, _, h, _ => h.elim
  | _ :: _, [], _, h, _ => h.elim
  | [], [], _ :: _, _, h => h.elim
  | _ :: _, _ :: _, [], _, h => h.elim
theorem UpS.back : ∀ {a b : List (Addr × Obj)}, UpS a b → ∀ q ∈ b, ∃ p ∈ a, p.1 = q.1 ∧ ∃ sl, q.2 = { p.2 with slots := sl }
  | _ :: _, q :: _, ⟨h, e, r⟩, q', hm => by
    rcases List.mem_cons.mp hm with rfl | hm
    · exact ⟨_, .head _, h, e⟩
    · obtain ⟨p, hp, x⟩ := UpS.back r q' hm
      exact ⟨p, .tail _ hp, x⟩
  | [], [], _, _, hm => nomatch hm
  | [], _ :: _, h, _, _ => h.elim
  | _ :: _, [], h, _, _ => h.elim

def allF : List Fld := [.cur, .cursor, .limit, .lb, .bra, .ket, .p1]
theorem len_sub {α : Type} [DecidableEq α] : ∀ (l L : List α), l.Nodup → (∀ x ∈ l, x ∈ L) → l.length ≤ L.length
  | [], _, _, _ => Nat.zero_le _
  | x :: l, L, hn, hs => by
    have hx : x ∈ L := hs x (.head _)
    have := len_sub l (L.erase x) (List.nodup_cons.mp hn).2 fun y hy => by
      have : y ≠ x := fun q => (List.nodup_cons.mp hn).1 (q ▸ hy)
      exact (List.mem_erase_of_ne this).mpr (hs y (.tail _ hy))
    rw [List.length_erase_of_mem hx] at this
    have : 0 < L.length := List.length_pos_of_mem hx
    rw [List.length_cons]
    omega
theorem fld_len {l : List (Fld × MV)} (h : (l.map (·.1)).Nodup) : l.length ≤ 7 := by
  have := len_sub (l.map (·.1)) allF h fun x _ => by cases x <;> decide
  simpa [allF] using this
theorem setA_keys {κ : Type} [DecidableEq κ] (x : κ) (v : MV) : ∀ {l : List (κ × MV)}, (l.map (·.1)).Nodup → ((setA x v l).map (·.1)).Nodup ∧ ∀ y ∈ (setA x v l).map (·.1), y = x ∨ y ∈ l.map (·.1)
  | [], _ => ⟨by simp [setA], fun y hy => by simp [setA] at hy; exact .inl hy⟩
  | p :: r, h => by
    rw [List.map_cons] at h
    obtain ⟨h1, h2⟩ := List.nodup_cons.mp h
    unfold setA
    by_cases q : p.1 = x
    · rw [if_pos q]
      rw [q] at h1
      exact ⟨List.nodup_cons.mpr ⟨h1, h2⟩, fun y hy => by rw [List.map_cons] at hy ⊢; rcases List.mem_cons.mp hy with hy | hy; exact .inl hy; exact .inr (.tail _ hy)⟩
    · rw [if_neg q]
      obtain ⟨k1, k2⟩ := setA_keys x v h2
      refine ⟨List.nodup_cons.mpr ⟨fun hm => ?_, k1⟩, fun y hy => ?_⟩
      · rcases k2 _ hm with z | z
        · exact q z
        · exact h1 z
      · rw [List.map_cons] at hy ⊢
        rcases List.mem_cons.mp hy with hy | hy
        · rw [hy]; exact .inr (.head _)
        · rcases k2 y hy with z | z
          · exact .inl z
          · exact .inr (.tail _ z)

section
variable {c : Cx} {σ : St} {s : Shared} {E : Value → Shared → Prop}

theorem e_storeL (O : Okx c) (R : Rp c σ s) {x : Loc} {u : Value} {v : MV} {Q : Unit → Shared → Prop} (hu : MV.of u = some v) (hl : isLoc c.scope x.name = true) (h : ∀ s', Rp c (σ.setL x v) s' → Q () s') :
    wpAny (model prog c.w) c.A (storeName c.env x.name u) Q E s := by
  obtain ⟨m, es, n, fr, F, N, U, hs, hL, hD, hn⟩ := R.ex
  exact stN F N (fun h' F' N' => h _ ⟨⟨_, es, n, fr, F', N', U, by rw [if_neg (Ne.symm x.name_self)]; exact hs, hL.set hu, hD, hn⟩, R.gens, R.drawn, R.os⟩) O.kind (kindL O hl)

theorem e_setF (O : Okx c) (R : Rp c σ s) {f : Fld} {u : Value} {v : MV} {Q : Unit → Shared → Prop} (hu : MV.of u = some v) (h : ∀ s', Rp c (σ.setF f v) s' → Q () s') :
    wpAny (model prog c.w) c.A (setAttr (.ref c.x) f.name u) Q E s := by
  obtain ⟨m, es, n, fr, F, N, U, hs, hL, hD, hn⟩ := R.ex
  have hD' : DR c.w.params (putL f.name (PyData.keyHash c.w.params f.name) (.str f.name (s.toks + 1)) u es) (setA f v σ.fld) := hD.put hu ⟨_, rfl⟩
  have hn' := (setA_keys f v hn).1
  refine set_dict (es' := putL f.name (PyData.keyHash c.w.params f.name) (.str f.name (s.toks + 1)) u es) (n' := putN f.name es n) F O.X N (Rp.inst O F N) rfl O.cls.hs O.cls.hp (O.cls.fld f).2 O.cls.hh (hD.some _) rfl (.head fun p hp q => ?_) ?_ fun h' F' N' => h _ ⟨⟨m, _, _, fr, F', N', U, hs, hL, hD', hn'⟩, R.gens, R.drawn, R.os⟩
  · have := O.apart
    refine (List.nodup_cons.mp this).1 ?_
    rw [List.map_append, ← U.map, ← List.map_append]
    exact List.mem_map.mpr ⟨p, hp, q⟩
  · rw [hD'.length]
    exact Nat.le_trans (fld_len hn') (by decide)

theorem backTo_cons {sc : Scope} {a : IX} {l : Expr} {env : Env} {pos : Pos} (h : ckE sc a l = true) (rest : List Expr) : backTo pos (starEach (l :: rest) env) = (false, eval l env) :: backTo pos (starEach rest env) := by
  rw [star1 h]; rfl
theorem noStars {sc : Scope} {env : Env} {pos : Pos} : ∀ (as : List IX) (es : List Expr), ckEs sc as es = true → (backTo pos (starEach es env)).any (·.1) = false ∧ (backTo pos (starEach es env)).all (fun x => !x.1) = true
  | [], [], _ => ⟨rfl, rfl⟩
  | a :: as, e :: es, h => by
    obtain ⟨h1, h2⟩ := Bool.and_eq_true_iff.mp h
    obtain ⟨k1, k2⟩ := noStars (env := env) (pos := pos) as es h2
    rw [backTo_cons h1]
    exact ⟨by rw [List.any_cons, k1]; rfl, by rw [List.all_cons, k2]; rfl⟩
  | [], _ :: _, h => absurd h Bool.false_ne_true
  | _ :: _, [], h => absurd h Bool.false_ne_true

def OfAll : List Value → List MV → Prop
  | [], [] => True
  | u :: us, v :: vs => MV.of u = some v ∧ OfAll us vs
  | _, _ => False
theorem soundEs (O : Okx c) {pos : Pos} : ∀ (as : List IX) (es : List Expr) {s : Shared} {vs : List MV} {Q : List Value → Shared → Prop}, ckEs c.scope as es = true → evs c.sg σ as = some vs → Rp c σ s → (∀ us s', OfAll us vs → Rp c σ s' → Q us s') →
    wpAny (model prog c.w) c.A (spliced (backTo pos (starEach es c.env))) Q E s
  | [], [], s, vs, Q, _, hv, R, h => by cases hv; exact spliced_none (h [] s trivial R)
  | a :: as, e :: es, s, vs, Q, hc, hv, R, h => by
    obtain ⟨h1, h2⟩ := Bool.and_eq_true_iff.mp hc
    unfold evs at hv
    split at hv
    · rename_i v vs' e1 e2
      cases hv
      exact spliced_more (soundE O a e h1 e1 R fun u s₁ hu R₁ => soundEs O as es h2 e2 R₁ fun us s₂ hus R₂ => h _ _ ⟨hu, hus⟩ R₂) (star1 h1 es)
    · cases hv
  | [], _ :: _, _, _, _, h, _, _, _ => absurd h Bool.false_ne_true
  | _ :: _, [], _, _, _, h, _, _, _ => absurd h Bool.false_ne_true

theorem Mth.noFld (m : Mth) : ∀ f : Fld, f.name ≠ m.name := by cases m <;> intro f <;> cases f <;> decide

theorem ckCall_of {sc : Scope} {m : Mth} {as : List IX} {e : Expr} (h : ckCall sc m as e = true) :
    ∃ p0 p1 es q, e = .Call (.Attribute (.Name "self" p0) m.name p1) es [] q ∧ isLoc sc "self" = true ∧ (p1.endLine == q.line) = true ∧ ckEs sc as es = true ∧ es.length < 8 := by
  unfold ckCall at h
  split at h
  · simp only [Bool.and_eq_true] at h
    obtain ⟨⟨⟨⟨⟨h1, h2⟩, h3⟩, h4⟩, h5⟩, h6⟩ := h
    obtain rfl := seq_eq h1
    obtain rfl := seq_eq h3
    exact ⟨_, _, _, _, rfl, h2, h4, h5, by simpa using h6⟩
  · cases h

/-- a call self.m(args), to the call itself -/
theorem e_call (O : Okx c) (R : Rp c σ s) {m : Mth} {as : List IX} {e : Expr} {vs : List MV} {ps : List Loc} {b : List IS} {Q : Value → Shared → Prop} (hm : c.M m = some (ps, b)) (hc : ckCall c.scope m as e = true) (hv : evs c.sg σ as = some vs)
    (h : ∀ f, findIn c.K (.ref c.C) m.name = some (some (.ref f)) → ∀ us s', OfAll us vs → Rp c σ s' → codeAny (model prog c.w) c.A (.call (.ref f) ⟨.ref c.x :: us, []⟩) (fun r s' => match r with | .ok (.ret v) => Q v s' | .ok _ => False | .error e => E e s') s') :
    wpAny (model prog c.w) c.A (eval e c.env) Q E s := by
  obtain ⟨p0, p1, es, q, rfl, hl, hline, hes, hlen⟩ := ckCall_of hc
  obtain ⟨f, qual, params, body, scope, kV, doc, pm, cdv, ct, oc, an, od, osl, nm, k1, k2, k3, k4, k5, k6⟩ := O.cls.mth m ps b hm
  obtain ⟨n1, n2⟩ := noStars (env := c.env) (pos := q) as es hes
  refine meth_call rfl n2 hlen hline (e_self O R hl fun pl => ?_)
  obtain ⟨m', es', n, fr, F, N, U, hs, hL, hD, hn⟩ := R.ex
  refine method_inst F O.X (Rp.inst O F N) O.cls.hg k1 k2 (hD.none m.noFld) ?_
  dsimp only
  cases as with
  | nil =>
    cases es with
    | nil =>
      cases hv
      refine callWith_K0 (O.X.keeps F.keep) k3 (wpAny_call ?_)
      exact h f k1 [] s trivial R
    | cons _ _ => exact absurd hes Bool.false_ne_true
  | cons a as =>
    cases es with
    | nil => exact absurd hes Bool.false_ne_true
    | cons e es =>
      obtain ⟨h1, h2⟩ := Bool.and_eq_true_iff.mp hes
      refine callWith_K (O.X.keeps F.keep) k3 (soundEs O (a :: as) (e :: es) hes hv R fun us s₁ hus R₁ => ?_) (star1 h1 es) (noStars as es h2).1
      obtain ⟨m₁, es₁, n₁, fr₁, F₁, N₁, _⟩ := R₁.ex
      exact ⟨O.X.keeps F₁.keep, wpAny_call (h f k1 us s₁ hus R₁)⟩
end
end Sb
end

section
open PySem PySem.W PyProof.Rows PySem.Calls PySem.Spec
set_option Elab.async false
set_option maxRecDepth 100000
set_option linter.constructorNameAsVariable false
set_option linter.unusedVariables false
namespace Sb

theorem ups_of {h h' : Heap} (up : ∀ b o, h.get? b = some o → (∀ vs, o.data ≠ .fields vs) → ∃ sl, h'.get? b = some { o with slots := sl }) : ∀ fr : List (Addr × Obj), (∀ q ∈ fr, h.get? q.1 = some q.2) → (∀ q ∈ fr, ∀ vs, q.2.data ≠ .fields vs) →
    ∃ fr', UpS fr fr' ∧ ∀ q ∈ fr', h'.get? q.1 = some q.2
  | [], _, _ => ⟨[], trivial, fun _ hq => nomatch hq⟩
  | q :: fr, hg, isd => by
    obtain ⟨fr', k1, k2⟩ := ups_of up fr (fun q hq => hg q (.tail _ hq)) (fun q hq => isd q (.tail _ hq))
    obtain ⟨sl, hs⟩ := up q.1 q.2 (hg q (.head _)) (isd q (.head _))
    refine ⟨(q.1, { q.2 with slots := sl }) :: fr', ⟨rfl, ⟨sl, rfl⟩, k1⟩, fun p hp => ?_⟩
    rcases List.mem_cons.mp hp with rfl | hp
    · exact hs
    · exact k2 p hp

/-- an exception in the air over a base -/
structure AtW (B : Heap) (l : List Env) (e : Addr) (cls a0 fl : Value) (h : Heap) : Prop where
  stays : B.StaysIn h
  new : B.get? e = none
  frames : h.FunFrames B l
  traced : h.TracedAtW B e cls a0 fl

section
variable {M : Model} {A : Around} {E : Value → Shared → Prop} {s : Shared}
theorem setFlight_at {B : Heap} {l : List Env} {e : Addr} {cls a0 fl : Value} {fr : Option Addr} {Q : Unit → Shared → Prop} (R : AtW B l e cls a0 fl s.heap)
    (h : ∀ h', AtW B l e cls a0 (fr.elim .none fun f => rawInt f) h' → s.heap.UpToSlots h' → Q () { s with heap := h' }) : wpAny M A (setFlight (.ref e) fr) Q E s := by
  obtain ⟨hkb, hen, hl, oe, vs, T, oT, ts, he, hcls, hd, h1, hnT, hTe, hT, hdT, h3⟩ := R
  have hsz3 : 3 < ts.size := (Array.getElem?_eq_some_iff.mp h3).1
  have other : ∀ b, b ≠ T → (s.heap.update T (Obj.mapFields (·.setIfInBounds 3 (fr.elim .none fun f => rawInt f)))).get? b = s.heap.get? b :=
    fun b hb => Heap.get?_update_other _ _ (Ne.symm hb)
  have noRecord : ∀ b o, s.heap.get? b = some o → (∀ vs, o.data ≠ .fields vs) → b ≠ T := fun b o hb hnf q => by
    rw [q, hT] at hb; injection hb with hb; subst hb; exact hnf ts hdT
  unfold setFlight
  refine wpAny_bind (wpAny_field he hd h1 ?_)
  rw [if_pos (show (Value.ref T != Value.none) = true from by simp)]
  refine wpAny_setField hT hdT hsz3 (h _ ⟨fun b o hbo => (other b fun q => by rw [q, hnT] at hbo; cases hbo).trans (hkb b o hbo), hen,
    hl.of_keeps fun b o hb hnf => ⟨o, (other b (noRecord b o hb hnf)).trans hb, rfl⟩, ?_⟩ fun b o hb hnf => ⟨o.slots, (other b (noRecord b o hb hnf)).trans hb⟩)
  exact ⟨oe, vs, T, _, _, (other e (Ne.symm hTe)).trans he, hcls, hd, h1, hnT, hTe, Heap.get?_update_self _ hT (Obj.isFreed_of_fields (Obj.data_mapFields hdT _)), Obj.data_mapFields hdT _, by simp [hsz3]⟩
theorem AtW.field {B : Heap} {l : List Env} {e : Addr} {cls a0 fl : Value} (R : AtW B l e cls a0 fl s.heap) {Q : Value → Shared → Prop} (h : ∀ T, Q (.ref T) s) : wpAny M A (PySem.field (.ref e) 1) Q E s := by
  obtain ⟨hkb, hen, hl, oe, vs, T, oT, ts, he, hcls, hd, h1, _⟩ := R
  exact wpAny_field he hd h1 (h T)
end

section
variable {c : Cx} {σ : St} {s : Shared} {E : Value → Shared → Prop}

structure Held (c : Cx) (σ : St) (e C : Addr) (fl : Value) (s : Shared) : Prop where
  ex : ∃ B m es n fr a0, (∀ b o, c.g.get? b = some o → B.get? b = some o) ∧ (∀ p ∈ (c.d, dictOf es n) :: c.its, B.get? p.1 = some p.2) ∧ AtW B (c.env :: c.outer) e (.ref C) a0 fl s.heap ∧
    s.heap.Ns c.L m ∧ (∀ q ∈ fr, s.heap.get? q.1 = some q.2) ∧ UpS c.frs fr ∧ m "self" = some (.ref c.x) ∧ LR m σ.loc ∧ DR c.w.params es σ.fld ∧ (σ.fld.map (·.1)).Nodup
  above : c.g.objs.size ≤ c.L
  st : ∀ b, b = c.d ∨ b ∈ (c.its ++ c.frs).map (·.1) → b ≠ c.L ∧ c.g.get? b = none
  gens : s.gens = c.gens
  drawn : s.drawn = c.drawn
  os : s.os = c.os

theorem Held.rp {e C : Addr} {fl : Value} (H : Held c σ e C fl s) : Rp c σ s := by
  obtain ⟨B, m, es, n, fr, a0, h1, h2, h3, h4, h5, h6, h7, h8, h9, h10⟩ := H.ex
  refine ⟨⟨m, es, n, fr, ⟨h4, fun b o q => h3.stays b o (h1 b o q), H.above⟩, fun p hp => ?_, h6, h7, h8, h9, h10⟩, H.gens, H.drawn, H.os⟩
  have hx : s.heap.get? p.1 = some p.2 := by
    rcases List.mem_cons.mp hp with rfl | hp'
    · exact h3.stays _ _ (h2 _ (.head _))
    · rcases List.mem_append.mp hp' with q | q
      · exact h3.stays _ _ (h2 _ (.tail _ q))
      · exact h5 p q
  refine ⟨hx, H.st p.1 ?_⟩
  rcases List.mem_cons.mp hp with rfl | hp'
  · exact .inl rfl
  · right
    rw [List.map_append, ← h6.map, ← List.map_append]
    exact List.mem_map_of_mem hp'

theorem Held.move (O : Okx c) {e C : Addr} {fl fl' : Value} (H : Held c σ e C fl s) {Q : Unit → Shared → Prop} {fr : Option Addr} (h : ∀ s', Held c σ e C (fr.elim .none fun f => rawInt f) s' → Q () s') {A : Around} :
    wpAny (model prog c.w) A (setFlight (.ref e) fr) Q E s := by
  obtain ⟨B, m, es, n, fr, a0, h1, h2, h3, h4, h5, h6, h7, h8, h9, h10⟩ := H.ex
  refine setFlight_at h3 fun h' R' up => h _ ?_
  have isd : ∀ q ∈ fr, ∀ vs, q.2.data ≠ .fields vs := fun q hq vs z => by
    obtain ⟨p, hp, _, sl, e'⟩ := h6.back q hq
    rw [e'] at z
    exact O.isd p hp vs z
  obtain ⟨fr', k1, k2⟩ := ups_of up fr h5 isd
  exact ⟨⟨B, m, es, n, fr', a0, h1, h2, R', up.ns h4, k2, h6.trans k1, h7, h8, h9, h10⟩, H.above, H.st, H.gens, H.drawn, H.os⟩

/-- an exception just made -/
def Fresh (c : Cx) (σ : St) (e C : Addr) (s : Shared) : Prop := ∃ h0, Rp c σ { s with heap := h0 } ∧ Heap.MadeExcOf h0 s.heap e (.ref C) []

theorem note_fresh (O : Okx c) {e C : Addr} (H : Fresh c σ e C s) {Q : Unit → Shared → Prop} (h : ∀ s', Held c σ e C (rawInt c.L) s' → Q () s') : wpAny (model prog c.w) c.A (noteFrame (.ref e) c.env) Q E s := by
  obtain ⟨h0, R, hx⟩ := H
  obtain ⟨m, es, n, fr, F, N, U, hs, hL, hD, hn⟩ := R.ex
  have F : Fr c.g c.L h0 m := F
  have N : News c.g c.L h0 ((c.d, dictOf es n) :: (c.its ++ fr)) := N
  obtain ⟨t, he, htn, ht⟩ := hx.there
  have notin : ∀ b, b ∈ c.frs.map (·.1) ↔ b ∈ fr.map (·.1) := fun b => by rw [U.map]
  have hgB : ∀ b o, c.g.get? b = some o → (hideAll h0 (c.L :: fr.map (·.1))).get? b = some o := fun b o q => hideAll_get _ (F.keep b o q) fun hm => by
    rcases List.mem_cons.mp hm with rfl | hm
    · exact absurd (Nat.lt_of_lt_of_le (Heap.lt_size q) F.above) (Nat.lt_irrefl _)
    · obtain ⟨p, hp, e'⟩ := List.mem_map.mp hm
      have := (N p (List.mem_cons_of_mem _ (List.mem_append_right _ hp))).2.2
      rw [e', q] at this
      cases this
  have hdB : ∀ p ∈ (c.d, dictOf es n) :: c.its, (hideAll h0 (c.L :: fr.map (·.1))).get? p.1 = some p.2 := fun p hp => by
    have hm' : p ∈ (c.d, dictOf es n) :: (c.its ++ fr) := by
      rcases List.mem_cons.mp hp with rfl | hp
      · exact .head _
      · exact List.mem_cons_of_mem _ (List.mem_append_left _ hp)
    refine hideAll_get _ (N p hm').1 fun hm => ?_
    rcases List.mem_cons.mp hm with q | hm
    · exact (N p hm').2.1 q
    · rw [← notin] at hm
      have ap := O.apart
      rcases List.mem_cons.mp hp with rfl | hp
      · exact (List.nodup_cons.mp ap).1 (by rw [List.map_append]; exact List.mem_append_right _ hm)
      · have := (List.nodup_cons.mp ap).2
        rw [List.map_append] at this
        exact (List.nodup_append.mp this).2.2 p.1 (List.mem_map_of_mem hp) p.1 hm rfl
  have hfrm : ∀ q ∈ fr, s.heap.get? q.1 = some q.2 := fun q hq => hx.keeps _ _ (N q (List.mem_cons_of_mem _ (List.mem_append_right _ hq))).1
  have isd : ∀ q ∈ fr, ∀ vs, q.2.data ≠ .fields vs := fun q hq vs z => by
    obtain ⟨p, hp, _, sl, e'⟩ := U.back q hq
    rw [e'] at z
    exact O.isd p hp vs z
  obtain ⟨oL, esL, epL, hoL, hdL, hrL⟩ := F.ns
  have hff : s.heap.FunFrames (hideAll h0 (c.L :: fr.map (·.1))) (c.env :: c.outer) := by
    refine ⟨by show c.scope.kind ≠ .module; rw [O.kind]; decide, ⟨c.L, oL, rfl, hideAll_none _ (.head _), hx.keeps _ _ hoL, fun vs q => by rw [hdL] at q; cases q⟩, ?_⟩
    have out := O.out
    generalize c.outer = l at out
    induction l with
    | nil => trivial
    | cons env l ih =>
      obtain ⟨k1, b, k2, k3⟩ := out env (.head _)
      rw [notin] at k3
      obtain ⟨q, hq, rfl⟩ := List.mem_map.mp k3
      exact ⟨k1, ⟨q.1, q.2, k2, hideAll_none _ (.tail _ (List.mem_map_of_mem hq)), hfrm q hq, isd q hq⟩, ih fun e he => out e (.tail _ he)⟩
  have enew : (hideAll h0 (c.L :: fr.map (·.1))).get? e = none := by
    cases q : (hideAll h0 (c.L :: fr.map (·.1))).get? e with
    | none => rfl
    | some o => have := of_hideAll _ q; rw [hx.new] at this; cases this
  unfold noteFrame
  simp only [show c.env.frame = some c.L from rfl]
  refine wpAny_bind (wpAny_field he rfl (x := .none) rfl ?_)
  rw [if_neg (by decide)]
  refine wpAny_entryW (a0 := .ref t) O.frames hff rfl he (fun b o eb => hx.keeps b o (of_hideAll _ eb)) enew rfl (by show 1 < 6; decide) rfl fun h' hN => h _ ?_
  obtain ⟨k1, k2, k3, k4⟩ := hN
  obtain ⟨fr', j1, j2⟩ := ups_of k4 fr hfrm isd
  have hNs : s.heap.Ns c.L m := F.ns.keeps hx.keeps
  refine ⟨⟨_, m, es, n, fr', .ref t, hgB, hdB, ⟨k1, enew, k2, k3⟩, Heap.UpToSlots.ns k4 hNs, j2, U.trans j1, hs, hL, hD, hn⟩, F.above, fun b hb => ?_, R.gens, R.drawn, R.os⟩
  have hb' : b ∈ ((c.d, dictOf es n) :: (c.its ++ fr)).map (·.1) := by
    rw [List.map_cons, List.map_append, U.map, ← List.map_append]
    rcases hb with rfl | hb
    · exact .head _
    · exact .tail _ hb
  obtain ⟨p, hp, rfl⟩ := List.mem_map.mp hb'
  exact ⟨(N p hp).2.1, (N p hp).2.2⟩

/-- in the air in a statement; noted in this frame -/
def Xs (c : Cx) (σ : St) (k : Cls) (l : Lab) (v : Value) (s : Shared) : Prop :=
  ∃ e C, v = .ref e ∧ labOk k l = true ∧ nsIn c.K mainGlobals (Lab.name k l) = some (some (.ref C)) ∧ (Fresh c σ e C s ∨ Held c σ e C (rawInt c.L) s)
def Hs (c : Cx) (σ : St) (k : Cls) (l : Lab) (fl : Value) (v : Value) (s : Shared) : Prop :=
  ∃ e C, v = .ref e ∧ labOk k l = true ∧ nsIn c.K mainGlobals (Lab.name k l) = some (some (.ref C)) ∧ Held c σ e C fl s

theorem note (O : Okx c) {k : Cls} {l : Lab} {v : Value} (H : Xs c σ k l v s) {Q : Unit → Shared → Prop} (h : ∀ s', Hs c σ k l (rawInt c.L) v s' → Q () s') : wpAny (model prog c.w) c.A (noteFrame v c.env) Q E s := by
  obtain ⟨e, C, rfl, h1, h2, h3 | h3⟩ := H
  · exact note_fresh O h3 fun s' H' => h s' ⟨e, C, rfl, h1, h2, H'⟩
  · obtain ⟨B, m, es, n, fr, a0, _, _, h4, _⟩ := h3.ex
    exact wpAny_noteFrame_againW rfl h4.traced (h s ⟨e, C, rfl, h1, h2, h3⟩)
theorem fly (O : Okx c) {A : Around} {k : Cls} {l : Lab} {fl v : Value} (H : Hs c σ k l fl v s) {Q : Unit → Shared → Prop} (fr : Option Addr) (h : ∀ s', Hs c σ k l (fr.elim .none fun f => rawInt f) v s' → Q () s') : wpAny (model prog c.w) A (setFlight v fr) Q E s := by
  obtain ⟨e, C, rfl, h1, h2, h3⟩ := H
  exact h3.move (fl' := fl) O fun s' H' => h s' ⟨e, C, rfl, h1, h2, H'⟩
theorem cameBack (O : Okx c) {k : Cls} {l : Lab} {fl v : Value} (H : Hs c σ k l fl v s) (h : ∀ s', Xs c σ k l v s' → E v s') : cameBackBy (model prog c.w) c.A c.env E v s := by
  unfold cameBackBy
  have H' := H
  obtain ⟨e, C, rfl, h1, h2, h3⟩ := H
  obtain ⟨B, m, es, n, fr, a0, _, _, h4, _⟩ := h3.ex
  refine wpAny_bind (h4.field fun T => ?_)
  rw [if_neg (show ¬ ((Value.ref T == Value.none) = true) from by simp)]
  first
    | exact wpAny_bind (wpAny_pure (fly O H' c.env.frame fun s' H'' => let ⟨e', C', a, b, d, f⟩ := H''; h s' ⟨e', C', a, b, d, .inr f⟩))
    | exact fly O H' c.env.frame fun s' H'' => let ⟨e', C', a, b, d, f⟩ := H''; h s' ⟨e', C', a, b, d, .inr f⟩

theorem Held.there {e C : Addr} {fl : Value} (H : Held c σ e C fl s) : ∃ oe, s.heap.get? e = some oe ∧ oe.cls = .ref C := by
  obtain ⟨B, m, es, n, fr, a0, _, _, h4, _⟩ := H.ex
  obtain ⟨oe, _, _, _, _, he, hc, _⟩ := h4.traced
  exact ⟨oe, he, hc.1⟩

/-- the handler: hit or passed on -/
theorem handle (O : Okx c) {k : Cls} {l : Lab} {k' : Cls} {l' : Lab} {v : Value} {t : Expr} {p pos : Pos} {Q : Flow → Shared → Prop} (H : Hs c σ k' l' .none v s) (hk : labOk k l = true) (ht : ckName c.scope (Lab.name k l) true t = true)
    (hit : (k', l') = (k, l) → ∀ s', Rp c σ s' → Q .next s') (miss : (k', l') ≠ (k, l) → ∀ s', Xs c σ k' l' v s' → E v s') :
    wpAny (model prog c.w) c.A (handleBy v c.env [.ExceptHandler (some t) none [.Pass p] pos]) Q E s := by
  have H' := H
  obtain ⟨e, C', rfl, a1, a2, a3⟩ := H
  obtain ⟨p0, rfl, hl⟩ := ckName_of ht
  obtain ⟨C, b1, b2, b3, b4⟩ := O.sg.lab k l hk
  have R := a3.rp
  obtain ⟨m, es, n, fr, F, N, U, hs, hL, hD, hn⟩ := R.ex
  have X := O.X.keeps F.keep
  obtain ⟨oe, he, hcl⟩ := a3.there
  have LT : Looks (model prog c.w) s.heap (typeOf (.ref e)) (.ref C') := by
    have := (Looks.ld (M := model prog c.w) (part := none) he).andThen (f := fun o => pure o.cls) .now
    rw [hcl] at this
    exact this
  refine wpAny_handleBy_cons (codeAny_handlers_test (name_K F O.X O.T b1 ?_ O.kind (kindG O hl) (by cases k <;> cases l <;> decide))) (by intro q; cases q)
  by_cases q : (k', l') = (k, l)
  · obtain ⟨rfl, rfl⟩ := Prod.mk.inj q
    obtain rfl : C' = C := by rw [a2] at b1; cases b1; rfl
    refine (exm_one X LT b3).at ?_
    rw [if_pos rfl]
    dsimp only
    refine codeAny_handlers_suite (fly O H' none fun s' H'' => ?_)
    obtain ⟨e', C'', _, _, _, H3⟩ := H''
    refine wpAny_execs_cons ?_
    rw [arm_exec_Pass]
    exact wpAny_bind (wpAny_standAt (wpAny_pure (wpAny_execs_nil (hit rfl s' H3.rp))))
  · obtain ⟨C2, d1, d2⟩ := b4 k' l' a1 q
    obtain rfl : C' = C2 := by rw [a2] at d1; cases d1; rfl
    refine (exm_one X LT d2).at ?_
    rw [if_neg Bool.false_ne_true]
    dsimp only
    refine wpAny_handleBy_nil ?_
    unfold PySem.passOn
    obtain ⟨B, m, es, n, fr, a0, _, _, h4, _⟩ := a3.ex
    refine wpAny_bind (h4.field fun T => ?_)
    rw [if_neg (show ¬ ((Value.ref T == Value.none) = true) from by simp)]
    first
      | exact wpAny_bind (fly O H' c.env.frame fun s' H'' => wpAny_throw (let ⟨e', C', a, b, d, f⟩ := H''; miss q s' ⟨e', C', a, b, d, .inr f⟩))
      | exact wpAny_bind (wpAny_pure (wpAny_bind (fly O H' c.env.frame fun s' H'' => wpAny_throw (let ⟨e', C', a, b, d, f⟩ := H''; miss q s' ⟨e', C', a, b, d, .inr f⟩))))

theorem e_raise (O : Okx c) (R : Rp c σ s) {k : Cls} {l : Lab} {f : Expr} {cpos pos : Pos} {Q : Flow → Shared → Prop} (hk : labOk k l = true) (hf : ckName c.scope (Lab.name k l) true f = true) (h : ∀ v s', Xs c σ k l v s' → E v s') :
    wpAny (model prog c.w) c.A (exec (.Raise (some (.Call f [] [] cpos)) none pos) c.env) Q E s := by
  obtain ⟨p0, rfl, hl⟩ := ckName_of hf
  obtain ⟨C, b1, b2, _⟩ := O.sg.lab k l hk
  obtain ⟨m, es, n, fr, F, N, U, hs, hL, hD, hn⟩ := R.ex
  exact Raise_own0 F O.T.g (own_of_in O.X O.T b1 b2) PySem.F.excBase_Exception O.hand (fun h' e hx => h _ _ ⟨e, C, rfl, hk, b1, .inl ⟨s.heap, R, hx⟩⟩) O.kind (kindG O hl) (by cases k <;> cases l <;> decide)
end
end Sb
end

section
open PySem PySem.W PyProof.Rows PySem.Calls PySem.Spec
set_option Elab.async false
set_option maxRecDepth 100000
set_option linter.constructorNameAsVariable false
set_option linter.unusedVariables false
namespace Sb

theorem fm_congr {α β : Type} {f g : α → Option β} : ∀ {l : List α}, (∀ x ∈ l, f x = g x) → l.filterMap f = l.filterMap g
  | [], _ => rfl
  | x :: l, h => by rw [List.filterMap_cons, List.filterMap_cons, h x (.head _), fm_congr fun y hy => h y (.tail _ hy)]
theorem lookup_zip {α β : Type} [BEq α] [LawfulBEq α] : ∀ (ns : List α) (vs : List β), ns.Nodup → ns.length = vs.length → ns.filterMap (fun n => ((ns.zip vs).lookup n).map (n, ·)) = ns.zip vs ∧ ∀ n ∈ ns, ((ns.zip vs).lookup n).isSome = true
  | [], [], _, _ => ⟨rfl, fun _ h => nomatch h⟩
  | n :: ns, v :: vs, hn, hl => by
    obtain ⟨h1, h2⟩ := List.nodup_cons.mp hn
    obtain ⟨k1, k2⟩ := lookup_zip ns vs h2 (by simpa using hl)
    have hne : ∀ m ∈ ns, (m == n) = false := fun m hm => by
      cases q : m == n with
      | false => rfl
      | true => rw [eq_of_beq q] at hm; exact absurd hm h1
    refine ⟨?_, fun m hm => ?_⟩
    · rw [List.zip_cons_cons, List.filterMap_cons]
      simp only [List.lookup_cons, beq_self_eq_true, Option.map_some]
      congr 1
      refine Eq.trans (fm_congr fun m hm => ?_) k1
      simp only [hne m hm]
    · rw [List.zip_cons_cons, List.lookup_cons]
      rcases List.mem_cons.mp hm with rfl | hm
      · simp
      · rw [hne m hm]; exact k2 m hm
  | [], _ :: _, _, h => by cases h
  | _ :: _, [], _, h => by cases h

theorem bind_pos {fd : FuncData} {ps : List Arg} {args : List Value} (hp : fd.params = ⟨[], ps, none, [], [], none, []⟩) (hd : fd.defaults = .none) (hl : ps.length = args.length) (hn : (ps.map (·.arg)).Nodup) :
    bindArgs fd ⟨args, []⟩ = pure ((ps.map (·.arg)).zip args) := by
  unfold bindArgs
  simp only [hp, hd, List.map_nil, List.nil_append, List.append_nil, seqItems?, notAStandIn, List.forIn_nil]
  have hl' : (ps.map (·.arg)).length = args.length := by rw [List.length_map, hl]
  generalize ps.map (·.arg) = ns at hn hl'
  obtain ⟨k1, k2⟩ := lookup_zip ns args hn hl'
  have hg : ¬ (args.length > ns.length) := by omega
  have hm : (ns.filter fun n => ((ns.zip args).lookup n).isNone) = [] := by
    rw [List.filter_eq_nil_iff]
    intro n hn'
    have := k2 n hn'
    rw [Option.isNone_iff_eq_none]
    intro q
    rw [q] at this
    cases this
  have hm' : (ns.take ns.length).filter (fun n => ((ns.zip args).lookup n).isNone) = [] := by rw [List.take_length]; exact hm
  simp [hg, hm, hm', k1]

theorem noTwice_nodup : ∀ {l : List Loc}, noTwice l = true → l.Nodup
  | [], _ => .nil
  | x :: r, h => by
    obtain ⟨h1, h2⟩ := Bool.and_eq_true_iff.mp h
    exact List.nodup_cons.mpr ⟨by simpa using h1, noTwice_nodup h2⟩

structure CkM (params : Arguments) (sc : Scope) (body : List Stmt) (ps : List Loc) (b : List IS) : Prop where
  body : ckB sc b body = true
  params : ∃ as : List Arg, params = ⟨[], as, none, [], [], none, []⟩ ∧ as.map (·.arg) = ("self" : Str) :: ps.map Loc.name
  loc : isLoc sc "self" = true ∧ ∀ p ∈ ps, isLoc sc p.name = true
  twice : (("self" : Str) :: ps.map Loc.name).Nodup
  kind : sc.kind = .function
  co : sc.isCoroutine = false
  gen : sc.isGenerator = false
  cell : ∀ x ∈ sc.names, x.2 ≠ .cell
theorem zip_names : ∀ {as : List Arg} {ps : List Loc}, as.length = ps.length → ((as.zip ps).all fun (a, p) => seq a.arg p.name) = true → as.map (·.arg) = ps.map Loc.name
  | [], [], _, _ => rfl
  | a :: as, p :: ps, hl, h => by
    rw [List.zip_cons_cons, List.all_cons] at h
    obtain ⟨h1, h2⟩ := Bool.and_eq_true_iff.mp h
    rw [List.map_cons, List.map_cons, seq_eq h1, zip_names (by simpa using hl) h2]
  | [], _ :: _, h, _ => by cases h
  | _ :: _, [], h, _ => by cases h
theorem ckM_of {params : Arguments} {sc : Scope} {body : List Stmt} {ps : List Loc} {b : List IS} (h : ckM params sc body ps b = true) : CkM params sc body ps b := by
  unfold ckM at h
  simp only [Bool.and_eq_true] at h
  obtain ⟨⟨⟨⟨⟨⟨h1, h2⟩, h3⟩, h4⟩, h5⟩, h6⟩, h7⟩ := h
  split at h2
  · rename_i s as
    simp only [Bool.and_eq_true] at h2
    obtain ⟨⟨⟨⟨k1, k2⟩, k3⟩, k4⟩, k5⟩ := h2
    have k1' := seq_eq k1
    have hz := zip_names (by simpa using k2) k3
    refine ⟨h1, ⟨s :: as, rfl, by rw [List.map_cons, k1', hz]⟩, ⟨k1' ▸ k4, fun p hp => ?_⟩, List.nodup_cons.mpr ⟨fun hm => ?_, ?_⟩, ?_, by simpa using h5, by simpa using h6, fun x hx q => ?_⟩
    · have : p.name ∈ as.map (·.arg) := by rw [hz]; exact List.mem_map_of_mem hp
      obtain ⟨a, ha, e⟩ := List.mem_map.mp this
      have := List.all_eq_true.mp k5 a ha
      rw [← e]; exact this
    · obtain ⟨p, _, e⟩ := List.mem_map.mp hm
      exact p.name_self e
    · have := noTwice_nodup h3
      clear k2 k3 hz h1
      induction ps with
      | nil => exact .nil
      | cons p ps ih =>
        obtain ⟨j1, j2⟩ := List.nodup_cons.mp this
        obtain ⟨i1, i2⟩ := Bool.and_eq_true_iff.mp h3
        refine List.nodup_cons.mpr ⟨fun hm => ?_, ih i2 j2⟩
        obtain ⟨p', hp', e⟩ := List.mem_map.mp hm
        rw [Loc.name_inj e] at hp'
        exact j1 hp'
    · cases hk : sc.kind <;> rw [hk] at h4 <;> first | rfl | exact absurd h4 (by decide)
    · have := List.all_eq_true.mp h7 x hx
      rw [q] at this
      exact absurd this (by decide)
  · cases h2

section
variable {prog' : Program} {w : World} {A : Around} {R : Result → Shared → Prop} {s : Shared} {env : Env}
theorem while_turn {test : Expr} {body orelse : List Stmt}
    (h : wpAny (model prog' w) A (isTrue test env (eval test env)) (fun b s₂ =>
        if b then wpAny (model prog' w) A (execs body env) (fun f s₃ => match f with
            | .next | .cont => codeAny (model prog' w) A (.whileLoop test body orelse env) R s₃
            | .brk => R (.ok .next) s₃
            | .ret v => R (.ok (.ret v)) s₃) (notedBy (model prog' w) A env fun e s' => R (.error e) s') s₂
        else wpAny (model prog' w) A (execs orelse env) (fun f s₃ => R (.ok f) s₃) (notedBy (model prog' w) A env fun e s' => R (.error e) s') s₂)
        (notedBy (model prog' w) A env fun e s' => R (.error e) s') s) : codeAny (model prog' w) A (.whileLoop test body orelse env) R s := by
  refine codeAny_of_tree ?_
  show wpAny _ A ((whileTurn test body orelse env).onRaise (fun x => do noteFrame x env; theTreesLotGoes x)) _ _ s
  refine wpAny_noted ?_
  simp only [whileTurn]
  refine wpAny_bind (wpAny_mono h (fun b s₂ h₂ => ?_) fun _ _ h' => h')
  cases b with
  | false =>
    simp only [Bool.false_eq_true, if_false] at h₂ ⊢
    exact wpAny_bind (wpAny_mono h₂ (fun f s₃ h₃ => wpAny_pure h₃) fun _ _ h' => h')
  | true =>
    simp only [if_true] at h₂ ⊢
    refine wpAny_bind (wpAny_mono h₂ (fun f s₃ h₃ => ?_) fun _ _ h' => h')
    cases f with
    | next => exact wpAny_pure ⟨rfl, h₃⟩
    | cont => exact wpAny_pure ⟨rfl, h₃⟩
    | brk => exact wpAny_pure h₃
    | ret v => exact wpAny_pure h₃
theorem for_turn {target : Expr} {it : Value} {body orelse : List Stmt} (ht : ∀ v, letOwnedTupleGo target it v = pure ())
    (h : wpAny (model prog' w) A (pyNext it) (fun r s₁ => match r with
      | none => wpAny (model prog' w) A (execs orelse env) (fun f s₃ => R (.ok f) s₃) (notedBy (model prog' w) A env fun e s' => R (.error e) s') s₁
      | some v => wpAny (model prog' w) A (assign target env v) (fun _ s₂ => wpAny (model prog' w) A (execs body env) (fun f s₃ => match f with
          | .next | .cont => codeAny (model prog' w) A (.forLoop target it body orelse env) R s₃
          | .brk => R (.ok .next) s₃
          | .ret v => R (.ok (.ret v)) s₃) (notedBy (model prog' w) A env fun e s' => R (.error e) s') s₂) (notedBy (model prog' w) A env fun e s' => R (.error e) s') s₁) (notedBy (model prog' w) A env fun e s' => R (.error e) s') s) :
    codeAny (model prog' w) A (.forLoop target it body orelse env) R s := by
  refine codeAny_of_tree ?_
  show wpAny _ A ((forTurn target it body orelse env).onRaise (fun x => do noteFrame x env; theTreesLotGoes x)) _ _ s
  refine wpAny_noted ?_
  simp only [forTurn]
  refine wpAny_bind (wpAny_standAt (wpAny_bind (wpAny_onRaise (wpAny_mono h (fun r s₁ h₁ => ?_) fun _ _ h' => wpAny_standAt h'))))
  cases r with
  | none => exact wpAny_pure ⟨rfl, codeAny_block h₁⟩
  | some v =>
    refine wpAny_bind (wpAny_of_eq (ht v) ?_)
    refine wpAny_bind (wpAny_mono h₁ (fun _ s₂ h₂ => wpAny_bind (wpAny_mono h₂ (fun f s₃ h₃ => ?_) fun _ _ h' => h')) fun _ _ h' => h')
    cases f with
    | next => exact wpAny_pure ⟨rfl, h₃⟩
    | cont => exact wpAny_pure ⟨rfl, h₃⟩
    | brk => exact wpAny_pure h₃
    | ret v => exact wpAny_pure h₃
end

section
variable {c : Cx} {σ : St} {s : Shared}
/-- the frame of a call -/
def Cx.callee (c : Cx) (L : Addr) (oL : Obj) (fr : List (Addr × Obj)) (qual : Str) (scope : Scope) (f : Addr) (cd : Value) : Cx :=
  { c with A := c.A.deeper (envOf qual scope L f cd), L := L, qual := qual, scope := scope, fa := f, cd := cd, outer := c.env :: c.outer, frs := (c.L, oL) :: fr }

theorem rev_look (l : List (Str × Value)) : ∀ x, (l.map (·.1)).Nodup → l.reverse.lookup x = l.lookup x := by
  induction l with
  | nil => intro x _; rfl
  | cons p l ih =>
    intro x h
    rw [List.map_cons] at h
    obtain ⟨h1, h2⟩ := List.nodup_cons.mp h
    rw [List.reverse_cons, List.lookup_append, ih x h2]
    obtain ⟨k, v⟩ := p
    rw [List.lookup_cons]
    by_cases q : x = k
    · subst q
      have : l.lookup x = none := by
        rw [List.lookup_eq_none_iff]
        intro p hp
        simp only [beq_eq_false_iff_ne, ne_eq, bne_iff_ne]
        intro e
        exact h1 (List.mem_map.mpr ⟨p, hp, e.symm⟩)
      simp [this, List.lookup]
    · have hb : (x == k) = false := beq_eq_false_iff_ne.mpr q
      simp [hb, List.lookup]
theorem LR_zip : ∀ {ps : List Loc} {us : List Value} {vs : List MV}, OfAll us vs → ps.length = vs.length → LR (fun x => ((ps.map Loc.name).zip us).lookup x) (ps.zip vs)
  | [], [], [], _, _ => fun x v h => by cases h
  | p :: ps, u :: us, v :: vs, ⟨h1, h2⟩, hl => fun x v' h => by
    rw [List.zip_cons_cons] at h
    unfold getA at h
    dsimp only
    rw [List.map_cons, List.zip_cons_cons, List.lookup_cons]
    by_cases q : p = x
    · rw [if_pos q] at h
      cases h
      subst q
      exact ⟨u, by simp, h1⟩
    · rw [if_neg q] at h
      obtain ⟨u', k1, k2⟩ := LR_zip h2 (by simpa using hl) x v' h
      have : (x.name == p.name) = false := beq_eq_false_iff_ne.mpr fun e => q (Loc.name_inj e).symm
      exact ⟨u', by rw [this]; exact k1, k2⟩
  | [], _ :: _, _ :: _, _, h => by cases h
  | _ :: _, [], [], _, h => by cases h
  | _, [], _ :: _, h, _ => h.elim
  | _, _ :: _, [], h, _ => h.elim

theorem OfAll.length : ∀ {us : List Value} {vs : List MV}, OfAll us vs → us.length = vs.length
  | [], [], _ => rfl
  | _ :: _, _ :: _, h => by rw [List.length_cons, List.length_cons, OfAll.length h.2]
  | [], _ :: _, h => h.elim
  | _ :: _, [], h => h.elim

theorem enter (O : Okx c) (hlim : c.A.depth < recursionLimit) (R : Rp c σ s) {m : Mth} {ps : List Loc} {b : List IS} {vs : List MV} {us : List Value} {f : Addr} {Rs : Result → Shared → Prop}
    (hm : c.M m = some (ps, b)) (hl : ps.length = vs.length) (hf : findIn c.K (.ref c.C) m.name = some (some (.ref f))) (hu : OfAll us vs)
    (h : ∀ L oL fr qual scope cd body s', Okx (c.callee L oL fr qual scope f cd) → ckB scope b body = true → Rp (c.callee L oL fr qual scope f cd) ⟨σ.fld, ps.zip vs⟩ s' →
      (∀ σ' s'', Rp (c.callee L oL fr qual scope f cd) σ' s'' → Rp c ⟨σ'.fld, σ.loc⟩ s'') →
      wpAny (model prog c.w) (c.callee L oL fr qual scope f cd).A (execs body (c.callee L oL fr qual scope f cd).env)
        (fun fl s' => Rs (.ok (.ret (match fl with | .ret v => v | _ => .none))) s')
        (fun e s' => wpAny (model prog c.w) (c.callee L oL fr qual scope f cd).A (leaving (c.callee L oL fr qual scope f cd).env e) (fun _ s'' => Rs (.error e) s'') (fun e' s'' => Rs (.error e') s'') s') s') :
    codeAny (model prog c.w) c.A (.call (.ref f) ⟨.ref c.x :: us, []⟩) Rs s := by
  obtain ⟨f', qual, params, body, scope, kV, doc, pm, cdv, ct, oc, an, od, osl, nm, k1, k2, k3, k4, k5, k6⟩ := O.cls.mth m ps b hm
  obtain rfl : f' = f := by rw [hf] at k1; cases k1; rfl
  obtain ⟨ml, es, n, fr, F, N, U, hs, hL, hD, hn⟩ := R.ex
  obtain ⟨j1, ⟨as, j2, j3⟩, ⟨j4, j4'⟩, j5, j6, j7, j8, j9⟩ := ckM_of k6
  have X := O.X.keeps F.keep
  obtain ⟨oL, esL, epL, hoL, hdL, hkL, hfL⟩ := F.ns
  have hlen : as.length = ps.length + 1 := by have := congrArg List.length j3; simpa using this
  have hbind : bindArgs (fnOf nm qual params body scope .none kV doc pm an cdv ct) ⟨.ref c.x :: us, []⟩ = pure ((("self" : Str) :: ps.map Loc.name).zip (.ref c.x :: us)) := by
    rw [← j3]
    exact bind_pos j2 rfl (by rw [hlen, List.length_cons, hu.length, hl]) (by rw [j3]; exact j5)
  refine codeAny_call_def (fd := fnOf nm qual params body scope .none kV doc pm an cdv ct) (body := body) (binds := (("self" : Str) :: ps.map Loc.name).zip (.ref c.x :: us)) hlim (X _ _ k4) rfl (O.T.nolimit.keeps F.keep) (codeRec_of X k5) rfl (.of_eq hbind) j9 ?_ (fun h₁ hns hk₁ => ?_) j7 j8 j6
  · intro y hy
    have : y.1 ∈ (("self" : Str) :: ps.map Loc.name) := (List.of_mem_zip (a := y.1) (b := y.2) hy).1
    rcases List.mem_cons.mp this with e | e
    · rw [e]; have := j4; simpa [isLoc] using this
    · obtain ⟨p, hp, e⟩ := List.mem_map.mp e
      rw [← e]; have := j4' p hp; simpa [isLoc] using this
  · have hLs : c.L < s.heap.objs.size := Heap.lt_size hoL
    have ap := O.apart
    have hd : ∀ p ∈ (c.d, dictOf es n) :: (c.its ++ fr), p.1 ≠ c.L := fun p hp => (N p hp).2.1
    have apL : (c.d :: (c.its ++ ((c.L, oL) :: fr)).map (·.1)).Nodup := by
      have ap' : (c.d :: (c.its ++ fr).map (·.1)).Nodup := by rw [List.map_append, U.map, ← List.map_append]; exact ap
      have : (c.d :: (c.its ++ ((c.L, oL) :: fr)).map (·.1)).Perm (c.L :: c.d :: (c.its ++ fr).map (·.1)) := by
        simp only [List.map_append, List.map_cons]
        exact ((List.Perm.cons _ List.perm_middle).trans (List.Perm.swap _ _ _))
      refine this.nodup_iff.mpr (List.nodup_cons.mpr ⟨fun hm' => ?_, ap'⟩)
      rcases List.mem_cons.mp hm' with e | e
      · exact hd _ (.head _) e.symm
      · obtain ⟨p, hp, e⟩ := List.mem_map.mp e
        exact hd p (.tail _ hp) e
    have O' : Okx (c.callee s.heap.objs.size oL fr qual scope f' cdv) := by
      refine ⟨O.X, O.T, O.self, O.cls, O.sg, j6, O.hand, ?_, ?_, ?_, ?_⟩
      · exact Around.frames_deeper O.frames
      · intro e he
        rcases List.mem_cons.mp he with rfl | he
        · exact ⟨by show c.scope.kind ≠ .module; rw [O.kind]; decide, c.L, rfl, .head _⟩
        · obtain ⟨q1, b, q2, q3⟩ := O.out e he
          exact ⟨q1, b, q2, .tail _ (by rw [U.map]; exact q3)⟩
      · intro p hp vs q
        rcases List.mem_cons.mp hp with rfl | hp
        · rw [hdL] at q; cases q
        · obtain ⟨p', hp', _, sl, e⟩ := U.back p hp
          rw [e] at q
          exact O.isd p' hp' vs q
      · exact apL
    have gL : c.g.get? c.L = none := by
      cases q : c.g.get? c.L with
      | none => rfl
      | some o => exact absurd (Nat.lt_of_lt_of_le (Heap.lt_size q) F.above) (Nat.lt_irrefl _)
    have R' : Rp (c.callee s.heap.objs.size oL fr qual scope f' cdv) ⟨σ.fld, ps.zip vs⟩ { s with heap := h₁, toks := s.toks + ((("self" : Str) :: ps.map Loc.name).zip (.ref c.x :: us)).length } := by
      refine ⟨⟨_, es, n, (c.L, oL) :: fr, ⟨hns, fun b o q => hk₁ b o (F.keep b o q), Nat.le_trans F.above (Nat.le_of_lt hLs)⟩, ?_, ⟨rfl, ⟨oL.slots, rfl⟩, UpS.refl fr⟩, ?_, ?_, hD, hn⟩, R.gens, R.drawn, R.os⟩
      · intro p hp
        have hp' : p = (c.L, oL) ∨ p ∈ (c.d, dictOf es n) :: (c.its ++ fr) := by
          rcases List.mem_cons.mp hp with e | hp
          · exact .inr (e ▸ .head _)
          · rcases List.mem_append.mp hp with hp | hp
            · exact .inr (.tail _ (List.mem_append_left _ hp))
            · rcases List.mem_cons.mp hp with e | hp
              · exact .inl e
              · exact .inr (.tail _ (List.mem_append_right _ hp))
        rcases hp' with rfl | hp'
        · exact ⟨hk₁ _ _ hoL, Nat.ne_of_lt hLs, gL⟩
        · exact ⟨hk₁ _ _ (N p hp').1, Nat.ne_of_lt (Heap.lt_size (N p hp').1), (N p hp').2.2⟩
      · show List.lookup _ (List.reverse _) = _
        rw [rev_look _ _ (by rw [List.map_fst_zip (by rw [List.length_cons, List.length_cons, List.length_map, hu.length, hl]; exact Nat.le_refl _)]; exact j5)]
        rw [List.zip_cons_cons, List.lookup_cons]
        simp only [beq_self_eq_true]
        rfl
      · intro x v hx
        obtain ⟨u, q1, q2⟩ := LR_zip hu hl x v hx
        refine ⟨u, ?_, q2⟩
        show List.lookup _ (List.reverse _) = _
        rw [rev_look _ _ (by rw [List.map_fst_zip (by rw [List.length_cons, List.length_cons, List.length_map, hu.length, hl]; exact Nat.le_refl _)]; exact j5)]
        rw [List.zip_cons_cons, List.lookup_cons]
        have : (x.name == ("self" : Str)) = false := beq_eq_false_iff_ne.mpr x.name_self
        rw [this]
        exact q1
    refine h s.heap.objs.size oL fr qual scope cdv body _ O' j1 R' (fun σ' s'' R'' => ?_)
    obtain ⟨m₂, es₂, n₂, fr₂, F₂, N₂, U₂, _, _, hD₂, hn₂⟩ := R''.ex
    have U₂ : UpS ((c.L, oL) :: fr) fr₂ := U₂
    cases fr₂ with
    | nil => exact U₂.elim
    | cons q fr₂ =>
      obtain ⟨e1, ⟨sl, e2⟩, U₃⟩ := U₂
      have e1 : c.L = q.1 := e1
      have e2 : q.2 = { oL with slots := sl } := e2
      have N₂ : News c.g s.heap.objs.size s''.heap ((c.d, dictOf es₂ n₂) :: (c.its ++ (q :: fr₂))) := N₂
      have hL₂ : s''.heap.get? c.L = some { oL with slots := sl } := by
        have := (N₂ q (.tail _ (List.mem_append_right _ (.head _)))).1
        rw [← e1, e2] at this
        exact this
      refine ⟨⟨ml, es₂, n₂, fr₂, ⟨⟨_, esL, epL, hL₂, hdL, hkL, hfL⟩, F₂.keep, F.above⟩, fun p hp => ?_, U.trans U₃, hs, hL, hD₂, hn₂⟩, R''.gens, R''.drawn, R''.os⟩
      have hp' : p ∈ (c.d, dictOf es₂ n₂) :: (c.its ++ (q :: fr₂)) := by
        rcases List.mem_cons.mp hp with e | hp
        · exact e ▸ .head _
        · rcases List.mem_append.mp hp with hp | hp
          · exact .tail _ (List.mem_append_left _ hp)
          · exact .tail _ (List.mem_append_right _ (.tail _ hp))
      refine ⟨(N₂ p hp').1, fun e => ?_, (N₂ p hp').2.2⟩
      have hmem : p.1 ∈ c.d :: (c.its ++ fr).map (·.1) := by
        rcases List.mem_cons.mp hp with e | hp
        · rw [e]; exact .head _
        · refine .tail _ ?_
          rw [List.map_append, ← U₃.map, ← List.map_append]
          exact List.mem_map_of_mem hp
      rcases List.mem_cons.mp hmem with e' | e'
      · exact hd _ (.head _) (e' ▸ e)
      · obtain ⟨p', hp', e''⟩ := List.mem_map.mp e'
        exact hd p' (.tail _ hp') (e''.trans e)
end
end Sb
end

section
open PySem PySem.W PyProof.Rows PySem.Calls PySem.Spec
set_option Elab.async false
set_option maxRecDepth 100000
set_option linter.constructorNameAsVariable false
set_option linter.unusedVariables false
namespace Sb

def Ends (c : Cx) (o : Out) (σ' : St) (Q : Flow → Shared → Prop) (E : Value → Shared → Prop) : Prop := match o with
  | .next => ∀ s', Rp c σ' s' → Q .next s'
  | .brk => ∀ s', Rp c σ' s' → Q .brk s'
  | .ret v => ∀ u s', MV.of u = some v → Rp c σ' s' → Q (.ret u) s'
  | .exc k l => ∀ e s', Xs c σ' k l e s' → E e s'
def LEnds (c : Cx) (o : Out) (σ' : St) (R : Result → Shared → Prop) : Prop := match o with
  | .next => ∀ s', Rp c σ' s' → R (.ok .next) s'
  | .brk => ∀ r s', R r s'
  | .ret v => ∀ u s', MV.of u = some v → Rp c σ' s' → R (.ok (.ret u)) s'
  | .exc k l => ∀ e s', Hs c σ' k l (rawInt c.L) e s' → R (.error e) s'
def krsO (x left : Int) : Obj := { cls := .type "range_iterator", data := .fields #[rawInt x, rawInt left, rawInt (-1)] }
def Cx.push (c : Cx) (I : Addr) (o : Obj) : Cx := { c with its := (I, o) :: c.its }
def isName' (sc : Scope) (x : Loc) (t : Expr) : Bool := ckName sc x.name false t

def Snd (g : Sg) (M : Meths) (n : Nat) : Tk → Prop
  | .blk b σ o σ' => ∀ (c : Cx), Okx c → c.sg = g → c.M = M → c.A.depth + n ≤ recursionLimit → ∀ stmts, ckB c.scope b stmts = true → ∀ s Q E, Rp c σ s → Ends c o σ' Q E → wpAny (model prog c.w) c.A (execs stmts c.env) Q E s
  | .stm b σ o σ' => ∀ (c : Cx), Okx c → c.sg = g → c.M = M → c.A.depth + n ≤ recursionLimit → ∀ st, ckS c.scope b st = true → ∀ s Q E, Rp c σ s → Ends c o σ' Q E → wpAny (model prog c.w) c.A (exec st c.env) Q E s
  | .loop k b σ o σ' => ∀ (c : Cx), Okx c → c.sg = g → c.M = M → c.A.depth + n ≤ recursionLimit → ∀ test body, ckC c.scope k test = true → ckB c.scope b body = true → ∀ s R, Rp c σ s → LEnds c o σ' R → codeAny (model prog c.w) c.A (.whileLoop test body [] c.env) R s
  | .down x z b σ o σ' => ∀ (c : Cx) (I : Addr), Okx (c.push I (krsO z (z + 1))) → c.sg = g → c.M = M → c.A.depth + n ≤ recursionLimit → ∀ t body, ckName c.scope x.name false t = true → ckB c.scope b body = true → ∀ s R, Rp (c.push I (krsO z (z + 1))) σ s → LEnds c o σ' R →
      codeAny (model prog c.w) c.A (.forLoop t (.ref I) body [] c.env) R s
  | .mth m vs f v f' => ∀ (c : Cx), Okx c → c.sg = g → c.M = M → c.A.depth + n ≤ recursionLimit → ∀ fn us σ s R, findIn c.K (.ref c.C) m.name = some (some (.ref fn)) → OfAll us vs → σ.fld = f → Rp c σ s →
      (∀ u s', MV.of u = some v → Rp c { σ with fld := f' } s' → R (.ok (.ret u)) s') → codeAny (model prog c.w) c.A (.call (.ref fn) ⟨.ref c.x :: us, []⟩) R s

section
variable {c : Cx} {σ σ' : St} {s : Shared} {sc : Scope} {st : Stmt}

/-! inversions of the checker -/
theorem i_setL {x : Loc} {e : IX} (h : ckS sc (.setL x e) st = true) : ∃ t v p, st = .Assign [t] v p ∧ ckName sc x.name false t = true ∧ ckE sc e v = true := by
  unfold ckS at h; split at h
  · exact ⟨_, _, _, rfl, Bool.and_eq_true_iff.mp h⟩
  · cases h
theorem i_setF {x : Fld} {e : IX} (h : ckS sc (.setF x e) st = true) : ∃ t v p, st = .Assign [t] v p ∧ ckAttr sc "self" x.name false t = true ∧ ckE sc e v = true := by
  unfold ckS at h; split at h
  · exact ⟨_, _, _, rfl, Bool.and_eq_true_iff.mp h⟩
  · cases h
theorem i_augL {x : Loc} {e : IX} (h : ckS sc (.augL x e) st = true) : ∃ t v p, st = .AugAssign t .Add v p ∧ ckName sc x.name false t = true ∧ ckE sc e v = true := by
  unfold ckS at h; split at h
  · exact ⟨_, _, _, rfl, Bool.and_eq_true_iff.mp h⟩
  · cases h
theorem i_augF {x : Fld} {b : Bool} {e : IX} (h : ckS sc (.augF x b e) st = true) : ∃ t v p, st = .AugAssign t (if b then .Add else .Sub) v p ∧ ckAttr sc "self" x.name false t = true ∧ ckE sc e v = true := by
  unfold ckS at h; split at h
  · obtain ⟨h1, h3⟩ := Bool.and_eq_true_iff.mp h
    obtain ⟨h1, h2⟩ := Bool.and_eq_true_iff.mp h1
    subst h1
    exact ⟨_, _, _, rfl, h2, h3⟩
  · obtain ⟨h1, h3⟩ := Bool.and_eq_true_iff.mp h
    obtain ⟨h1, h2⟩ := Bool.and_eq_true_iff.mp h1
    obtain rfl : b = false := by simpa using h1
    exact ⟨_, _, _, rfl, h2, h3⟩
  · cases h
theorem i_ife {k : IX} {t e : List IS} (h : ckS sc (.ife k t e) st = true) : ∃ x b o p, st = .If x b o p ∧ ckC sc k x = true ∧ ckB sc t b = true ∧ ckB sc e o = true := by
  unfold ckS at h; split at h
  · obtain ⟨h1, h3⟩ := Bool.and_eq_true_iff.mp h
    obtain ⟨h1, h2⟩ := Bool.and_eq_true_iff.mp h1
    exact ⟨_, _, _, _, rfl, h1, h2, h3⟩
  · cases h
theorem i_ifNot {m : Mth} {as : List IX} {t : List IS} (h : ckS sc (.ifNot m as t) st = true) : ∃ x p b q, st = .If (.UnaryOp .Not x p) b [] q ∧ ckCall sc m as x = true ∧ ckB sc t b = true := by
  unfold ckS at h; split at h
  · exact ⟨_, _, _, _, rfl, Bool.and_eq_true_iff.mp h⟩
  · cases h
theorem i_ifZero {m : Mth} {as : List IX} {t : List IS} (h : ckS sc (.ifZero m as t) st = true) : ∃ x kk p1 p b q, st = .If (.Compare x [.Eq] [.Constant (.int 0) kk p1] p) b [] q ∧ ckCall sc m as x = true ∧ ckB sc t b = true := by
  unfold ckS at h; split at h
  · exact ⟨_, _, _, _, _, _, rfl, Bool.and_eq_true_iff.mp h⟩
  · cases h
theorem i_setC {x : Loc} {m : Mth} {as : List IX} (h : ckS sc (.setC x m as) st = true) : ∃ t v p, st = .Assign [t] v p ∧ ckName sc x.name false t = true ∧ ckCall sc m as v = true := by
  unfold ckS at h; split at h
  · exact ⟨_, _, _, rfl, Bool.and_eq_true_iff.mp h⟩
  · cases h
theorem i_call {m : Mth} {as : List IX} (h : ckS sc (.call m as) st = true) : ∃ v p, st = .Expr v p ∧ ckCall sc m as v = true := by
  unfold ckS at h; split at h
  · exact ⟨_, _, rfl, h⟩
  · cases h
theorem i_retC {m : Mth} {as : List IX} (h : ckS sc (.retC m as) st = true) : ∃ v p, st = .Return (some v) p ∧ ckCall sc m as v = true := by
  unfold ckS at h; split at h
  · exact ⟨_, _, rfl, h⟩
  · cases h
theorem i_whil {k : IX} {b : List IS} (h : ckS sc (.whil k b) st = true) : ∃ x y p, st = .While x y [] p ∧ ckC sc k x = true ∧ ckB sc b y = true := by
  unfold ckS at h; split at h
  · exact ⟨_, _, _, rfl, Bool.and_eq_true_iff.mp h⟩
  · cases h
theorem i_for {x : Loc} {e : IX} {b : List IS} (h : ckS sc (.fordown x e b) st = true) : ∃ t f u k1 p1 p2 k3 p3 p4 q y p, st = .For t (.Call f [u, .UnaryOp .USub (.Constant (.int 1) k1 p1) p2, .UnaryOp .USub (.Constant (.int 1) k3 p3) p4] [] q) y [] p ∧
    ckName sc x.name false t = true ∧ ckName sc "range" true f = true ∧ ckE sc e u = true ∧ ckB sc b y = true := by
  unfold ckS at h; split at h
  · obtain ⟨h1, h4⟩ := Bool.and_eq_true_iff.mp h
    obtain ⟨h1, h3⟩ := Bool.and_eq_true_iff.mp h1
    obtain ⟨h1, h2⟩ := Bool.and_eq_true_iff.mp h1
    exact ⟨_, _, _, _, _, _, _, _, _, _, _, _, rfl, h1, h2, h3, h4⟩
  · cases h
theorem i_try {b : List IS} {k : Cls} {l : Lab} (h : ckS sc (.tryx b k l) st = true) : ∃ y t p1 p2 q, st = .Try y [.ExceptHandler (some t) none [.Pass p1] p2] [] [] q ∧ labOk k l = true ∧ ckName sc (Lab.name k l) true t = true ∧ ckB sc b y = true := by
  unfold ckS at h; split at h
  · obtain ⟨h1, h3⟩ := Bool.and_eq_true_iff.mp h
    obtain ⟨h1, h2⟩ := Bool.and_eq_true_iff.mp h1
    exact ⟨_, _, _, _, _, rfl, h1, h2, h3⟩
  · cases h
theorem i_raise {k : Cls} {l : Lab} (h : ckS sc (.raise k l) st = true) : ∃ f cp p, st = .Raise (some (.Call f [] [] cp)) none p ∧ labOk k l = true ∧ ckName sc (Lab.name k l) true f = true := by
  unfold ckS at h; split at h
  · exact ⟨_, _, _, rfl, Bool.and_eq_true_iff.mp h⟩
  · cases h
theorem i_ret {e : IX} (h : ckS sc (.ret e) st = true) : ∃ v p, st = .Return (some v) p ∧ ckE sc e v = true := by
  unfold ckS at h; split at h
  · exact ⟨_, _, rfl, h⟩
  · cases h
theorem i_brk (h : ckS sc .brk st = true) : ∃ p, st = .Break p := by
  unfold ckS at h; split at h
  · exact ⟨_, rfl⟩
  · cases h
theorem i_pass (h : ckS sc .pass st = true) : ∃ p, st = .Pass p := by
  unfold ckS at h; split at h
  · exact ⟨_, rfl⟩
  · cases h
theorem i_asrt {e : IX} (h : ckS sc (.asrt e) st = true) : ∃ x p, st = .Assert x none p ∧ ckC sc e x = true := by
  unfold ckS at h; split at h
  · exact ⟨_, _, rfl, h⟩
  · cases h
theorem i_nil {stmts : List Stmt} (h : ckB sc [] stmts = true) : stmts = [] := by
  cases stmts with
  | nil => rfl
  | cons => exact absurd h (by unfold ckB; exact Bool.false_ne_true)
theorem i_cons {b : IS} {r : List IS} {stmts : List Stmt} (h : ckB sc (b :: r) stmts = true) : ∃ x y, stmts = x :: y ∧ ckS sc b x = true ∧ ckB sc r y = true := by
  cases stmts with
  | nil => exact absurd h (by unfold ckB; exact Bool.false_ne_true)
  | cons x y => unfold ckB at h; exact ⟨x, y, rfl, Bool.and_eq_true_iff.mp h⟩
theorem swaps_of {a : IX} {e : Expr} (h : ckE sc a e = true) (t : Option Expr) (l : Nat) (env : Env) : swapsWith e t l env = pure false := by
  cases e <;> first | rfl | skip
  all_goals
    exfalso
    cases a <;> try (exact absurd h Bool.false_ne_true)
    rename_i v
    cases v <;> exact absurd h Bool.false_ne_true
theorem swaps_call {m : Mth} {as : List IX} {e : Expr} (h : ckCall sc m as e = true) (t : Option Expr) (l : Nat) (env : Env) : swapsWith e t l env = pure false := by
  obtain ⟨_, _, _, _, rfl, _⟩ := ckCall_of h; rfl
theorem notTest_call {m : Mth} {as : List IX} {e : Expr} (h : ckCall sc m as e = true) (env : Env) (whole : Sem Value) : isTrue e env whole = (do let v ← whole; standAt e.pos; holding [v] (truthy v)) := by
  obtain ⟨_, _, _, _, rfl, _⟩ := ckCall_of h; rfl
theorem not_interactive (O : Okx c) : interactive c.env = false := by
  show (c.scope.kind == .module && _) = false
  rw [O.kind]; rfl

def nb : Tk → Bool
  | .loop _ _ _ o _ => (match o with | .brk => false | _ => true)
  | .down _ _ _ _ o _ => (match o with | .brk => false | _ => true)
  | _ => true
theorem noBrk {g : Sg} {M : Meths} {n : Nat} {t : Tk} (h : Ex g M n t) : nb t = true := by
  induction h <;> first | rfl | assumption

theorem Ends.of_loop {o : Out} {Q : Flow → Shared → Prop} {E : Value → Shared → Prop} (O : Okx c) (hb : o ≠ .brk) (h : Ends c o σ' Q E) :
    LEnds c o σ' (fun r s' => match r with | .ok f => Q f s' | .error e => cameBackBy (model prog c.w) c.A c.env E e s') := by
  cases o with
  | next => exact h
  | brk => exact absurd rfl hb
  | ret v => exact h
  | exc k l => exact fun e s' H => cameBack O H (h e)
end
end Sb
end

section
open PySem PySem.W PyProof.Rows PySem.Calls PySem.Spec
set_option Elab.async false
set_option maxRecDepth 100000
set_option linter.constructorNameAsVariable false
set_option linter.unusedVariables false
namespace Sb

section
variable {c : Cx} {σ σ' : St} {s : Shared} {E : Value → Shared → Prop}

theorem e_callS {g : Sg} {M : Meths} {n : Nat} (O : Okx c) (hg : c.sg = g) (hM : c.M = M) (hd : c.A.depth + n ≤ recursionLimit) (R : Rp c σ s) {m : Mth} {as : List IX} {e : Expr} {vs : List MV} {v : MV} {f' : List (Fld × MV)} {Q : Value → Shared → Prop}
    (hc : ckCall c.scope m as e = true) (hv : evs g σ as = some vs) (hx : Ex g M n (.mth m vs σ.fld v f')) (ih : Snd g M n (.mth m vs σ.fld v f')) (h : ∀ u s', MV.of u = some v → Rp c { σ with fld := f' } s' → Q u s') :
    wpAny (model prog c.w) c.A (eval e c.env) Q E s := by
  have hmm : ∃ ps b, M m = some (ps, b) := by
    cases hx with
    | mthR hz _ _ => exact ⟨_, _, hz⟩
    | mthN hz _ _ => exact ⟨_, _, hz⟩
  obtain ⟨ps, b, hmm⟩ := hmm
  refine e_call O R (by rw [hM]; exact hmm) hc (by rw [hg]; exact hv) fun f hf us s' hu R' => ?_
  exact ih c O hg hM hd f us σ s' _ hf hu rfl R' fun u s'' hu' R'' => h u s'' hu' R''

theorem int_ne_zero {z : Int} (h : z ≠ 0) : (z == 0) = false := by simpa using h

theorem r_pop {I : Addr} {o : Obj} (R : Rp (c.push I o) σ s) : Rp c σ s := by
  obtain ⟨m, es, n, fr, F, N, U, hs, hL, hD, hn⟩ := R.ex
  refine ⟨⟨m, es, n, fr, F, fun p hp => N p ?_, U, hs, hL, hD, hn⟩, R.gens, R.drawn, R.os⟩
  rcases List.mem_cons.mp hp with rfl | hp
  · exact .head _
  · exact .tail _ (.tail _ hp)
theorem o_upd {I : Addr} {o o' : Obj} (O : Okx (c.push I o)) : Okx (c.push I o') := ⟨O.X, O.T, O.self, O.cls, O.sg, O.kind, O.hand, O.frames, O.out, O.isd, O.apart⟩
theorem r_upd {I : Addr} {o o' : Obj} {h' : Heap} {k : Nat} (O : Okx (c.push I o)) (R : Rp (c.push I o) σ s) (hI : h'.get? I = some o') (hs : Heap.SameBut I s.heap h') : Rp (c.push I o') σ { s with heap := h', toks := k } := by
  obtain ⟨m, es, n, fr, F, N, U, hse, hL, hD, hn⟩ := R.ex
  have nI : s.heap.get? I = some o ∧ I ≠ c.L ∧ c.g.get? I = none := N (I, o) (.tail _ (.head _))
  have U : UpS c.frs fr := U
  have ap := O.apart
  have ap1 : ∀ p ∈ (c.d, dictOf es n) :: (c.its ++ fr), p.1 ≠ I := fun p hp e => by
    have hp' : p.1 ∈ c.d :: (c.its ++ c.frs).map (·.1) := by
      rcases List.mem_cons.mp hp with rfl | hp
      · exact .head _
      · refine .tail _ ?_
        rw [List.map_append, ← U.map, ← List.map_append]
        exact List.mem_map_of_mem hp
    rw [e] at hp'
    have ap' : (c.d :: I :: (c.its ++ c.frs).map (·.1)).Nodup := ap
    obtain ⟨q1, q2⟩ := List.nodup_cons.mp ap'
    obtain ⟨q3, q4⟩ := List.nodup_cons.mp q2
    rcases List.mem_cons.mp hp' with e' | e'
    · exact q1 (e' ▸ .head _)
    · exact q3 e'
  refine ⟨⟨m, es, n, fr, ⟨F.ns.sameBut hs (Ne.symm nI.2.1), fun b ob q => (hs.2 b fun e => ?_).trans (F.keep b ob q), F.above⟩, fun p hp => ?_, U, hse, hL, hD, hn⟩, R.gens, R.drawn, R.os⟩
  · have := nI.2.2
    rw [← e] at this
    have q' : c.g.get? b = some ob := q
    rw [q'] at this
    cases this
  · have hp' : p = (I, o') ∨ p ∈ (c.d, dictOf es n) :: (c.its ++ fr) := by
      rcases List.mem_cons.mp hp with rfl | hp
      · exact .inr (.head _)
      · rcases List.mem_cons.mp hp with rfl | hp
        · exact .inl rfl
        · exact .inr (.tail _ hp)
    rcases hp' with rfl | hp'
    · exact ⟨hI, nI.2⟩
    · have hp'' : p ∈ (c.d, dictOf es n) :: ((c.push I o).its ++ fr) := by
        rcases List.mem_cons.mp hp' with rfl | hp'
        · exact .head _
        · exact .tail _ (.tail _ hp')
      have := N p hp''
      exact ⟨(hs.2 p.1 (ap1 p hp')).trans this.1, this.2⟩
theorem r_extBut {I : Addr} {o : Obj} {h' : Heap} {k : Nat} (O : Okx (c.push I o)) (R : Rp (c.push I o) σ s) (hs : Heap.ExtBut I s.heap h') : Rp c σ { s with heap := h', toks := k } := by
  obtain ⟨m, es, n, fr, F, N, U, hse, hL, hD, hn⟩ := R.ex
  have nI : s.heap.get? I = some o ∧ I ≠ c.L ∧ c.g.get? I = none := N (I, o) (.tail _ (.head _))
  have U : UpS c.frs fr := U
  have ap := O.apart
  have ap1 : ∀ p ∈ (c.d, dictOf es n) :: (c.its ++ fr), p.1 ≠ I := fun p hp e => by
    have hp' : p.1 ∈ c.d :: (c.its ++ c.frs).map (·.1) := by
      rcases List.mem_cons.mp hp with rfl | hp
      · exact .head _
      · refine .tail _ ?_
        rw [List.map_append, ← U.map, ← List.map_append]
        exact List.mem_map_of_mem hp
    rw [e] at hp'
    have ap' : (c.d :: I :: (c.its ++ c.frs).map (·.1)).Nodup := ap
    obtain ⟨q1, q2⟩ := List.nodup_cons.mp ap'
    obtain ⟨q3, q4⟩ := List.nodup_cons.mp q2
    rcases List.mem_cons.mp hp' with e' | e'
    · exact q1 (e' ▸ .head _)
    · exact q3 e'
  refine ⟨⟨m, es, n, fr, ⟨F.ns.extBut hs (Ne.symm nI.2.1), fun b ob q => hs b ob (fun e => ?_) (F.keep b ob q), F.above⟩, fun p hp => ?_, U, hse, hL, hD, hn⟩, R.gens, R.drawn, R.os⟩
  · have := nI.2.2
    rw [← e] at this
    have q' : c.g.get? b = some ob := q
    rw [q'] at this
    cases this
  · have hp'' : p ∈ (c.d, dictOf es n) :: ((c.push I o).its ++ fr) := by
      rcases List.mem_cons.mp hp with rfl | hp'
      · exact .head _
      · exact .tail _ (.tail _ hp')
    have := N p hp''
    exact ⟨hs p.1 p.2 (ap1 p hp) this.1, this.2⟩
/-- a new object behind the ledger -/
theorem o_new {o : Obj} (O : Okx c) (R : Rp c σ s) (hf : o.isFreed = false) : Okx (c.push s.heap.objs.size o) ∧ Rp (c.push s.heap.objs.size o) σ { s with heap := s.heap.push o } := by
  obtain ⟨m, es, n, fr, F, N, U, hse, hL, hD, hn⟩ := R.ex
  have lt : ∀ b ∈ c.d :: (c.its ++ c.frs).map (·.1), b < s.heap.objs.size := fun b hb => by
    have : b ∈ ((c.d, dictOf es n) :: (c.its ++ fr)).map (·.1) := by
      rw [List.map_cons, List.map_append, U.map, ← List.map_append]; exact hb
    obtain ⟨p, hp, rfl⟩ := List.mem_map.mp this
    exact Heap.lt_size (N p hp).1
  refine ⟨⟨O.X, O.T, O.self, O.cls, O.sg, O.kind, O.hand, O.frames, O.out, O.isd, ?_⟩, ⟨m, es, n, fr, F.push o, fun p hp => ?_, U, hse, hL, hD, hn⟩, R.gens, R.drawn, R.os⟩
  · show (c.d :: s.heap.objs.size :: (c.its ++ c.frs).map (·.1)).Nodup
    have ap := O.apart
    obtain ⟨q1, q2⟩ := List.nodup_cons.mp ap
    refine List.nodup_cons.mpr ⟨fun hm => ?_, List.nodup_cons.mpr ⟨fun hm => ?_, q2⟩⟩
    · rcases List.mem_cons.mp hm with e | e
      · have := lt c.d (.head _); rw [e] at this; exact Nat.lt_irrefl _ this
      · exact q1 e
    · exact Nat.lt_irrefl _ (lt _ (.tail _ hm))
  · have N' := News.push F N o hf
    refine N' p ?_
    rcases List.mem_cons.mp hp with rfl | hp
    · exact .tail _ (.head _)
    · rcases List.mem_cons.mp hp with rfl | hp
      · exact .head _
      · exact .tail _ (.tail _ hp)

theorem e_rangeT (O : Okx c) (R : Rp c σ s) {T : Value → Shared → Prop} {f : Expr} (hc : ckName c.scope "range" true f = true) (h : T (.type "range") s) : wpAny (model prog c.w) c.A (eval f c.env) T E s := by
  obtain ⟨p, rfl, hl⟩ := ckName_of hc
  obtain ⟨m, es, n, fr, F, N, U, hs, hL, hD, hn'⟩ := R.ex
  exact name_B F O.X O.T O.sg.noRange (by first | rfl | boot_by_name) (by decide) h O.kind (kindG O hl) (by decide)

theorem sound {g : Sg} {M : Meths} {n : Nat} {t : Tk} (h : Ex g M n t) : Snd g M n t := by
  induction h with
  | nil =>
    intro c O hg hM hd stmts hc s Q E R h
    rw [i_nil hc]
    exact wpAny_execs_nil (h s R)
  | cons h1 h2 ih1 ih2 =>
    intro c O hg hM hd stmts hc s Q E R h
    obtain ⟨x, y, rfl, c1, c2⟩ := i_cons hc
    refine wpAny_execs_cons (ih1 c O hg hM hd x c1 s _ E R ?_)
    exact fun s' R' => ih2 c O hg hM hd y c2 s' Q E R' h
  | stop h1 ho ih =>
    intro c O hg hM hd stmts hc s Q E R h
    obtain ⟨x, y, rfl, c1, c2⟩ := i_cons hc
    refine wpAny_execs_cons (ih c O hg hM hd x c1 s _ E R ?_)
    rename_i o _
    cases o with
    | next => cases ho
    | brk => exact fun s' R' => h s' R'
    | ret v => exact fun u s' hu R' => h u s' hu R'
    | exc k l => exact fun e s' H => h e s' H
  | setL hv =>
    intro c O hg hM hd st hc s Q E R h
    obtain ⟨t, v, p, rfl, c1, c2⟩ := i_setL hc
    obtain ⟨p0, rfl, hl⟩ := ckName_of c1
    exact wpAny_Assign_Name (soundE O _ v c2 (by rw [hg]; exact hv) R fun u s' hu R' => e_storeL O R' hu hl fun s'' R'' => h s'' R'') (swaps_of c2 _ _ _)
  | setF hv =>
    intro c O hg hM hd st hc s Q E R h
    obtain ⟨t, v, p, rfl, c1, c2⟩ := i_setF hc
    obtain ⟨p0, p1, rfl, hl⟩ := ckAttr_of c1
    exact plainObj_wpAny_Assign_Attribute (soundE O _ v c2 (by rw [hg]; exact hv) R fun u s' hu R' => e_self O R' hl (e_setF O R' hu fun s'' R'' => h s'' R'')) (swaps_of c2 _ _ _)
  | augL hv =>
    intro c O hg hM hd st hc s Q E R h
    obtain ⟨t, v, p, rfl, c1, c2⟩ := i_augL hc
    obtain ⟨p0, rfl, hl⟩ := ckName_of c1
    unfold ev addV at hv
    split at hv
    · rename_i a b ha hb
      cases hv
      obtain ⟨m, es, n', fr, F, N, U, hs, hL, hD, hn⟩ := R.ex
      obtain ⟨old, ho, ho'⟩ := hL _ _ ha
      obtain ⟨t, rfl⟩ := of_int ho'
      refine wpAny_AugAssign_Name (ldn F ho ?_ O.kind (kindL O hl))
      refine soundE O _ v c2 (by rw [hg]; exact hb) R fun u s' hu R' => ?_
      obtain ⟨t', rfl⟩ := of_int hu
      exact PyProof.Rows.iadd_int (e_storeL O (R'.toks _) rfl hl fun s'' R'' => h s'' R'')
    · split at hv <;> cases hv
    · cases hv
  | augF hv =>
    rename_i f pl e σ z
    intro c O hg hM hd st hc s Q E R h
    obtain ⟨t, v, p, rfl, c1, c2⟩ := i_augF hc
    obtain ⟨p0, p1, rfl, hl⟩ := ckAttr_of c1
    cases pl with
    | true =>
      rw [if_pos rfl] at hv
      unfold ev addV at hv
      split at hv
      · rename_i a b ha hb
        cases hv
        refine wpAny_AugAssign_AttributeAny (e_self O R hl (get_fld O R ha fun u s' hu R' => ?_))
        obtain ⟨t, rfl⟩ := of_int hu
        refine soundE O _ v c2 (by rw [hg]; exact hb) R' fun u s' hu R' => ?_
        obtain ⟨t', rfl⟩ := of_int hu
        exact PyProof.Rows.iadd_int (e_setF O (R'.toks _) rfl fun s'' R'' => h s'' R'')
      · split at hv <;> cases hv
      · cases hv
    | false =>
      rw [if_neg Bool.false_ne_true] at hv
      unfold ev arI at hv
      split at hv
      · rename_i a b ha hb
        cases hv
        refine wpAny_AugAssign_AttributeAny (e_self O R hl (get_fld O R ha fun u s' hu R' => ?_))
        obtain ⟨t, rfl⟩ := of_int hu
        refine soundE O _ v c2 (by rw [hg]; exact hb) R' fun u s' hu R' => ?_
        obtain ⟨t', rfl⟩ := of_int hu
        exact PyProof.Rows.isub_int (e_setF O (R'.toks _) rfl fun s'' R'' => h s'' R'')
      · cases hv
  | iteT hv h1 ih =>
    intro c O hg hM hd st hc s Q E R h
    obtain ⟨x, b, o, p, rfl, c1, c2, c3⟩ := i_ife hc
    refine wpAny_If (soundC O _ x c1 (by rw [hg]; exact hv) R fun s' R' => ?_)
    rw [if_pos rfl]
    exact ih c O hg hM hd b c2 s' Q E R' h
  | iteF hv h1 ih =>
    intro c O hg hM hd st hc s Q E R h
    obtain ⟨x, b, o, p, rfl, c1, c2, c3⟩ := i_ife hc
    refine wpAny_If (soundC O _ x c1 (by rw [hg]; exact hv) R fun s' R' => ?_)
    rw [if_neg Bool.false_ne_true]
    exact ih c O hg hM hd o c3 s' Q E R' h
  | notT hv hx h1 ihx ih =>
    intro c O hg hM hd st hc s Q E R h
    obtain ⟨x, p, b, q, rfl, c1, c2⟩ := i_ifNot hc
    refine wpAny_If (isTrue_not (isTrue_plain (e_callS O hg hM hd R c1 hv hx ihx fun u s' hu R' => ?_) (notTest_call c1 _ _)))
    obtain rfl := of_bool hu
    refine wpAny_truthy_bool ?_
    rw [if_pos (by rfl)]
    exact ih c O hg hM hd b c2 s' Q E R' h
  | notF hv hx ihx =>
    intro c O hg hM hd st hc s Q E R h
    obtain ⟨x, p, b, q, rfl, c1, c2⟩ := i_ifNot hc
    refine wpAny_If (isTrue_not (isTrue_plain (e_callS O hg hM hd R c1 hv hx ihx fun u s' hu R' => ?_) (notTest_call c1 _ _)))
    obtain rfl := of_bool hu
    refine wpAny_truthy_bool ?_
    rw [if_neg (by decide)]
    exact wpAny_execs_nil (h s' R')
  | zeroT hv hx h1 ihx ih =>
    intro c O hg hM hd st hc s Q E R h
    obtain ⟨x, kk, p1, p, b, q, rfl, c1, c2⟩ := i_ifZero hc
    refine wpAny_If (wpAny_isTrue_Compare1 (e_callS O hg hM hd R c1 hv hx ihx fun u s' hu R' => ?_) rfl)
    obtain ⟨t, rfl⟩ := of_int hu
    refine wpAny_Constant_int (eq_int (wpAny_truthy_bool ?_))
    rw [if_pos (by rfl)]
    exact ih c O hg hM hd b c2 _ Q E (R'.toks _) h
  | zeroF hv hx hz ihx =>
    intro c O hg hM hd st hc s Q E R h
    obtain ⟨x, kk, p1, p, b, q, rfl, c1, c2⟩ := i_ifZero hc
    refine wpAny_If (wpAny_isTrue_Compare1 (e_callS O hg hM hd R c1 hv hx ihx fun u s' hu R' => ?_) rfl)
    obtain ⟨t, rfl⟩ := of_int hu
    refine wpAny_Constant_int (eq_int (wpAny_truthy_bool ?_))
    rw [int_ne_zero hz, if_neg Bool.false_ne_true]
    exact wpAny_execs_nil (h _ (R'.toks _))
  | setC hv hx ihx =>
    intro c O hg hM hd st hc s Q E R h
    obtain ⟨t, v, p, rfl, c1, c2⟩ := i_setC hc
    obtain ⟨p0, rfl, hl⟩ := ckName_of c1
    exact wpAny_Assign_Name (e_callS O hg hM hd R c2 hv hx ihx fun u s' hu R' => e_storeL O R' hu hl fun s'' R'' => h s'' R'') (swaps_call c2 _ _ _)
  | call hv hx ihx =>
    intro c O hg hM hd st hc s Q E R h
    obtain ⟨v, p, rfl, c1⟩ := i_call hc
    exact wpAny_Expr_any (e_callS O hg hM hd R c1 hv hx ihx fun u s' hu R' => h s' R') (not_interactive O) (swaps_call c1 _ _ _)
  | retC hv hx ihx =>
    intro c O hg hM hd st hc s Q E R h
    obtain ⟨v, p, rfl, c1⟩ := i_retC hc
    exact wpAny_Return_some (e_callS O hg hM hd R c1 hv hx ihx fun u s' hu R' => h u s' hu R')
  | whil h1 ih =>
    intro c O hg hM hd st hc s Q E R h
    obtain ⟨x, y, p, rfl, c1, c2⟩ := i_whil hc
    refine wpAny_While (ih c O hg hM hd x y c1 c2 s _ R (Ends.of_loop O ?_ h))
    intro e
    have := noBrk h1
    rw [e] at this
    cases this
  | loopF hv =>
    intro c O hg hM hd test body c1 c2 s Rr R h
    refine while_turn (soundC O _ test c1 (by rw [hg]; exact hv) R fun s' R' => ?_)
    rw [if_neg Bool.false_ne_true]
    exact wpAny_execs_nil (h s' R')
  | loopN hv h1 h2 ih1 ih2 =>
    intro c O hg hM hd test body c1 c2 s Rr R h
    refine while_turn (soundC O _ test c1 (by rw [hg]; exact hv) R fun s' R' => ?_)
    rw [if_pos rfl]
    refine ih1 c O hg hM hd body c2 s' _ _ R' fun s'' R'' => ?_
    exact ih2 c O hg hM hd test body c1 c2 s'' Rr R'' h
  | loopB hv h1 ih1 =>
    intro c O hg hM hd test body c1 c2 s Rr R h
    refine while_turn (soundC O _ test c1 (by rw [hg]; exact hv) R fun s' R' => ?_)
    rw [if_pos rfl]
    exact ih1 c O hg hM hd body c2 s' _ _ R' fun s'' R'' => h s'' R''
  | loopR hv h1 ih1 =>
    intro c O hg hM hd test body c1 c2 s Rr R h
    refine while_turn (soundC O _ test c1 (by rw [hg]; exact hv) R fun s' R' => ?_)
    rw [if_pos rfl]
    exact ih1 c O hg hM hd body c2 s' _ _ R' fun u s'' hu R'' => h u s'' hu R''
  | loopX hv h1 ih1 =>
    intro c O hg hM hd test body c1 c2 s Rr R h
    refine while_turn (soundC O _ test c1 (by rw [hg]; exact hv) R fun s' R' => ?_)
    rw [if_pos rfl]
    exact ih1 c O hg hM hd body c2 s' _ _ R' fun e s'' H => note O H fun s₃ H' => h e s₃ H'
  | forD hv hz1 hz2 h1 ih =>
    intro c O hg hM hd st hc s Q E R h
    rename_i x e b σ o σ' z
    obtain ⟨t, f, u, k1, p1, p2, k3, p3, p4, q, y, p, rfl, c1, c2, c3, c4⟩ := i_for hc
    obtain ⟨pf, rfl⟩ := isName c2
    refine wpAny_For (wpAny_Call_ofName (e_rangeT O R c2 ?_)) (fun _ => rfl)
    refine callWith_type1 (spliced_more (soundE O _ u c3 (by rw [hg]; exact hv) R fun uv s₁ hu R₁ => ?_) (star1 c3 _)) (star1 c3 _) rfl
    obtain ⟨tz, rfl⟩ := of_int hu
    refine spliced_more (wpAny_UnaryOp (wpAny_Constant_int (PySem.P.neg_int ?_))) rfl
    refine spliced_more (wpAny_UnaryOp (wpAny_Constant_int (PySem.P.neg_int ?_))) rfl
    refine spliced_none ?_
    refine call_range_3 (by decide) ?_ (.inl (PyProof.noPylong_small (by decide)))
    have hsz : Builtin.Range.rangeSize z (-1) (-1) = z + 1 := by
      rw [rangeSize_down]
      split <;> omega
    refine wpAny_pyIter_range (IsRange.new ..) (small_down (by omega) (by omega) (by omega) (by omega)) ?_
    rw [hsz]
    have R₂ := (((R₁.toks (s₁.toks + 1)).toks (s₁.toks + 1 + 1)).toks (s₁.toks + 1 + 1 + 1)).toks (s₁.toks + 1 + 1 + 1 + 1)
    obtain ⟨O₃, R₃⟩ := o_new (o := { cls := .type "range", data := .fields #[.int z tz, .int (-1) (s₁.toks + 1), .int (-1) (s₁.toks + 1 + 1 + 1)] }) O R₂ rfl
    have R₃ := r_pop R₃
    obtain ⟨O₄, R₄⟩ := o_new (o := krsO z (z + 1)) O R₃ rfl
    refine ih c _ O₄ hg hM hd t y c1 c4 _ _ R₄ (Ends.of_loop O ?_ h)
    intro e
    have := noBrk h1
    rw [e] at this
    cases this
  | downE hz =>
    intro c I O hg hM hd t body c1 c2 s Rr R h
    rename_i z
    obtain ⟨p0, rfl, hl⟩ := ckName_of c1
    obtain ⟨m, es, n, fr, F, N, U, hs, hL, hD, hn⟩ := R.ex
    have nI := N (I, krsO z (z + 1)) (.tail _ (.head _))
    refine for_turn (fun _ => rfl) (wpAny_pyNext_range_end O.hand nI.1 (by omega) fun h' hs' => ?_)
    exact wpAny_execs_nil (h _ (r_extBut O R hs'))
  | downN hz h1 h2 ih1 ih2 =>
    intro c I O hg hM hd t body c1 c2 s Rr R h
    rename_i z
    obtain ⟨p0, rfl, hl⟩ := ckName_of c1
    obtain ⟨m, es, n, fr, F, N, U, hs, hL, hD, hn⟩ := R.ex
    have nI := N (I, krsO z (z + 1)) (.tail _ (.head _))
    refine for_turn (fun _ => rfl) (wpAny_pyNext_range_item nI.1 (by omega) fun h' hi hs' => ?_)
    have hi' : h'.get? I = some (krsO (z - 1) (z - 1 + 1)) := by
      have : z + -1 = z - 1 := by omega
      have e2 : z + 1 - 1 = z - 1 + 1 := by omega
      rw [show krsO (z - 1) (z - 1 + 1) = { cls := .type "range_iterator", data := .fields #[rawInt (z + -1), rawInt (z + 1 - 1), rawInt (-1)] } from by rw [this, e2]; rfl]
      exact hi
    have O' : Okx (c.push I (krsO (z - 1) (z - 1 + 1))) := o_upd O
    have R' := r_upd (k := s.toks + 1) O R hi' hs'
    refine wpAny_assign_Name (e_storeL O' R' rfl hl fun s₂ R₂ => ?_)
    refine ih1 (c.push I (krsO (z - 1) (z - 1 + 1))) O' hg hM hd body c2 s₂ _ _ R₂ fun s₃ R₃ => ?_
    exact ih2 c I O' hg hM hd _ body c1 c2 s₃ Rr R₃ h
  | downB hz h1 ih1 =>
    intro c I O hg hM hd t body c1 c2 s Rr R h
    rename_i z
    obtain ⟨p0, rfl, hl⟩ := ckName_of c1
    obtain ⟨m, es, n, fr, F, N, U, hs, hL, hD, hn⟩ := R.ex
    have nI := N (I, krsO z (z + 1)) (.tail _ (.head _))
    refine for_turn (fun _ => rfl) (wpAny_pyNext_range_item nI.1 (by omega) fun h' hi hs' => ?_)
    have hi' : h'.get? I = some (krsO (z - 1) (z - 1 + 1)) := by
      have : z + -1 = z - 1 := by omega
      have e2 : z + 1 - 1 = z - 1 + 1 := by omega
      rw [show krsO (z - 1) (z - 1 + 1) = { cls := .type "range_iterator", data := .fields #[rawInt (z + -1), rawInt (z + 1 - 1), rawInt (-1)] } from by rw [this, e2]; rfl]
      exact hi
    have O' : Okx (c.push I (krsO (z - 1) (z - 1 + 1))) := o_upd O
    have R' := r_upd (k := s.toks + 1) O R hi' hs'
    refine wpAny_assign_Name (e_storeL O' R' rfl hl fun s₂ R₂ => ?_)
    exact ih1 (c.push I (krsO (z - 1) (z - 1 + 1))) O' hg hM hd body c2 s₂ _ _ R₂ fun s₃ R₃ => h s₃ (r_pop R₃)
  | tryN h1 ho ih =>
    intro c O hg hM hd st hc s Q E R h
    obtain ⟨y, t, p1, p2, q, rfl, c0, c1, c2⟩ := i_try hc
    refine wpAny_Try_except (ih c O hg hM hd y c2 s _ _ R ?_)
    rename_i o _
    cases o with
    | next => exact fun s' R' => wpAny_execs_nil (h s' R')
    | brk => exact fun s' R' => h s' R'
    | ret v => exact fun u s' hu R' => h u s' hu R'
    | exc k l => exact ho.elim
  | tryC h1 ih =>
    intro c O hg hM hd st hc s Q E R h
    obtain ⟨y, t, p1, p2, q, rfl, c0, c1, c2⟩ := i_try hc
    refine wpAny_Try_except (ih c O hg hM hd y c2 s _ _ R fun e s' H => ?_)
    exact note O H fun s₂ H₂ => fly O H₂ none fun s₃ H₃ => handle O H₃ c0 c1 (fun _ s' R' => h s' R') (fun q => absurd rfl q)
  | tryX h1 hne ih =>
    intro c O hg hM hd st hc s Q E R h
    obtain ⟨y, t, p1, p2, q, rfl, c0, c1, c2⟩ := i_try hc
    refine wpAny_Try_except (ih c O hg hM hd y c2 s _ _ R fun e s' H => ?_)
    exact note O H fun s₂ H₂ => fly O H₂ none fun s₃ H₃ => handle O H₃ c0 c1 (fun q => absurd q hne) (fun _ s' X => h e s' X)
  | raise =>
    intro c O hg hM hd st hc s Q E R h
    obtain ⟨f, cp, p, rfl, c0, c1⟩ := i_raise hc
    exact e_raise O R c0 c1 h
  | ret hv =>
    intro c O hg hM hd st hc s Q E R h
    obtain ⟨v, p, rfl, c1⟩ := i_ret hc
    exact wpAny_Return_some (soundE O _ v c1 (by rw [hg]; exact hv) R fun u s' hu R' => h u s' hu R')
  | brk =>
    intro c O hg hM hd st hc s Q E R h
    obtain ⟨p, rfl⟩ := i_brk hc
    exact wpAny_Break (h s R)
  | pass =>
    intro c O hg hM hd st hc s Q E R h
    obtain ⟨p, rfl⟩ := i_pass hc
    rw [arm_exec_Pass]
    exact wpAny_bind (wpAny_standAt (wpAny_pure (h s R)))
  | asrt hv =>
    intro c O hg hM hd st hc s Q E R h
    obtain ⟨x, p, rfl, c1⟩ := i_asrt hc
    exact wpAny_Assert_holds (soundC O _ x c1 (by rw [hg]; exact hv) R fun s' R' => ⟨rfl, h s' R'⟩)
  | mthR hm hl h1 ih =>
    intro c O hg hM hd fn us σ₀ s Rr hf hu hfl R h
    refine enter O (by omega) R (by rw [hM]; exact hm) hl hf hu fun L oL fr qual scope cd body s' O' hb R' back => ?_
    subst hfl
    exact ih _ O' hg hM (by show c.A.depth + 1 + _ ≤ _; omega) body hb s' _ _ R' fun u s'' hu' R'' => h u s'' hu' (back _ _ R'')
  | mthN hm hl h1 ih =>
    intro c O hg hM hd fn us σ₀ s Rr hf hu hfl R h
    refine enter O (by omega) R (by rw [hM]; exact hm) hl hf hu fun L oL fr qual scope cd body s' O' hb R' back => ?_
    subst hfl
    exact ih _ O' hg hM (by show c.A.depth + 1 + _ ≤ _; omega) body hb s' _ _ R' fun s'' R'' => h .none s'' rfl (back _ _ R'')
end
end Sb
end

section
open PySem PySem.W PyProof.Rows
set_option Elab.async false
set_option maxRecDepth 100000
namespace Sb

/-- what is known of a state: objects by address, the heap's size, the count of tokens -/
structure ST where
  tree : BT
  n : Nat
  toks : Nat

inductive Lf (α : Type) where
  | ok (a : α) (p : Pos) (s : ST)
  | er (e : Value) (p : Pos) (s : ST)
  | no
inductive Lc where
  | ok (f : Flow) (s : ST)
  | er (e : Value) (s : ST)
  | no

/-- a run of a code, out of runs of trees: fuel for `again` alone -/
def runC (den : Code → Sem Fin) (rc : Ctx → Pos → ST → Sem Fin → Lf Fin) : Nat → Ctx → Pos → ST → Sem Fin → Lc
  | 0, _, _, _, _ => .no
  | n + 1, Γ, p, s, t => match rc Γ p s t with
    | .ok (.done f) _ s' => .ok f s'
    | .ok (.again c) p' s' => (match c.quiet with
      | true => runC den rc n (Γ.goto c) p' s' (den c)
      | false => .no)
    | .er e _ s' => .er e s'
    | .no => .no
/-- a run of a tree -/
def run (den : Code → Sem Fin) (pr : Program) (P : Params) : Nat → {α : Type} → Ctx → Pos → ST → Sem α → Lf α
  | 0, _, _, _, _, _ => .no
  | n + 1, α, Γ, p, s, t => match t with
    | .pure a => .ok a p s
    | .raise e => .er e p s
    | .rule _ k => run den pr P n Γ p s (k ())
    | .at p' k => run den pr P n Γ p' s (k ())
    | .load a _ k => match s.tree.get a with
      | some o => (match alive o with
        | some o' => run den pr P n Γ p s (k o')
        | none => .no)
      | none => .no
    | .update a _ f k => match s.tree.get a with
      | some o => (match alive o with
        | some _ => run den pr P n Γ p ⟨s.tree.set a f, s.n, s.toks⟩ (k ())
        | none => .no)
      | none => .no
    | .loadIfAlive a k => match s.tree.get a with
      | some o => (match alive o with
        | some o' => run den pr P n Γ p s (k (some o'))
        | none => .no)
      | none => .no
    | .point _ k => run den pr P n Γ p s (k ())
    | .alloc o k => match ((s.tree.ins s.n o).get s.n).isSome with
      | true => run den pr P n Γ p ⟨s.tree.ins s.n o, s.n + 1, s.toks⟩ (k s.n)
      | false => .no
    | .fresh k => run den pr P n Γ p ⟨s.tree, s.n, s.toks + 1⟩ (k s.toks)
    | .ask k => run den pr P n Γ p s (k ⟨pr, P⟩)
    | .handled own k => run den pr P n Γ p s (k (match own with | true => Γ.own | false => Γ.handled))
    | .stack k => run den pr P n Γ p s (k ((Γ.code, p) :: Γ.below))
    | .thread k => run den pr P n Γ p s (k 0)
    | .call c h _ _ k => match runC den (fun Γ p s t => run den pr P n Γ p s t) n (Γ.enter c h p) p s (den c) with
      | .ok f s' => run den pr P n Γ p s' (k (.ok f))
      | .er e s' => run den pr P n Γ p s' (k (.error e))
      | .no => .no
    | _ => .no

/-- the state is known of a shared state -/
structure Rel (B : Shared) (S : ST) (s : Shared) : Prop where
  size : s.heap.objs.size = S.n
  toks : s.toks = S.toks
  tree : ∀ a o o', S.tree.get a = some o → alive o = some o' → s.heap.get? a = some o'
  gens : s.gens = B.gens
  drawn : s.drawn = B.drawn
  os : s.os = B.os

theorem alive_eq {o o' : Obj} (h : alive o = some o') : o' = o ∧ o.isFreed = false := by
  obtain ⟨c, d, dt, sl⟩ := o
  cases dt <;> simp [alive] at h <;> exact ⟨h.symm, rfl⟩

def Lf.Post {α : Type} (B : Shared) (Q : α → Pos → Shared → Prop) (E : Value → Pos → Shared → Prop) : Lf α → Prop
  | .ok a p S => ∀ s, Rel B S s → Q a p s
  | .er e p S => ∀ s, Rel B S s → E e p s
  | .no => False
def Lc.Post (B : Shared) (R : Result → Shared → Prop) : Lc → Prop
  | .ok f S => ∀ s, Rel B S s → R (.ok f) s
  | .er e S => ∀ s, Rel B S s → R (.error e) s
  | .no => False

section
variable {M : Model} {B : Shared}
theorem Rel.upd {S : ST} {s : Shared} {a : Addr} {o o' : Obj} {f : Obj → Obj} (h : Rel B S s) (hg : S.tree.get a = some o) (ha : alive o = some o') : Rel B ⟨S.tree.set a f, S.n, S.toks⟩ { s with heap := s.heap.update a f } := by
  obtain ⟨rfl, _⟩ := alive_eq ha
  have hs := h.tree a _ _ hg ha
  refine ⟨by rw [← h.size]; simp [Heap.update], h.toks, fun b x x' hb hx => ?_, h.gens, h.drawn, h.os⟩
  obtain ⟨rfl, hf⟩ := alive_eq hx
  dsimp only at hb
  rw [BT.get_set] at hb
  by_cases e : b = a
  · subst e
    rw [if_pos rfl, hg] at hb
    cases hb
    exact Heap.get?_update_self _ hs hf
  · rw [if_neg e] at hb
    exact (Heap.get?_update_ne _ _ _ _ e).trans (h.tree b _ _ hb hx)
theorem Rel.push {S : ST} {s : Shared} {o : Obj} (h : Rel B S s) (hg : ((S.tree.ins S.n o).get S.n).isSome = true) : Rel B ⟨S.tree.ins S.n o, S.n + 1, S.toks⟩ { s with heap := s.heap.push o } := by
  refine ⟨by rw [← h.size]; simp, h.toks, fun b x x' hb hx => ?_, h.gens, h.drawn, h.os⟩
  obtain ⟨rfl, hf⟩ := alive_eq hx
  dsimp only at hb
  rw [BT.get_ins _ _ _ hg] at hb
  by_cases e : b = S.n
  · subst e
    rw [if_pos rfl] at hb
    cases hb
    rw [← h.size]
    exact Heap.get?_push_size _ hf
  · rw [if_neg e] at hb
    exact Heap.get?_push_of_some _ (h.tree b _ _ hb hx)

theorem runC_wp {rc : Ctx → Pos → ST → Sem Fin → Lf Fin} (hrc : ∀ (Q : Fin → Pos → Shared → Prop) (E : Value → Pos → Shared → Prop) Γ p S t s, (rc Γ p S t).Post B Q E → Rel B S s → Sem.wp M Γ t Q E p s) :
    ∀ (n : Nat) (R : Result → Shared → Prop) (Γ : Ctx) (p : Pos) (S : ST) (s : Shared), (runC M.den rc n Γ p S (M.den Γ.code)).Post B R → Rel B S s → wpCode M Γ R p s
  | 0, _, _, _, _, _, h, _ => h.elim
  | n + 1, R, Γ, p, S, s, h, hr => by
    rw [wpCode_iff_wp]
    refine hrc _ _ Γ p S _ s ?_ hr
    unfold runC at h
    split at h
    · rename_i f p' S' e
      rw [e]
      exact fun s' h' => h s' h'
    · rename_i c p' S' e
      rw [e]
      split at h
      · rename_i hq
        exact fun s' h' => ⟨hq, runC_wp hrc n R (Γ.goto c) p' S' s' h h'⟩
      · exact h.elim
    · rename_i x p' S' e
      rw [e]
      exact fun s' h' => h s' h'
    · exact h.elim

theorem run_wp : ∀ (n : Nat) {α : Type} (Q : α → Pos → Shared → Prop) (E : Value → Pos → Shared → Prop) (Γ : Ctx) (p : Pos) (S : ST) (t : Sem α) (s : Shared), (run M.den M.prog M.w.params n Γ p S t).Post B Q E → Rel B S s → Sem.wp M Γ t Q E p s
  | 0, _, _, _, _, _, _, _, _, h, _ => h.elim
  | n + 1, α, Q, E, Γ, p, S, t, s, h, hr => by
    have ih := fun {α : Type} => @run_wp n α
    cases t with
    | pure a => exact h s hr
    | raise e => exact h s hr
    | rule tag k => exact ih Q E Γ p S (k ()) s h hr
    | «at» p' k => exact ih Q E Γ p' S (k ()) s h hr
    | load a q k =>
      rw [Sem.wp]
      unfold run at h
      dsimp only at h
      split at h
      · rename_i o ho
        split at h
        · rename_i o' ha
          exact ⟨o', hr.tree a o o' ho ha, ih Q E Γ p S (k o') s h hr⟩
        · exact h.elim
      · exact h.elim
    | update a q f k =>
      rw [Sem.wp]
      unfold run at h
      dsimp only at h
      split at h
      · rename_i o ho
        split at h
        · rename_i o' ha
          exact ⟨by rw [hr.tree a o o' ho ha]; rfl, ih Q E Γ p _ (k ()) _ h (hr.upd ho ha)⟩
        · exact h.elim
      · exact h.elim
    | loadIfAlive a k =>
      rw [Sem.wp]
      unfold run at h
      dsimp only at h
      split at h
      · rename_i o ho
        split at h
        · rename_i o' ha
          rw [hr.tree a o o' ho ha]
          exact ih Q E Γ p S (k (some o')) s h hr
        · exact h.elim
      · exact h.elim
    | point l k => exact ih Q E Γ p S (k ()) s h hr
    | alloc o k =>
      rw [Sem.wp]
      unfold run at h
      dsimp only at h
      split at h
      · rename_i hg
        rw [hr.size]
        exact ih Q E Γ p _ (k S.n) _ h (hr.push hg)
      · exact h.elim
    | fresh k =>
      rw [Sem.wp]
      rw [hr.toks]
      exact ih Q E Γ p ⟨S.tree, S.n, S.toks + 1⟩ (k S.toks) _ h ⟨hr.size, rfl, hr.tree, hr.gens, hr.drawn, hr.os⟩
    | ask k => exact ih Q E Γ p S (k ⟨M.prog, M.w.params⟩) s h hr
    | handled own k =>
      rw [Sem.wp]
      refine ih Q E Γ p S _ s ?_ hr
      cases own <;> exact h
    | stack k => exact ih Q E Γ p S (k ((Γ.code, p) :: Γ.below)) s h hr
    | thread k => exact ih Q E Γ p S (k 0) s h hr
    | call c h₀ g l k =>
      rw [Sem.wp]
      unfold run at h
      dsimp only at h
      refine runC_wp (rc := fun Γ p s t => run M.den M.prog M.w.params n Γ p s t) (fun Q E Γ p S t s h' hr' => ih Q E Γ p S t s h' hr') n _ (Γ.enter c h₀ p) p S s ?_ hr
      change Lc.Post B _ (runC M.den _ n _ p S (M.den c))
      split at h
      · rename_i f S' e
        rw [e]
        exact fun s' h' => ih Q E Γ p S' (k (.ok f)) s' h h'
      · rename_i x S' e
        rw [e]
        exact fun s' h' => ih Q E Γ p S' (k (.error x)) s' h h'
      · exact h.elim
    | _ => exact h.elim
end
end Sb
end

section
open PySem PySem.W PyProof.Rows
set_option Elab.async false
set_option maxRecDepth 100000
set_option linter.unusedVariables false
namespace Sb

/-- a set's datum, open -/
structure SD where
  es : Array (Int × Value)
  ep : Nat
  t : SetTable
def SD.none : SD := ⟨#[], 0, .fresh 0 0 true⟩
def setO (d : SD) : Obj := { cls := .type "set", dict := Option.none, data := .set d.es d.ep d.t, slots := #[] }
/-- d is a set of these strings, in whatever order -/
def IsSet (pr : Program) (w : World) (xs : List Str) (d : SD) : Prop := ∃ S : Str → Bool, (setO d).SetObjOf (PySem.strKind pr w) S xs.length ∧ ∀ k, S k = xs.contains k

theorem setO_of {o : Obj} {es : Array (Int × Value)} {ep : Nat} {t : SetTable} (h : o.ExactSet) (hd : o.data = .set es ep t) : o = setO ⟨es, ep, t⟩ := by
  obtain ⟨c, d, dt, sl⟩ := o
  obtain ⟨h1, h2, h3⟩ := h
  simp only at h1 h2 h3 hd
  subst h1 h2 h3 hd
  rfl

theorem push_lt (h : Heap) (o : Obj) {b : Addr} (hb : b < h.objs.size) : (h.push o).get? b = h.get? b := by
  unfold Heap.get? Heap.push
  simp only [Array.getElem?_push, Nat.ne_of_lt hb, if_false]

section
variable {pr : Program} {w : World} {A : Around} {E : Value → Shared → Prop} {s : Shared}

def litStrs : List Expr → Option (List Str)
  | [] => some []
  | .Constant (.str x) _ _ :: r => (litStrs r).map (x :: ·)
  | _ => none
def nodupS : List Str → Bool
  | [] => true
  | x :: r => !r.contains x && nodupS r

/-- what a display leaves -/
structure Left (s : Shared) (D : Addr) (k : Nat) (s' : Shared) : Prop where
  same : Heap.SameBut D s.heap s'.heap
  toks : s'.toks = s.toks + k
  gens : s'.gens = s.gens
  drawn : s'.drawn = s.drawn
  os : s'.os = s.os
theorem Left.trans {s s₁ s₂ : Shared} {D : Addr} {k l : Nat} (x : Left s D k s₁) (y : Left s₁ D l s₂) : Left s D (k + l) s₂ :=
  ⟨x.same.trans y.same, by rw [y.toks, x.toks]; omega, y.gens.trans x.gens, y.drawn.trans x.drawn, y.os.trans x.os⟩

theorem isl_add {D : Addr} {S : Str → Bool} {n : Nat} {x : Str} {t : Tok} {Q : Bool → Shared → Prop} (hS : s.heap.SetOf (PySem.strKind pr w) D S n) (hb : n + 1 < scanBound) (hx : S x = false)
    (h : ∀ s', Left s D 1 s' → s'.heap.SetOf (PySem.strKind pr w) D (fun k => S k || decide (k = x)) (n + 1) → Q true s') : wpAny (model pr w) A (setAdd D (.str x t)) Q E s := by
  have hkey := PySem.strKind_is pr w x t
  unfold setAdd
  refine wpAny_holding (wpAny_bind ((PySem.strKind pr w).pyHash hkey ?_))
  refine wpAny_setAddHashed_of (s := { s with toks := s.toks + 1 }) hkey rfl hS hb fun h' hsb hS' => ?_
  rw [hx, if_neg Bool.false_ne_true] at hS'
  rw [hx]
  exact h _ ⟨hsb, rfl, rfl, rfl, rfl⟩ hS'

def OfStrs : List Value → List Str → Prop
  | [], [] => True
  | v :: vs, x :: xs => (∃ t, v = .str x t) ∧ OfStrs vs xs
  | _, _ => False

theorem isl_fill {D : Addr} {Q : Value → Shared → Prop} : ∀ (vs : List Value) (xs : List Str) {S : Str → Bool} {n : Nat} {s : Shared}, OfStrs vs xs → nodupS xs = true → (∀ x ∈ xs, S x = false) → s.heap.SetOf (PySem.strKind pr w) D S n → n + xs.length < scanBound →
    (∀ s', Left s D xs.length s' → (∃ S', s'.heap.SetOf (PySem.strKind pr w) D S' (n + xs.length) ∧ ∀ k, S' k = (S k || xs.contains k)) → Q (.ref D) s') → KdsFill (model pr w) A E true D Q vs s
  | [], [], S, n, s, _, _, _, hS, hb, h => by
    refine kds_fill_unled rfl ?_
    obtain ⟨o, es, ep, t, ho, hex, hd, hel, hmem, hsz, hf, hn⟩ := hS
    have hf' : ({ t with led := false } : SetTable).fits es.size = true := by cases t; exact hf
    unfold setUnled
    refine wpAny_bind (wpAny_setState_of ho hd hf ?_)
    dsimp only
    refine wpAny_storeSet_of ho hd ?_ (fits_of_scanBound hsz)
    obtain ⟨_, hS⟩ := SetOf_store (knd := PySem.strKind pr w) ho hex hd hel hmem hsz hf'
    rw [hn] at hS
    exact h _ ⟨Heap.SameBut.update .., rfl, rfl, rfl, rfl⟩ ⟨S, hS, fun k => by simp⟩
  | v :: vs, x :: xs, S, n, s, hv0, hnd, hno, hS, hb, h => by
    obtain ⟨⟨t, rfl⟩, hvs⟩ := hv0
    obtain ⟨n1, n2⟩ := Bool.and_eq_true_iff.mp hnd
    have n1' : xs.contains x = false := by simpa using n1
    rw [List.length_cons] at hb
    refine kds_fill_cons (isl_add hS (by omega) (hno x (.head _)) fun s₁ L₁ hS₁ => ?_)
    refine isl_fill vs xs hvs n2 (fun y hy => ?_) hS₁ (by omega) fun s' L' ⟨S', hS', hk⟩ => ?_
    · rw [hno y (.tail _ hy), Bool.false_or]
      refine decide_eq_false fun e => ?_
      subst e
      have := List.contains_iff_mem.mpr hy
      rw [n1'] at this
      cases this
    · refine h s' ?_ ⟨S', ?_, fun k => ?_⟩
      · have := L₁.trans L'
        rw [Nat.add_comm 1] at this
        exact this
      · rw [List.length_cons, show n + (xs.length + 1) = n + 1 + xs.length by omega]
        exact hS'
      · rw [hk k, List.contains_cons, Bool.or_assoc]
        congr 2
  | [], _ :: _, _, _, _, h, _, _, _, _, _ => h.elim
  | _ :: _, [], _, _, _, h, _, _, _, _, _ => h.elim

theorem isl_consts {env : Env} {Q : List Value → Shared → Prop} : ∀ (es : List Expr) {s : Shared} {xs : List Str}, litStrs es = some xs → (∀ vs, OfStrs vs xs → Q vs { s with toks := s.toks + xs.length }) → KdsAll (model pr w) A E env es Q s
  | [], s, xs, hx, h => by cases hx; exact h [] trivial
  | e :: es, s, xs, hx, h => by
    unfold litStrs at hx
    split at hx
    · rename_i heq
      cases heq
    · rename_i x k p r heq
      cases heq
      obtain ⟨xs', hx', rfl⟩ := Option.map_eq_some_iff.mp hx
      refine wpAny_Constant_str ?_
      refine isl_consts es hx' fun vs hv => ?_
      have := h (.str x s.toks :: vs) ⟨⟨_, rfl⟩, hv⟩
      rw [List.length_cons] at this
      rw [show s.toks + 1 + xs'.length = s.toks + (xs'.length + 1) by omega]
      exact this
    · cases hx

theorem strs_plain : ∀ {es : List Expr} {xs : List Str}, litStrs es = some xs → es.all kdsPlain = true ∧ xs.length = es.length
  | [], _, h => by cases h; exact ⟨rfl, rfl⟩
  | e :: es, xs, h => by
    unfold litStrs at h
    split at h
    · rename_i heq
      cases heq
    · rename_i x k p r heq
      cases heq
      obtain ⟨xs', hx', rfl⟩ := Option.map_eq_some_iff.mp h
      obtain ⟨h1, h2⟩ := strs_plain hx'
      exact ⟨by rw [List.all_cons, h1]; rfl, by rw [List.length_cons, List.length_cons, h2]⟩
    · cases h

theorem island {elts : List Expr} {pos : Pos} {env : Env} {xs : List Str} {Q : Value → Shared → Prop} (K : Frag) (X : K.In s.heap) (hc : kdsCode K env.code = true) (hx : litStrs elts = some xs) (hn : nodupS xs = true) (hl : xs.length ≤ 30)
    (hroad : displayRoad 0 elts = .unsure)
    (h : ∀ s' d, s'.heap.objs.size = s.heap.objs.size + 1 → (∀ b, b ≠ s.heap.objs.size → s'.heap.get? b = s.heap.get? b) → s'.heap.get? s.heap.objs.size = some (setO d) → IsSet pr w xs d →
      s'.toks = s.toks + (xs.length + xs.length) → s'.gens = s.gens → s'.drawn = s.drawn → s'.os = s.os → Q (.ref s.heap.objs.size) s') :
    wpAny (model pr w) A (eval (.Set elts 0 pos) env) Q E s := by
  obtain ⟨hp, hlen⟩ := strs_plain hx
  rw [arm_eval_Set]
  refine wpAny_bind (wpAny_standAt ?_)
  refine wpAny_bind (kds_main X hc fun b => ?_)
  rw [kds_star elts hp, List.map_map]
  refine kds_core (ts := (evalEach elts env).map fun t => do let v ← t; standAt pos; pure v) (by rw [hroad]; rfl) ?_ ?_ ?_ fun led => ?_
  · refine List.findIdx?_eq_none_iff.mpr fun x hx => ?_
    obtain ⟨t, _, rfl⟩ := List.mem_map.mp hx
    rfl
  · rw [List.length_map, kds_len]; omega
  · rw [List.map_map]; try rfl
  · refine kds_all pos elts _ _ (isl_consts elts hx fun vs hv => ?_)
    rw [hroad]
    have hget : (s.heap.push { cls := .type "set", dict := none, data := .set #[] 0 (.fresh 0 0 led) }).get? s.heap.objs.size = some { cls := .type "set", dict := none, data := .set #[] 0 (.fresh 0 0 led) } := Heap.get?_push_size _ rfl
    have hS := (setObjOf_fresh (knd := PySem.strKind pr w) led).setOf hget (by decide)
    refine isl_fill vs xs hv hn (fun _ _ => rfl) hS (by show 0 + _ < 4096; omega) fun s' L ⟨S', hS', hk⟩ => ?_
    obtain ⟨o, ho, hso⟩ := hS'.objOf
    obtain ⟨es, ep, tb, hd, _⟩ := id hso.2
    have ho' : o = setO ⟨es, ep, tb⟩ := setO_of hso.1 hd
    refine h s' ⟨es, ep, tb⟩ ?_ (fun b hb => ?_) (by rw [← ho']; exact ho) ⟨S', by rw [← ho']; rw [Nat.zero_add] at hso; exact hso, fun k => by rw [hk k, Bool.false_or]⟩ ?_ L.gens L.drawn L.os
    · rw [L.same.1]; simp
    · rw [L.same.2 b hb]
      cases q : s.heap.get? b with
      | some o => exact Heap.get?_push_of_some _ q
      | none =>
        cases q' : (s.heap.push { cls := .type "set", dict := none, data := .set #[] 0 (.fresh 0 0 led) }).get? b with
        | none => rfl
        | some o =>
          exfalso
          have hlt := Heap.lt_size q'
          simp only [Heap.size_push] at hlt
          have : b < s.heap.objs.size := Nat.lt_of_le_of_ne (Nat.le_of_lt_succ hlt) hb
          rw [push_lt _ _ this] at q'
          rw [q] at q'
          cases q'
    · rw [L.toks]; show s.toks + xs.length + xs.length = _; omega
end
end Sb
end

section
open PySem PySem.W PyProof.Rows
set_option Elab.async false
set_option maxRecDepth 100000
set_option linter.unusedVariables false
namespace Sb

/-- a run of a tree to the first body that it calls -/
inductive Ls (α : Type) where
  | stop (stmts : List Stmt) (env : Env) (h : Option Value) (k : Result → Sem α) (p : Pos) (s : ST)
  | no
def runTo (den : Code → Sem Fin) (pr : Program) (P : Params) : Nat → {α : Type} → Ctx → Pos → ST → Sem α → Ls α
  | 0, _, _, _, _, _ => .no
  | n + 1, _, Γ, p, s, t => match t with
    | .rule _ k => runTo den pr P n Γ p s (k ())
    | .at p' k => runTo den pr P n Γ p' s (k ())
    | .load a _ k => match s.tree.get a with
      | some o => (match alive o with
        | some o' => runTo den pr P n Γ p s (k o')
        | none => .no)
      | none => .no
    | .update a _ f k => match s.tree.get a with
      | some o => (match alive o with
        | some _ => runTo den pr P n Γ p ⟨s.tree.set a f, s.n, s.toks⟩ (k ())
        | none => .no)
      | none => .no
    | .point _ k => runTo den pr P n Γ p s (k ())
    | .alloc o k => match ((s.tree.ins s.n o).get s.n).isSome with
      | true => runTo den pr P n Γ p ⟨s.tree.ins s.n o, s.n + 1, s.toks⟩ (k s.n)
      | false => .no
    | .fresh k => runTo den pr P n Γ p ⟨s.tree, s.n, s.toks + 1⟩ (k s.toks)
    | .ask k => runTo den pr P n Γ p s (k ⟨pr, P⟩)
    | .handled own k => runTo den pr P n Γ p s (k (match own with | true => Γ.own | false => Γ.handled))
    | .stack k => runTo den pr P n Γ p s (k ((Γ.code, p) :: Γ.below))
    | .thread k => runTo den pr P n Γ p s (k 0)
    | .call c h _ _ k => match c with
      | .body stmts env => .stop stmts env h k p s
      | c => (match runC den (fun Γ p s t => run den pr P n Γ p s t) n (Γ.enter c h p) p s (den c) with
        | .ok f s' => runTo den pr P n Γ p s' (k (.ok f))
        | .er e s' => runTo den pr P n Γ p s' (k (.error e))
        | .no => .no)
    | _ => .no

section
variable {M : Model} {B : Shared}
theorem runTo_wp : ∀ (n : Nat) {α : Type} (Q : α → Pos → Shared → Prop) (E : Value → Pos → Shared → Prop) (Γ : Ctx) (p : Pos) (S : ST) (t : Sem α) (s : Shared) {stmts : List Stmt} {env : Env} {h : Option Value} {k : Result → Sem α} {p' : Pos} {S' : ST},
    runTo M.den M.prog M.w.params n Γ p S t = .stop stmts env h k p' S' → Rel B S s →
    (∀ s', Rel B S' s' → wpCode M (Γ.enter (.body stmts env) h p') (fun r s'' => Sem.wp M Γ (k r) Q E p' s'') p' s') → Sem.wp M Γ t Q E p s
  | 0, _, _, _, _, _, _, _, _, _, _, _, _, _, _, e, _, _ => by cases e
  | n + 1, α, Q, E, Γ, p, S, t, s, stmts, env, hh, kk, p', S', e, hr, H => by
    have ih := fun {α : Type} => @runTo_wp n α
    cases t with
    | rule tag k => exact ih Q E Γ p S (k ()) s e hr H
    | «at» p₁ k => exact ih Q E Γ p₁ S (k ()) s e hr H
    | load a q k =>
      rw [Sem.wp]
      unfold runTo at e
      dsimp only at e
      split at e
      · rename_i o ho
        split at e
        · rename_i o' ha
          exact ⟨o', hr.tree a o o' ho ha, ih Q E Γ p S (k o') s e hr H⟩
        · cases e
      · cases e
    | update a q f k =>
      rw [Sem.wp]
      unfold runTo at e
      dsimp only at e
      split at e
      · rename_i o ho
        split at e
        · rename_i o' ha
          exact ⟨by rw [hr.tree a o o' ho ha]; rfl, ih Q E Γ p _ (k ()) _ e (hr.upd ho ha) H⟩
        · cases e
      · cases e
    | point l k => exact ih Q E Γ p S (k ()) s e hr H
    | alloc o k =>
      rw [Sem.wp]
      unfold runTo at e
      dsimp only at e
      split at e
      · rename_i hg
        rw [hr.size]
        exact ih Q E Γ p _ (k S.n) _ e (hr.push hg) H
      · cases e
    | fresh k =>
      rw [Sem.wp]
      rw [hr.toks]
      exact ih Q E Γ p ⟨S.tree, S.n, S.toks + 1⟩ (k S.toks) _ e ⟨hr.size, rfl, hr.tree, hr.gens, hr.drawn, hr.os⟩ H
    | ask k => exact ih Q E Γ p S (k ⟨M.prog, M.w.params⟩) s e hr H
    | handled own k =>
      rw [Sem.wp]
      cases own <;> exact ih Q E Γ p S _ s e hr H
    | stack k => exact ih Q E Γ p S (k ((Γ.code, p) :: Γ.below)) s e hr H
    | thread k => exact ih Q E Γ p S (k 0) s e hr H
    | call c h₀ g l k =>
      rw [Sem.wp]
      cases c with
      | body st en =>
        unfold runTo at e
        cases e
        exact H s hr
      | _ =>
        unfold runTo at e
        dsimp only at e
        refine runC_wp (rc := fun Γ p s t => run M.den M.prog M.w.params n Γ p s t) (fun Q E Γ p S t s h' hr' => run_wp n Q E Γ p S t s h' hr') n _ (Γ.enter _ h₀ p) p S s ?_ hr
        split at e
        · rename_i f S₁ e₁
          refine Eq.mpr (congrArg (Lc.Post B _) e₁) ?_
          exact fun s' h' => ih Q E Γ p S₁ (k (.ok f)) s' e h' H
        · rename_i x S₁ e₁
          refine Eq.mpr (congrArg (Lc.Post B _) e₁) ?_
          exact fun s' h' => ih Q E Γ p S₁ (k (.error x)) s' e h' H
        · cases e
    | _ => cases e
end

def codeOk (S : ST) (cd : Value) : Bool := match cd with
  | .ref c => (match S.tree.get c with
      | some o => (match alive o with
        | some ⟨_, _, .fields _, _⟩ => true
        | _ => false)
      | _ => false)
  | _ => false
theorem codeOk_of {B s : Shared} {S : ST} {cd : Value} (R : Rel B S s) (h : codeOk S cd = true) : ∃ K : Frag, K.In s.heap ∧ kdsCode K cd = true := by
  unfold codeOk at h
  split at h
  · rename_i c
    split at h
    · rename_i o ho
      split at h
      · rename_i oc od vs sl ha
        have := R.tree _ _ _ ho ha
        refine ⟨[(c, ⟨oc, od, .fields vs, sl⟩)], fun a o' q => ?_, ?_⟩
        · rw [List.lookup_cons] at q
          split at q
          · rename_i hb
            cases q
            rw [eq_of_beq hb]
            exact this
          · cases q
        · show (match ([(c, (⟨oc, od, .fields vs, sl⟩ : Obj))] : Frag).lookup c with | some ⟨_, _, .fields _, _⟩ => true | _ => false) = true
          simp [List.lookup]
      · cases h
    · cases h
  · cases h

/-- the displays at a class body's head: one datum each -/
def runSets (den : Code → Sem Fin) (pr : Program) (P : Params) (n : Nat) (Γ : Ctx) (env : Env) : List SD → List Stmt → Pos → ST → Option (Pos × ST × List Stmt × List (List Str))
  | [], stmts, p, S => some (p, S, stmts, [])
  | d :: ds, stmts, p, S => match stmts with
    | .Assign [.Name x pn] (.Set elts 0 ps) pa :: rest => match litStrs elts with
      | some xs => match nodupS xs && Nat.ble xs.length 30 && codeOk S env.code && decide (displayRoad 0 elts = .unsure) && ((S.tree.ins S.n (setO d)).get S.n).isSome with
        | true => match run den pr P n Γ pn ⟨S.tree.ins S.n (setO d), S.n + 1, S.toks + (xs.length + xs.length)⟩ (do bindName env x (.ref S.n); pure Flow.next) with
          | .ok .next p' S' => (match runSets den pr P n Γ env ds rest p' S' with
            | some (p₂, S₂, st, l) => some (p₂, S₂, st, xs :: l)
            | none => none)
          | _ => none
        | false => none
      | none => none
    | _ => none

def AllSets (pr : Program) (w : World) : List (List Str) → List SD → Prop
  | [], [] => True
  | xs :: l, d :: ds => IsSet pr w xs d ∧ AllSets pr w l ds
  | _, _ => False

def aroundOf (Γ : Ctx) : Around := { handled := Γ.handled, depth := frameCount Γ.below + Γ.code.weight, units := Γ.units }
theorem in_around (Γ : Ctx) : Γ.In (aroundOf Γ) := ⟨rfl, Nat.le_refl _, fun l h => (nomatch h), fun l h => (nomatch h), Nat.le_refl _⟩

section
variable {pr : Program} {w : World} {B : Shared} {den : Code → Sem Fin}

theorem runSets_wp (hden : denote table = den) {n : Nat} {Γ : Ctx} {env : Env} {Q : Flow → Pos → Shared → Prop} {E : Value → Pos → Shared → Prop} : ∀ (k : Nat) (stmts : List Stmt) (p : Pos) (S : ST) (s : Shared),
    (∀ ds : List SD, ds.length = k → ∃ r, runSets den pr w.params n Γ env ds stmts p S = some r) →
    (∀ ds p' S' rest l, ds.length = k → runSets den pr w.params n Γ env ds stmts p S = some (p', S', rest, l) → AllSets pr w l ds → ∀ s', Rel B S' s' → Sem.wp (model pr w) Γ (execs rest env) Q E p' s') →
    Rel B S s → Sem.wp (model pr w) Γ (execs stmts env) Q E p s
  | 0, stmts, p, S, s, _, H, R => H [] p S stmts [] rfl rfl trivial s R
  | k + 1, stmts, p, S, s, hs, H, R => by
    obtain ⟨r, hr⟩ := hs (List.replicate (k + 1) SD.none) (by simp)
    rw [List.replicate_succ] at hr
    unfold runSets at hr
    split at hr
    · rename_i x pn elts ps pa rest
      split at hr
      · rename_i xs hx
        split at hr
        · rename_i hb
          clear hr r
          have hb0 := hb
          simp only [Bool.and_eq_true, decide_eq_true_eq] at hb
          obtain ⟨⟨⟨⟨b1, b2⟩, b3⟩, b4⟩, _⟩ := hb
          obtain ⟨K, X, hK⟩ := codeOk_of R b3
          have b2' : xs.length ≤ 30 := Nat.le_of_ble_eq_true b2
          rw [execs_cons, Sem.wp_bind', exec_Assign_Name _ _ _ _ _ rfl, Sem.wp_bind', Sem.wp_cmd_standAt, Sem.wp_bind']
          refine island (w := w) (A := aroundOf Γ) (E := fun _ _ => False) (Q := fun v s' => ∀ p₁, Sem.wp (model pr w) Γ (do standAt pn; bindName env x v; pure Flow.next) (fun f p' s'' => Sem.wp (model pr w) Γ (match f with | .next => execs rest env | f => pure f) Q E p' s'') E p₁ s') K X hK hx b1 b2' b4 (fun s₁ d z1 z2 z3 z4 z5 z6 z7 z8 p₁ => ?_) Γ pa (in_around Γ) |> Sem.wp_mono (model pr w) Γ _ (fun v p₁ s₁ h => h p₁) (fun _ _ _ h => h.elim) _ _
          have hins : ((S.tree.ins S.n (setO d)).get S.n).isSome = true := by
            obtain ⟨r, hr⟩ := hs (d :: List.replicate k SD.none) (by simp)
            unfold runSets at hr
            simp only [hx] at hr
            split at hr
            · rename_i hq
              simp only [Bool.and_eq_true] at hq
              exact hq.2
            · cases hr
          have hq : (nodupS xs && Nat.ble xs.length 30 && codeOk S env.code && decide (displayRoad 0 elts = .unsure) && ((S.tree.ins S.n (setO d)).get S.n).isSome) = true := by
            rw [hins, Bool.and_true, Bool.and_eq_true, decide_eq_true_eq, Bool.and_eq_true, Bool.and_eq_true]
            exact ⟨⟨⟨b1, b2⟩, b3⟩, b4⟩
          have R₁ : Rel B ⟨S.tree.ins S.n (setO d), S.n + 1, S.toks + (xs.length + xs.length)⟩ s₁ := by
            refine ⟨by rw [z1, R.size], by rw [z5, R.toks], fun a o o' ho ha => ?_, z6.trans R.gens, z7.trans R.drawn, z8.trans R.os⟩
            dsimp only at ho
            rw [BT.get_ins _ _ _ hins] at ho
            by_cases e : a = S.n
            · rw [if_pos e] at ho
              cases ho
              obtain ⟨rfl, _⟩ := alive_eq ha
              rw [e, ← R.size]
              exact z3
            · rw [if_neg e] at ho
              rw [z2 a (by rw [R.size]; exact e)]
              exact R.tree a o o' ho ha
          rw [Sem.wp_bind', Sem.wp_cmd_standAt, R.size]
          have hrun : ∃ p' S', run den pr w.params n Γ pn ⟨S.tree.ins S.n (setO d), S.n + 1, S.toks + (xs.length + xs.length)⟩ (do bindName env x (.ref S.n); pure Flow.next) = .ok .next p' S' := by
            obtain ⟨r, hr⟩ := hs (d :: List.replicate k SD.none) (by simp)
            unfold runSets at hr
            simp only [hx, hq] at hr
            split at hr
            · exact ⟨_, _, ‹_›⟩
            · cases hr
          obtain ⟨p', S', hrun⟩ := hrun
          have step : ∀ ds : List SD, runSets den pr w.params n Γ env (d :: ds) (.Assign [.Name x pn] (.Set elts 0 ps) pa :: rest) p S = (match runSets den pr w.params n Γ env ds rest p' S' with
            | some (p₂, S₂, st, l) => some (p₂, S₂, st, xs :: l)
            | none => none) := fun ds => by
            rw [runSets]
            simp only [hx, hq, hrun]
          refine run_wp (M := model pr w) n _ E Γ pn _ _ s₁ (B := B) ?_ R₁
          rw [show (model pr w).den = den from hden]
          rw [show (model pr w).prog = pr from rfl, show (model pr w).w = w from rfl, hrun]
          intro s₂ R₂
          refine runSets_wp (n := n) hden k rest p' S' s₂ (fun ds hl => ?_) (fun ds p₂ S₂ st l hl e hA s₃ R₃ => ?_) R₂
          · obtain ⟨r, hr⟩ := hs (d :: ds) (by rw [List.length_cons, hl])
            rw [step] at hr
            split at hr
            · exact ⟨_, ‹_›⟩
            · cases hr
          · exact H (d :: ds) p₂ S₂ st (xs :: l) (by rw [List.length_cons, hl]) (by rw [step, e]) ⟨z4, hA⟩ s₃ R₃
        · cases hr
      · cases hr
    · cases hr
end
end Sb
end

section
open PySem PySem.W PyProof.Rows
set_option Elab.async false
set_option maxRecDepth 100000
set_option linter.unusedVariables false
namespace Sb

/-- a class statement whose body opens with displays -/
def runClass (den : Code → Sem Fin) (pr : Program) (P : Params) (n : Nat) (Γ : Ctx) (env : Env) (c : Stmt) (ds : List SD) (p : Pos) (S : ST) : Option (Pos × ST × List (List Str)) :=
  match runTo den pr P n Γ p S (exec c env) with
  | .stop stmts cenv h k p₁ S₁ => match run den pr P n (Γ.enter (.body stmts cenv) h p₁) p₁ S₁ (blockStart stmts cenv) with
    | .ok _ p₂ S₂ => match runSets den pr P n (Γ.enter (.body stmts cenv) h p₁) cenv ds stmts p₂ S₂ with
      | some (p₃, S₃, rest, l) => match run den pr P n (Γ.enter (.body stmts cenv) h p₁) p₃ S₃ (execs rest cenv) with
        | .ok .next _ S₄ => match run den pr P n Γ p₁ S₄ (k (.ok .next)) with
          | .ok .next p₅ S₅ => some (p₅, S₅, l)
          | _ => none
        | _ => none
      | none => none
    | _ => none
  | .no => none

/-- statements: m plain ones, then a class with its displays, and so on -/
def runPlan (den : Code → Sem Fin) (pr : Program) (P : Params) (n : Nat) (Γ : Ctx) (env : Env) : List Nat → List (List SD) → List Stmt → Pos → ST → Option (ST × List (List Str))
  | m :: ms, ds :: dss, stmts, p, S => match run den pr P n Γ p S (execs (stmts.take m) env) with
    | .ok .next p₁ S₁ => match stmts.drop m with
      | c :: rest => match runClass den pr P n Γ env c ds p₁ S₁ with
        | some (p₂, S₂, l) => match runPlan den pr P n Γ env ms dss rest p₂ S₂ with
          | some (S₃, l') => some (S₃, l ++ l')
          | none => none
        | none => none
      | [] => none
    | _ => none
  | [], [], stmts, p, S => match run den pr P n Γ p S (execs stmts env) with
    | .ok .next _ S₁ => some (S₁, [])
    | _ => none
  | _, _, _, _, _ => none

def runTop (den : Code → Sem Fin) (pr : Program) (P : Params) (n : Nat) (Γ : Ctx) (p : Pos) (S : ST) (t : Sem Fin) (ms : List Nat) (dss : List (List SD)) : Option (ST × List (List Str)) :=
  match runTo den pr P n Γ p S t with
  | .stop stmts env h k p₁ S₁ => match run den pr P n (Γ.enter (.body stmts env) h p₁) p₁ S₁ (blockStart stmts env) with
    | .ok _ p₂ S₂ => match runPlan den pr P n (Γ.enter (.body stmts env) h p₁) env ms dss stmts p₂ S₂ with
      | some (S₃, l) => match run den pr P n Γ p₁ S₃ (k (.ok .next)) with
        | .ok (.done _) _ S₄ => some (S₄, l)
        | _ => none
      | none => none
    | _ => none
  | .no => none

theorem AllSets.append {pr : Program} {w : World} : ∀ {l l' : List (List Str)} {ds ds' : List SD}, AllSets pr w l ds → AllSets pr w l' ds' → AllSets pr w (l ++ l') (ds ++ ds')
  | [], _, [], _, _, h => h
  | _ :: _, _, _ :: _, _, h, h' => ⟨h.1, AllSets.append h.2 h'⟩
  | [], _, _ :: _, _, h, _ => h.elim
  | _ :: _, _, [], _, h, _ => h.elim

section
variable {pr : Program} {w : World} {B : Shared} {den : Code → Sem Fin}

theorem onRaise_wp {α : Type} {M : Model} {Γ : Ctx} {m : Sem α} {f : Value → Sem Unit} {Q : α → Pos → Shared → Prop} {E : Value → Pos → Shared → Prop} {p : Pos} {s : Shared} (h : Sem.wp M Γ m Q (fun _ _ _ => False) p s) : Sem.wp M Γ (m.onRaise f) Q E p s := by
  rw [Sem.wp_onRaise]
  exact Sem.wp_mono M Γ m (fun _ _ _ x => x) (fun _ _ _ x => x.elim) _ _ h

theorem body_wp (hden : denote table = den) {n : Nat} {Γ : Ctx} {stmts : List Stmt} {env : Env} {R : Result → Shared → Prop} {p p₁ : Pos} {S S₁ : ST} {s : Shared} {u : Unit} (hc : Γ.code = .body stmts env) (hb : run den pr w.params n Γ p S (blockStart stmts env) = .ok u p₁ S₁) (hr : Rel B S s)
    (h : ∀ s₁, Rel B S₁ s₁ → Sem.wp (model pr w) Γ (execs stmts env) (fun f _ s' => R (.ok f) s') (fun _ _ _ => False) p₁ s₁) : wpCode (model pr w) Γ R p s := by
  rw [wpCode_iff_wp, hc]
  show Sem.wp (model pr w) Γ (do blockStart stmts env; return Fin.done (← (execs stmts env).onRaise (leaving env))) _ _ p s
  rw [Sem.wp_bind']
  refine run_wp (M := model pr w) n _ _ Γ p S _ s (B := B) ?_ hr
  rw [show (model pr w).den = den from hden, show (model pr w).prog = pr from rfl, show (model pr w).w = w from rfl, hb]
  intro s₁ R₁
  rw [Sem.wp_bind']
  exact onRaise_wp (h s₁ R₁)

theorem execs_take {M : Model} {Γ : Ctx} {env : Env} {Q : Flow → Pos → Shared → Prop} {E : Value → Pos → Shared → Prop} : ∀ (m : Nat) (stmts : List Stmt) {p : Pos} {s : Shared},
    Sem.wp M Γ (execs (stmts.take m) env) (fun f p' s' => match f with | .next => Sem.wp M Γ (execs (stmts.drop m) env) Q E p' s' | f => Q f p' s') E p s → Sem.wp M Γ (execs stmts env) Q E p s
  | 0, stmts, p, s, h => by
    rw [List.take_zero] at h
    exact h
  | m + 1, [], p, s, h => h
  | m + 1, st :: rest, p, s, h => by
    rw [List.take_succ_cons, execs_cons, Sem.wp_bind'] at h
    rw [execs_cons, Sem.wp_bind']
    refine Sem.wp_mono M Γ _ (fun f p' s' h' => ?_) (fun _ _ _ x => x) _ _ h
    cases f with
    | next => exact execs_take m rest h'
    | _ => exact h'

theorem runClass_wp (hden : denote table = den) {n : Nat} {Γ : Ctx} {env : Env} {c : Stmt} {k : Nat} {Q : Flow → Pos → Shared → Prop} {E : Value → Pos → Shared → Prop} {p : Pos} {S : ST} {s : Shared}
    (hs : ∀ ds : List SD, ds.length = k → ∃ r, runClass den pr w.params n Γ env c ds p S = some r)
    (H : ∀ ds p' S' l, ds.length = k → runClass den pr w.params n Γ env c ds p S = some (p', S', l) → AllSets pr w l ds → ∀ s', Rel B S' s' → Q .next p' s') (R : Rel B S s) :
    Sem.wp (model pr w) Γ (exec c env) Q E p s := by
  have hs' := hs
  obtain ⟨r, hr⟩ := hs (List.replicate k SD.none) (by simp)
  unfold runClass at hr
  split at hr
  · rename_i stmts cenv h kk p₁ S₁ e₁
    split at hr
    · rename_i u p₂ S₂ e₂
      clear hr r
      refine runTo_wp (M := model pr w) (B := B) n Q E Γ p S _ s (by rw [show (model pr w).den = den from hden]; exact e₁) R fun s₁ R₁ => ?_
      refine body_wp (B := B) hden rfl e₂ R₁ fun s₂ R₂ => ?_
      refine runSets_wp (B := B) (n := n) hden k stmts p₂ S₂ s₂ (fun ds hl => ?_) (fun ds p₃ S₃ rest l hl e₃ hA s₃ R₃ => ?_) R₂
      · obtain ⟨r, hr⟩ := hs' ds hl
        unfold runClass at hr
        simp only [e₁, e₂] at hr
        split at hr
        · exact ⟨_, ‹_›⟩
        · cases hr
      · obtain ⟨r, hr⟩ := hs' ds hl
        have hr0 := hr
        unfold runClass at hr
        simp only [e₁, e₂, e₃] at hr
        split at hr
        · rename_i p₄ S₄ e₄
          split at hr
          · rename_i p₅ S₅ e₅
            cases hr
            refine run_wp (M := model pr w) n _ _ _ p₃ S₃ _ s₃ (B := B) ?_ R₃
            rw [show (model pr w).den = den from hden, show (model pr w).prog = pr from rfl, show (model pr w).w = w from rfl, e₄]
            intro s₄ R₄
            refine run_wp (M := model pr w) n _ _ _ p₁ S₄ _ s₄ (B := B) ?_ R₄
            rw [show (model pr w).den = den from hden, show (model pr w).prog = pr from rfl, show (model pr w).w = w from rfl, e₅]
            intro s₅ R₅
            exact H ds p₅ S₅ l hl hr0 hA s₅ R₅
          · cases hr
        · cases hr
    · cases hr
  · cases hr

def Fits : List Nat → List (List SD) → Prop
  | [], [] => True
  | k :: ks, ds :: dss => ds.length = k ∧ Fits ks dss
  | _, _ => False
def someD : List Nat → List (List SD)
  | [] => []
  | k :: ks => List.replicate k SD.none :: someD ks
theorem someD_fits : ∀ ks, Fits ks (someD ks)
  | [] => trivial
  | k :: ks => ⟨by simp, someD_fits ks⟩

theorem runPlan_wp (hden : denote table = den) {n : Nat} {Γ : Ctx} {env : Env} {Q : Flow → Pos → Shared → Prop} {E : Value → Pos → Shared → Prop} : ∀ (ms ks : List Nat) (stmts : List Stmt) (p : Pos) (S : ST) (s : Shared), ms.length = ks.length →
    (∀ dss, Fits ks dss → ∃ r, runPlan den pr w.params n Γ env ms dss stmts p S = some r) →
    (∀ dss S' l, Fits ks dss → runPlan den pr w.params n Γ env ms dss stmts p S = some (S', l) → AllSets pr w l dss.flatten → ∀ p' s', Rel B S' s' → Q .next p' s') →
    Rel B S s → Sem.wp (model pr w) Γ (execs stmts env) Q E p s
  | [], [], stmts, p, S, s, _, hs, H, R => by
    obtain ⟨r, hr⟩ := hs [] trivial
    have hr0 := hr
    unfold runPlan at hr
    split at hr
    · rename_i p₁ S₁ e₁
      cases hr
      refine run_wp (M := model pr w) n _ _ Γ p S _ s (B := B) ?_ R
      rw [show (model pr w).den = den from hden, show (model pr w).prog = pr from rfl, show (model pr w).w = w from rfl, e₁]
      exact fun s₁ R₁ => H [] S₁ [] trivial hr0 trivial p₁ s₁ R₁
    · cases hr
  | m :: ms, k :: ks, stmts, p, S, s, hl, hs, H, R => by
    obtain ⟨r, hr⟩ := hs (someD (k :: ks)) (someD_fits _)
    unfold someD runPlan at hr
    split at hr
    · rename_i p₁ S₁ e₁
      split at hr
      · rename_i c rest e₂
        clear hr r
        refine execs_take m stmts ?_
        refine run_wp (M := model pr w) n _ _ Γ p S _ s (B := B) ?_ R
        rw [show (model pr w).den = den from hden, show (model pr w).prog = pr from rfl, show (model pr w).w = w from rfl, e₁]
        intro s₁ R₁
        dsimp only
        rw [e₂, execs_cons, Sem.wp_bind']
        refine runClass_wp (B := B) (n := n) (k := k) hden (fun ds hd => ?_) (fun ds p₂ S₂ l hd e₃ hA s₂ R₂ => ?_) R₁
        · obtain ⟨r, hr⟩ := hs (ds :: someD ks) ⟨hd, someD_fits _⟩
          unfold runPlan at hr
          simp only [e₁, e₂] at hr
          split at hr
          · exact ⟨_, ‹_›⟩
          · cases hr
        · dsimp only
          have step : ∀ dss, runPlan den pr w.params n Γ env (m :: ms) (ds :: dss) stmts p S = (match runPlan den pr w.params n Γ env ms dss rest p₂ S₂ with
              | some (S₃, l') => some (S₃, l ++ l')
              | none => none) := fun dss => by
            rw [runPlan]
            simp only [e₁, e₂, e₃]
          refine runPlan_wp (n := n) hden ms ks rest p₂ S₂ s₂ (by simpa using hl) (fun dss hf => ?_) (fun dss S₃ l' hf e₄ hA' p' s₃ R₃ => ?_) R₂
          · obtain ⟨r, hr⟩ := hs (ds :: dss) ⟨hd, hf⟩
            rw [step] at hr
            split at hr
            · exact ⟨_, ‹_›⟩
            · cases hr
          · exact H (ds :: dss) S₃ (l ++ l') ⟨hd, hf⟩ (by rw [step, e₄]) (by rw [List.flatten_cons]; exact hA.append hA') p' s₃ R₃
      · cases hr
    · cases hr
  | [], _ :: _, _, _, _, _, h, _, _, _ => by cases h
  | _ :: _, [], _, _, _, _, h, _, _, _ => by cases h

theorem runTop_wp (hden : denote table = den) {n : Nat} {Γ : Ctx} {t : Sem Fin} {ms ks : List Nat} {p : Pos} {S : ST} {s : Shared} (hl : ms.length = ks.length)
    (hs : ∀ dss, Fits ks dss → ∃ r, runTop den pr w.params n Γ p S t ms dss = some r) (R : Rel B S s) :
    Sem.wp (model pr w) Γ t (fun fin _ s' => ∃ f dss S' l, fin = .done f ∧ Fits ks dss ∧ runTop den pr w.params n Γ p S t ms dss = some (S', l) ∧ AllSets pr w l dss.flatten ∧ Rel B S' s') (fun _ _ _ => False) p s := by
  have hs' := hs
  obtain ⟨r, hr⟩ := hs (someD ks) (someD_fits _)
  unfold runTop at hr
  split at hr
  · rename_i stmts env h kk p₁ S₁ e₁
    split at hr
    · rename_i u p₂ S₂ e₂
      clear hr r
      refine runTo_wp (M := model pr w) (B := B) n _ _ Γ p S _ s (by rw [show (model pr w).den = den from hden]; exact e₁) R fun s₁ R₁ => ?_
      refine body_wp (B := B) hden rfl e₂ R₁ fun s₂ R₂ => ?_
      refine runPlan_wp (B := B) (n := n) hden ms ks stmts p₂ S₂ s₂ hl (fun dss hf => ?_) (fun dss S₃ l hf e₃ hA p' s₃ R₃ => ?_) R₂
      · obtain ⟨r, hr⟩ := hs' dss hf
        unfold runTop at hr
        simp only [e₁, e₂] at hr
        split at hr
        · exact ⟨_, ‹_›⟩
        · cases hr
      · obtain ⟨r, hr⟩ := hs' dss hf
        have hr0 := hr
        unfold runTop at hr
        simp only [e₁, e₂, e₃] at hr
        split at hr
        · rename_i f p₄ S₄ e₄
          cases hr
          refine run_wp (M := model pr w) n _ _ _ p₁ S₃ _ s₃ (B := B) ?_ R₃
          rw [show (model pr w).den = den from hden, show (model pr w).prog = pr from rfl, show (model pr w).w = w from rfl, e₄]
          exact fun s₄ R₄ => ⟨f, dss, S₄, l, rfl, hf, hr0, hA, R₄⟩
        · cases hr
    · cases hr
  · cases hr
end
end Sb
end

section
open PySem PySem.W PyProof.Rows
set_option Elab.async false
set_option maxRecDepth 100000
set_option linter.unusedVariables false
namespace Sb
abbrev prg : Program := PySem.Challenge.pw_bi0025_01
def q (s : String) : Str := Str.ofString s
def en (P : Params) (s : String) (t : Tok) (v : Value) : DictEntry := ⟨PyData.keyHash P (q s), .str (q s) t, v⟩
def defS : Option Stmt → Arguments × List Stmt × Scope
  | some (.FunctionDef _ a b _ _ _ sc _ _ _) => (a, b, sc)
  | _ => (⟨[], [], none, [], [], none, []⟩, [], default)
def defTop (i : Nat) : Arguments × List Stmt × Scope := defS (prg.main.body[i]?)
def defIn2 (i j : Nat) : Arguments × List Stmt × Scope := match prg.main.body[i]? with
  | some (.ClassDef _ _ _ b _ _ _ _ _ _ _) => defS (b[j]?)
  | _ => defS none
def fd (d : Arguments × List Stmt × Scope) (name : String) (qual : Str) (dV kV doc pm : Value) (an : Option Addr) (cd ct : Value) : FuncData :=
  { name := q name, qualname := qual, params := d.1, body := .stmts d.2.1, scope := d.2.2, globals := 3, closure := [], defaults := dV, kwdefaults := kV, doc := doc, pyModule := pm, annotations := an, code := cd, closureTuple := ct, builtins := 0 }
def gone : Obj := ⟨.none, none, .freed, #[]⟩

def o0 (P : Params) : Obj := ⟨(.type "dict"), none, (.dict #[en P "__name__" 1 (.str (q "builtins") 160), en P "__doc__" 2 (.builtin "builtins.__doc__:str#opaque"), en P "__package__" 3 (.builtin "builtins.__package__:str#opaque"), en P "__loader__" 4 (.builtin "builtins.__loader__:shared#opaque"), en P "__spec__" 5 (.builtin "builtins.__spec__#opaque"), en P "__build_class__" 6 (.builtin "__build_class__"), en P "__import__" 7 (.builtin "__import__"), en P "abs" 8 (.builtin "abs"), en P "all" 9 (.builtin "all"), en P "any" 10 (.builtin "any"), en P "ascii" 11 (.builtin "ascii"), en P "bin" 12 (.builtin "bin"), en P "breakpoint" 13 (.builtin "breakpoint"), en P "callable" 14 (.builtin "callable"), en P "chr" 15 (.builtin "chr"), en P "compile" 16 (.builtin "compile"), en P "delattr" 17 (.builtin "delattr"), en P "dir" 18 (.builtin "dir"), en P "divmod" 19 (.builtin "divmod"), en P "eval" 20 (.builtin "eval"), en P "exec" 21 (.builtin "exec"), en P "format" 22 (.builtin "format"), en P "getattr" 23 (.builtin "getattr"), en P "globals" 24 (.builtin "globals"), en P "hasattr" 25 (.builtin "hasattr"), en P "hash" 26 (.builtin "hash"), en P "hex" 27 (.builtin "hex"), en P "id" 28 (.builtin "id"), en P "input" 29 (.builtin "input"), en P "isinstance" 30 (.builtin "isinstance"), en P "issubclass" 31 (.builtin "issubclass"), en P "iter" 32 (.builtin "iter"), en P "aiter" 33 (.builtin "aiter"), en P "len" 34 (.builtin "len"), en P "locals" 35 (.builtin "locals"), en P "max" 36 (.builtin "max"), en P "min" 37 (.builtin "min"), en P "next" 38 (.builtin "next"), en P "anext" 39 (.builtin "anext"), en P "oct" 40 (.builtin "oct"), en P "ord" 41 (.builtin "ord"), en P "pow" 42 (.builtin "pow"), en P "print" 43 (.builtin "print"), en P "repr" 44 (.builtin "repr"), en P "round" 45 (.builtin "round"), en P "setattr" 46 (.builtin "setattr"), en P "sorted" 47 (.builtin "sorted"), en P "sum" 48 (.builtin "sum"), en P "vars" 49 (.builtin "vars"), en P "None" 50 .none, en P "Ellipsis" 51 .ellipsis, en P "NotImplemented" 52 .notImplemented, en P "False" 53 (.bool false), en P "True" 54 (.bool true), en P "bool" 55 (.type "bool"), en P "memoryview" 56 (.type "memoryview"), en P "bytearray" 57 (.type "bytearray"), en P "bytes" 58 (.type "bytes"), en P "classmethod" 59 (.type "classmethod"), en P "complex" 60 (.type "complex"), en P "dict" 61 (.type "dict"), en P "enumerate" 62 (.type "enumerate"), en P "filter" 63 (.type "filter"), en P "float" 64 (.type "float"), en P "frozenset" 65 (.type "frozenset"), en P "property" 66 (.type "property"), en P "int" 67 (.type "int"), en P "list" 68 (.type "list"), en P "map" 69 (.type "map"), en P "object" 70 (.type "object"), en P "range" 71 (.type "range"), en P "reversed" 72 (.type "reversed"), en P "set" 73 (.type "set"), en P "slice" 74 (.type "slice"), en P "staticmethod" 75 (.type "staticmethod"), en P "str" 76 (.type "str"), en P "super" 77 (.type "super"), en P "tuple" 78 (.type "tuple"), en P "type" 79 (.type "type"), en P "zip" 80 (.type "zip"), en P "__debug__" 81 (.bool true), en P "BaseException" 82 (.type "BaseException"), en P "BaseExceptionGroup" 83 (.type "BaseExceptionGroup"), en P "Exception" 84 (.type "Exception"), en P "GeneratorExit" 85 (.type "GeneratorExit"), en P "KeyboardInterrupt" 86 (.type "KeyboardInterrupt"), en P "SystemExit" 87 (.type "SystemExit"), en P "ArithmeticError" 88 (.type "ArithmeticError"), en P "AssertionError" 89 (.type "AssertionError"), en P "AttributeError" 90 (.type "AttributeError"), en P "BufferError" 91 (.type "BufferError"), en P "EOFError" 92 (.type "EOFError"), en P "ImportError" 93 (.type "ImportError"), en P "LookupError" 94 (.type "LookupError"), en P "MemoryError" 95 (.type "MemoryError"), en P "NameError" 96 (.type "NameError"), en P "OSError" 97 (.type "OSError"), en P "ReferenceError" 98 (.type "ReferenceError"), en P "RuntimeError" 99 (.type "RuntimeError"), en P "StopAsyncIteration" 100 (.type "StopAsyncIteration"), en P "StopIteration" 101 (.type "StopIteration"), en P "SyntaxError" 102 (.type "SyntaxError"), en P "SystemError" 103 (.type "SystemError"), en P "TypeError" 104 (.type "TypeError"), en P "ValueError" 105 (.type "ValueError"), en P "Warning" 106 (.type "Warning"), en P "FloatingPointError" 107 (.type "FloatingPointError"), en P "OverflowError" 108 (.type "OverflowError"), en P "ZeroDivisionError" 109 (.type "ZeroDivisionError"), en P "BytesWarning" 110 (.type "BytesWarning"), en P "DeprecationWarning" 111 (.type "DeprecationWarning"), en P "EncodingWarning" 112 (.type "EncodingWarning"), en P "FutureWarning" 113 (.type "FutureWarning"), en P "ImportWarning" 114 (.type "ImportWarning"), en P "PendingDeprecationWarning" 115 (.type "PendingDeprecationWarning"), en P "ResourceWarning" 116 (.type "ResourceWarning"), en P "RuntimeWarning" 117 (.type "RuntimeWarning"), en P "SyntaxWarning" 118 (.type "SyntaxWarning"), en P "UnicodeWarning" 119 (.type "UnicodeWarning"), en P "UserWarning" 120 (.type "UserWarning"), en P "BlockingIOError" 121 (.type "BlockingIOError"), en P "ChildProcessError" 122 (.type "ChildProcessError"), en P "ConnectionError" 123 (.type "ConnectionError"), en P "FileExistsError" 124 (.type "FileExistsError"), en P "FileNotFoundError" 125 (.type "FileNotFoundError"), en P "InterruptedError" 126 (.type "InterruptedError"), en P "IsADirectoryError" 127 (.type "IsADirectoryError"), en P "NotADirectoryError" 128 (.type "NotADirectoryError"), en P "PermissionError" 129 (.type "PermissionError"), en P "ProcessLookupError" 130 (.type "ProcessLookupError"), en P "TimeoutError" 131 (.type "TimeoutError"), en P "IndentationError" 132 (.type "IndentationError"), en P "_IncompleteInputError" 133 (.type "_IncompleteInputError"), en P "IndexError" 134 (.type "IndexError"), en P "KeyError" 135 (.type "KeyError"), en P "ModuleNotFoundError" 136 (.type "ModuleNotFoundError"), en P "NotImplementedError" 137 (.type "NotImplementedError"), en P "PythonFinalizationError" 138 (.type "PythonFinalizationError"), en P "RecursionError" 139 (.type "RecursionError"), en P "UnboundLocalError" 140 (.type "UnboundLocalError"), en P "UnicodeError" 141 (.type "UnicodeError"), en P "BrokenPipeError" 142 (.type "BrokenPipeError"), en P "ConnectionAbortedError" 143 (.type "ConnectionAbortedError"), en P "ConnectionRefusedError" 144 (.type "ConnectionRefusedError"), en P "ConnectionResetError" 145 (.type "ConnectionResetError"), en P "TabError" 146 (.type "TabError"), en P "UnicodeDecodeError" 147 (.type "UnicodeDecodeError"), en P "UnicodeEncodeError" 148 (.type "UnicodeEncodeError"), en P "UnicodeTranslateError" 149 (.type "UnicodeTranslateError"), en P "ExceptionGroup" 150 (.type "ExceptionGroup"), en P "EnvironmentError" 151 (.type "OSError"), en P "IOError" 152 (.type "OSError"), en P "open" 153 (.builtin "open"), en P "quit" 154 (.builtin "builtins.quit#opaque"), en P "exit" 155 (.builtin "builtins.exit#opaque"), en P "copyright" 156 (.builtin "builtins.copyright#opaque"), en P "credits" 157 (.builtin "builtins.credits#opaque"), en P "license" 158 (.builtin "builtins.license#opaque"), en P "help" 159 (.builtin "builtins.help#opaque")] 159), #[]⟩
def o1 (P : Params) : Obj := ⟨(.type "dict"), none, (.dict #[en P "builtins" 162 (.ref 4), en P "__main__" 163 (.ref 5)] 2), #[]⟩
def o2_0 (P : Params) : Obj := ⟨.none, none, (.dict #[] 0), #[]⟩
def o2_1 (P : Params) : Obj := ⟨.none, none, (.dict #[en P "type.__subclasses__.Exception.0" 1200 (.int (415) 0), en P "type.__subclasses__.Exception.n" 1201 (.int (3) 0), en P "type.__subclasses__.Exception.1" 1221 (.int (428) 0), en P "type.__subclasses__.Exception.2" 1242 (.int (441) 0)] 4), #[]⟩
def o2_2 (P : Params) : Obj := ⟨.none, none, (.dict #[en P "type.__subclasses__.Exception.0" 1200 (.int (415) 0), en P "type.__subclasses__.Exception.n" 1201 (.int (6) 0), en P "type.__subclasses__.Exception.1" 1221 (.int (428) 0), en P "type.__subclasses__.Exception.2" 1242 (.int (441) 0), en P "type.__subclasses__.Exception.3" 2169 (.int (678) 0), en P "type.__subclasses__.Exception.4" 2190 (.int (691) 0), en P "type.__subclasses__.Exception.5" 2211 (.int (704) 0)] 7), #[]⟩
def o2_3 (P : Params) : Obj := ⟨.none, none, (.dict #[en P "type.__subclasses__.Exception.0" 1200 (.int (415) 0), en P "type.__subclasses__.Exception.n" 1201 (.int (7) 0), en P "type.__subclasses__.Exception.1" 1221 (.int (428) 0), en P "type.__subclasses__.Exception.2" 1242 (.int (441) 0), en P "type.__subclasses__.Exception.3" 2169 (.int (678) 0), en P "type.__subclasses__.Exception.4" 2190 (.int (691) 0), en P "type.__subclasses__.Exception.5" 2211 (.int (704) 0), en P "type.__subclasses__.Exception.6" 3386 (.int (991) 0)] 8), #[]⟩
def o3_0 (P : Params) : Obj := ⟨(.type "dict"), none, (.dict #[en P "__name__" 165 (.str (q "__main__") 164), en P "__doc__" 166 .none, en P "__package__" 167 .none, en P "__loader__" 168 (.builtin "__main__.__loader__#opaque"), en P "__spec__" 169 .none, en P "__annotations__" 170 (.ref 6), en P "__builtins__" 171 (.ref 4), en P "__file__" 173 (.str (q "/claim/cut.py") 172), en P "__cached__" 174 .none] 9), #[]⟩
def o3_1 (P : Params) : Obj := ⟨(.type "dict"), none, (.dict #[en P "__name__" 165 (.str (q "snowballstemmer.danish_stemmer") 459), en P "__doc__" 166 .none, en P "__package__" 167 .none, en P "__loader__" 168 (.builtin "__main__.__loader__#opaque"), en P "__spec__" 169 .none, en P "__annotations__" 170 (.ref 6), en P "__builtins__" 171 (.ref 4), en P "__file__" 173 (.str (q "/claim/cut.py") 172), en P "__cached__" 174 .none, en P "_wall" 193 (.ref 21), en P "BaseStemmer" 423 (.ref 197), en P "Among" 458 (.ref 218), en P "DanishStemmer" 1183 (.ref 403)] 13), #[]⟩
def o3_2 (P : Params) : Obj := ⟨(.type "dict"), none, (.dict #[en P "__name__" 165 (.str (q "snowballstemmer.norwegian_stemmer") 1247), en P "__doc__" 166 .none, en P "__package__" 167 .none, en P "__loader__" 168 (.builtin "__main__.__loader__#opaque"), en P "__spec__" 169 .none, en P "__annotations__" 170 (.ref 6), en P "__builtins__" 171 (.ref 4), en P "__file__" 173 (.str (q "/claim/cut.py") 172), en P "__cached__" 174 .none, en P "_wall" 193 (.ref 21), en P "BaseStemmer" 423 (.ref 197), en P "Among" 458 (.ref 218), en P "DanishStemmer" 1183 (.ref 403), en P "lab0" 1203 (.ref 415), en P "lab0_danish_stemmer" 1204 (.ref 415), en P "lab1" 1224 (.ref 428), en P "lab1_danish_stemmer" 1225 (.ref 428), en P "lab2" 1245 (.ref 441), en P "lab2_danish_stemmer" 1246 (.ref 441), en P "NorwegianStemmer" 2152 (.ref 666)] 20), #[]⟩
def o3_3 (P : Params) : Obj := ⟨(.type "dict"), none, (.dict #[en P "__name__" 165 (.str (q "snowballstemmer.swedish_stemmer") 2216), en P "__doc__" 166 .none, en P "__package__" 167 .none, en P "__loader__" 168 (.builtin "__main__.__loader__#opaque"), en P "__spec__" 169 .none, en P "__annotations__" 170 (.ref 6), en P "__builtins__" 171 (.ref 4), en P "__file__" 173 (.str (q "/claim/cut.py") 172), en P "__cached__" 174 .none, en P "_wall" 193 (.ref 21), en P "BaseStemmer" 423 (.ref 197), en P "Among" 458 (.ref 218), en P "DanishStemmer" 1183 (.ref 403), en P "lab0" 1203 (.ref 678), en P "lab0_danish_stemmer" 1204 (.ref 415), en P "lab1" 1224 (.ref 691), en P "lab1_danish_stemmer" 1225 (.ref 428), en P "lab2" 1245 (.ref 704), en P "lab2_danish_stemmer" 1246 (.ref 441), en P "NorwegianStemmer" 2152 (.ref 666), en P "lab0_norwegian_stemmer" 2173 (.ref 678), en P "lab1_norwegian_stemmer" 2194 (.ref 691), en P "lab2_norwegian_stemmer" 2215 (.ref 704), en P "SwedishStemmer" 3369 (.ref 979)] 24), #[]⟩
def o3_4 (P : Params) : Obj := ⟨(.type "dict"), none, (.dict #[en P "__name__" 165 (.str (q "law_bi0025_01") 3391), en P "__doc__" 166 .none, en P "__package__" 167 .none, en P "__loader__" 168 (.builtin "__main__.__loader__#opaque"), en P "__spec__" 169 .none, en P "__annotations__" 170 (.ref 6), en P "__builtins__" 171 (.ref 4), en P "__file__" 173 (.str (q "/claim/cut.py") 172), en P "__cached__" 174 .none, en P "_wall" 193 (.ref 21), en P "BaseStemmer" 423 (.ref 197), en P "Among" 458 (.ref 218), en P "DanishStemmer" 1183 (.ref 403), en P "lab0" 1203 (.ref 991), en P "lab0_danish_stemmer" 1204 (.ref 415), en P "lab1" 1224 (.ref 691), en P "lab1_danish_stemmer" 1225 (.ref 428), en P "lab2" 1245 (.ref 704), en P "lab2_danish_stemmer" 1246 (.ref 441), en P "NorwegianStemmer" 2152 (.ref 666), en P "lab0_norwegian_stemmer" 2173 (.ref 678), en P "lab1_norwegian_stemmer" 2194 (.ref 691), en P "lab2_norwegian_stemmer" 2215 (.ref 704), en P "SwedishStemmer" 3369 (.ref 979), en P "lab0_swedish_stemmer" 3390 (.ref 991), en P "_law_signs" 3394 (.str (q "aåäæbcdeéêfghijklmnoòóôöøpqrstuvwxyzAÅ-7") 3393), en P "law" 3400 (.ref 999)] 27), #[]⟩
def o4 (P : Params) : Obj := ⟨(.type "module"), (some 0), .plain, #[]⟩
def o5 (P : Params) : Obj := ⟨(.type "module"), (some 3), .plain, #[]⟩
def o6 (P : Params) : Obj := ⟨(.type "dict"), none, (.dict #[] 0), #[]⟩
def o7 (P : Params) : Obj := ⟨(.type "tuple"), none, (.seq #[] 0), #[]⟩
def o8 (P : Params) : Obj := ⟨.none, none, (.fields #[]), #[]⟩
def o9 (P : Params) : Obj := ⟨(.type "code"), none, (.fields #[(.str (q "<module>") 176), (.str (q "<module>") 177), (.str (q "/claim/cut.py") 178), (.int (1) 0), (.int (0) 0), (.int (0) 0), (.int (0) 0), (.int (0) 0), (.ref 7), (.bool false), (.int (175) 0), (.ref 8), .none, .none, .none, .none, (.int (179) 0), (.int (1) 0), (.str (q "/claim/cut.py") 180)]), #[]⟩
def o10 (P : Params) : Obj := ⟨(.type "frame"), none, .plain, #[(some (.ref 9)), (some (.ref 3)), (some (.ref 3)), none, (some (.str (q "__main__") 164)), none, (some (.ref 0))]⟩
def o11 (P : Params) : Obj := ⟨(.type "tuple"), none, (.seq #[] 0), #[]⟩
def o12_0 (P : Params) : Obj := ⟨.none, none, (.fields #[]), #[]⟩
def o12_1 (P : Params) : Obj := ⟨.none, none, (.fields #[(.int (1) 0), (.int (0) 0), (.ref 20), (.int (5) 0), (.int (0) 0), (.ref 27), (.int (165) 0), (.int (0) 0), (.ref 207), (.int (172) 0), (.int (0) 0), (.ref 228)]), #[]⟩
def o12_2 (P : Params) : Obj := ⟨.none, none, (.fields #[(.int (1) 0), (.int (0) 0), (.ref 20), (.int (5) 0), (.int (0) 0), (.ref 27), (.int (165) 0), (.int (0) 0), (.ref 207), (.int (172) 0), (.int (0) 0), (.ref 228), (.int (342) 0), (.int (0) 0), (.ref 411), (.int (345) 0), (.int (0) 0), (.ref 424), (.int (348) 0), (.int (0) 0), (.ref 437), (.int (352) 0), (.int (0) 0), (.ref 450)]), #[]⟩
def o12_3 (P : Params) : Obj := ⟨.none, none, (.fields #[(.int (1) 0), (.int (0) 0), (.ref 20), (.int (5) 0), (.int (0) 0), (.ref 27), (.int (165) 0), (.int (0) 0), (.ref 207), (.int (172) 0), (.int (0) 0), (.ref 228), (.int (342) 0), (.int (0) 0), (.ref 411), (.int (345) 0), (.int (0) 0), (.ref 424), (.int (348) 0), (.int (0) 0), (.ref 437), (.int (352) 0), (.int (0) 0), (.ref 450), (.int (517) 0), (.int (0) 0), (.ref 674), (.int (520) 0), (.int (0) 0), (.ref 687), (.int (523) 0), (.int (0) 0), (.ref 700), (.int (527) 0), (.int (0) 0), (.ref 713)]), #[]⟩
def o12_4 (P : Params) : Obj := ⟨.none, none, (.fields #[(.int (1) 0), (.int (0) 0), (.ref 20), (.int (5) 0), (.int (0) 0), (.ref 27), (.int (165) 0), (.int (0) 0), (.ref 207), (.int (172) 0), (.int (0) 0), (.ref 228), (.int (342) 0), (.int (0) 0), (.ref 411), (.int (345) 0), (.int (0) 0), (.ref 424), (.int (348) 0), (.int (0) 0), (.ref 437), (.int (352) 0), (.int (0) 0), (.ref 450), (.int (517) 0), (.int (0) 0), (.ref 674), (.int (520) 0), (.int (0) 0), (.ref 687), (.int (523) 0), (.int (0) 0), (.ref 700), (.int (527) 0), (.int (0) 0), (.ref 713), (.int (675) 0), (.int (0) 0), (.ref 987), (.int (680) 0), (.int (0) 0), (.ref 998)]), #[]⟩
def o13 (P : Params) : Obj := ⟨(.type "code"), none, (.fields #[(.str (q "<module>") 182), (.str (q "<module>") 183), (.str (q "/claim/cut.py") 184), (.int (1) 0), (.int (0) 0), (.int (0) 0), (.int (0) 0), (.int (0) 0), (.ref 11), (.bool false), (.int (181) 0), (.ref 12), .none, .none, .none, .none, (.int (185) 0), (.int (1) 0), (.str (q "/claim/cut.py") 186)]), #[]⟩
def o14 (P : Params) : Obj := ⟨(.type "frame"), none, .plain, #[(some (.ref 13)), (some (.ref 3)), (some (.ref 3)), none, (some (.str (q "__main__") 164)), none, (some (.ref 0))]⟩
def o15 (P : Params) : Obj := ⟨(.type "tuple"), none, (.seq #[] 0), #[]⟩
def o16 (P : Params) : Obj := ⟨.none, none, (.fields #[]), #[]⟩
def o17 (P : Params) : Obj := ⟨(.type "tuple"), none, (.seq #[(.str (q "k") 190)] 0), #[]⟩
def o18 (P : Params) : Obj := ⟨(.type "tuple"), none, (.seq #[] 0), #[]⟩
def o20 (P : Params) : Obj := ⟨(.type "code"), none, (.fields #[(.str (q "_wall") 187), (.str (q "_wall") 188), (.str (q "/claim/cut.py") 189), (.int (1) 0), (.int (1) 0), (.int (0) 0), (.int (0) 0), (.int (3) 0), (.ref 15), (.bool true), (.int (181) 0), (.ref 16), .none, (.ref 17), (.ref 18), (.ref 19), (.int (191) 0), (.int (1) 0), (.str (q "/claim/cut.py") 192)]), #[]⟩
def o21 (P : Params) : Obj := ⟨(.type "function"), none, (.func (fd (defTop 0) "_wall" (q "_wall") .none .none .none (.str (q "__main__") 164) none (.ref 20) .none)), #[]⟩
def o22 (P : Params) : Obj := ⟨(.type "tuple"), none, (.seq #[] 0), #[]⟩
def o23 (P : Params) : Obj := ⟨(.type "builtin_function_or_method"), none, (.fields #[(.builtin "type.__prepare__"), (.type "type")]), #[]⟩
def o24 (P : Params) : Obj := ⟨(.type "dict"), none, (.dict #[en P "__module__" 203 (.str (q "snowballstemmer.basestemmer") 194), en P "__qualname__" 205 (.str (q "BaseStemmer") 204), en P "__firstlineno__" 207 (.int (5) 206), en P "__init__" 214 (.ref 35), en P "set_current" 222 (.ref 42), en P "get_current" 229 (.ref 49), en P "copy_from" 237 (.ref 56), en P "in_grouping" 245 (.ref 63), en P "go_in_grouping" 253 (.ref 70), en P "in_grouping_b" 261 (.ref 77), en P "go_in_grouping_b" 269 (.ref 84), en P "out_grouping" 277 (.ref 91), en P "go_out_grouping" 285 (.ref 98), en P "out_grouping_b" 293 (.ref 105), en P "go_out_grouping_b" 301 (.ref 112), en P "eq_s" 309 (.ref 119), en P "eq_s_b" 317 (.ref 126), en P "find_among" 325 (.ref 133), en P "find_among_b" 345 (.ref 140), en P "replace_s" 356 (.ref 147), en P "slice_from" 364 (.ref 154), en P "slice_del" 371 (.ref 161), en P "insert" 381 (.ref 168), en P "slice_to" 388 (.ref 175), en P "assign_to" 395 (.ref 182), en P "stemWord" 403 (.ref 189), en P "stemWords" 409 (.ref 194), en P "__static_attributes__" 416 (.ref 195)] 28), #[]⟩
def o25 (P : Params) : Obj := ⟨(.type "tuple"), none, (.seq #[] 0), #[]⟩
def o26 (P : Params) : Obj := ⟨.none, none, (.fields #[(.int (7) 0), (.int (4) 0), (.ref 34), (.int (10) 0), (.int (4) 0), (.ref 41), (.int (18) 0), (.int (4) 0), (.ref 48), (.int (21) 0), (.int (4) 0), (.ref 55), (.int (24) 0), (.int (4) 0), (.ref 62), (.int (27) 0), (.int (4) 0), (.ref 69), (.int (34) 0), (.int (4) 0), (.ref 76), (.int (42) 0), (.int (4) 0), (.ref 83), (.int (45) 0), (.int (4) 0), (.ref 90), (.int (48) 0), (.int (4) 0), (.ref 97), (.int (55) 0), (.int (4) 0), (.ref 104), (.int (63) 0), (.int (4) 0), (.ref 111), (.int (66) 0), (.int (4) 0), (.ref 118), (.int (69) 0), (.int (4) 0), (.ref 125), (.int (75) 0), (.int (4) 0), (.ref 132), (.int (78) 0), (.int (4) 0), (.ref 139), (.int (123) 0), (.int (4) 0), (.ref 146), (.int (133) 0), (.int (4) 0), (.ref 153), (.int (141) 0), (.int (4) 0), (.ref 160), (.int (144) 0), (.int (4) 0), (.ref 167), (.int (147) 0), (.int (4) 0), (.ref 174), (.int (154) 0), (.int (4) 0), (.ref 181), (.int (157) 0), (.int (4) 0), (.ref 188), (.int (162) 0), (.int (4) 0), (.ref 193)]), #[]⟩
def o27 (P : Params) : Obj := ⟨(.type "code"), none, (.fields #[(.str (q "BaseStemmer") 198), (.str (q "BaseStemmer") 199), (.str (q "/claim/cut.py") 200), (.int (5) 0), (.int (0) 0), (.int (0) 0), (.int (0) 0), (.int (0) 0), (.ref 25), (.bool false), (.int (181) 0), (.ref 26), .none, .none, .none, .none, (.int (201) 0), (.int (5) 0), (.str (q "/claim/cut.py") 202)]), #[]⟩
def o28 (P : Params) : Obj := ⟨(.type "frame"), none, .plain, #[(some (.ref 27)), (some (.ref 3)), (some (.ref 24)), none, (some (.str (q "snowballstemmer.basestemmer") 194)), none, (some (.ref 0))]⟩
def o29 (P : Params) : Obj := ⟨(.type "tuple"), none, (.seq #[] 0), #[]⟩
def o30 (P : Params) : Obj := ⟨.none, none, (.fields #[]), #[]⟩
def o31 (P : Params) : Obj := ⟨(.type "tuple"), none, (.seq #[(.str (q "self") 211)] 0), #[]⟩
def o32 (P : Params) : Obj := ⟨(.type "tuple"), none, (.seq #[] 0), #[]⟩
def o34 (P : Params) : Obj := ⟨(.type "code"), none, (.fields #[(.str (q "__init__") 208), (.str (q "BaseStemmer.__init__") 209), (.str (q "/claim/cut.py") 210), (.int (7) 0), (.int (1) 0), (.int (0) 0), (.int (0) 0), (.int (3) 0), (.ref 29), (.bool true), (.int (181) 0), (.ref 30), .none, (.ref 31), (.ref 32), (.ref 33), (.int (212) 0), (.int (7) 0), (.str (q "/claim/cut.py") 213)]), #[]⟩
def o35 (P : Params) : Obj := ⟨(.type "function"), none, (.func (fd (defIn2 2 0) "__init__" (q "BaseStemmer.__init__") .none .none .none (.str (q "snowballstemmer.basestemmer") 194) none (.ref 34) .none)), #[]⟩
def o36 (P : Params) : Obj := ⟨(.type "tuple"), none, (.seq #[] 0), #[]⟩
def o37 (P : Params) : Obj := ⟨.none, none, (.fields #[]), #[]⟩
def o38 (P : Params) : Obj := ⟨(.type "tuple"), none, (.seq #[(.str (q "self") 218), (.str (q "value") 219)] 0), #[]⟩
def o39 (P : Params) : Obj := ⟨(.type "tuple"), none, (.seq #[] 0), #[]⟩
def o41 (P : Params) : Obj := ⟨(.type "code"), none, (.fields #[(.str (q "set_current") 215), (.str (q "BaseStemmer.set_current") 216), (.str (q "/claim/cut.py") 217), (.int (10) 0), (.int (2) 0), (.int (0) 0), (.int (0) 0), (.int (3) 0), (.ref 36), (.bool true), (.int (181) 0), (.ref 37), .none, (.ref 38), (.ref 39), (.ref 40), (.int (220) 0), (.int (10) 0), (.str (q "/claim/cut.py") 221)]), #[]⟩
def o42 (P : Params) : Obj := ⟨(.type "function"), none, (.func (fd (defIn2 2 1) "set_current" (q "BaseStemmer.set_current") .none .none .none (.str (q "snowballstemmer.basestemmer") 194) none (.ref 41) .none)), #[]⟩
def o43 (P : Params) : Obj := ⟨(.type "tuple"), none, (.seq #[] 0), #[]⟩
def o44 (P : Params) : Obj := ⟨.none, none, (.fields #[]), #[]⟩
def o45 (P : Params) : Obj := ⟨(.type "tuple"), none, (.seq #[(.str (q "self") 226)] 0), #[]⟩
def o46 (P : Params) : Obj := ⟨(.type "tuple"), none, (.seq #[] 0), #[]⟩
def o48 (P : Params) : Obj := ⟨(.type "code"), none, (.fields #[(.str (q "get_current") 223), (.str (q "BaseStemmer.get_current") 224), (.str (q "/claim/cut.py") 225), (.int (18) 0), (.int (1) 0), (.int (0) 0), (.int (0) 0), (.int (3) 0), (.ref 43), (.bool true), (.int (181) 0), (.ref 44), .none, (.ref 45), (.ref 46), (.ref 47), (.int (227) 0), (.int (18) 0), (.str (q "/claim/cut.py") 228)]), #[]⟩
def o49 (P : Params) : Obj := ⟨(.type "function"), none, (.func (fd (defIn2 2 2) "get_current" (q "BaseStemmer.get_current") .none .none .none (.str (q "snowballstemmer.basestemmer") 194) none (.ref 48) .none)), #[]⟩
def o50 (P : Params) : Obj := ⟨(.type "tuple"), none, (.seq #[] 0), #[]⟩
def o51 (P : Params) : Obj := ⟨.none, none, (.fields #[]), #[]⟩
def o52 (P : Params) : Obj := ⟨(.type "tuple"), none, (.seq #[(.str (q "self") 233), (.str (q "other") 234)] 0), #[]⟩
def o53 (P : Params) : Obj := ⟨(.type "tuple"), none, (.seq #[] 0), #[]⟩
def o55 (P : Params) : Obj := ⟨(.type "code"), none, (.fields #[(.str (q "copy_from") 230), (.str (q "BaseStemmer.copy_from") 231), (.str (q "/claim/cut.py") 232), (.int (21) 0), (.int (2) 0), (.int (0) 0), (.int (0) 0), (.int (3) 0), (.ref 50), (.bool true), (.int (181) 0), (.ref 51), .none, (.ref 52), (.ref 53), (.ref 54), (.int (235) 0), (.int (21) 0), (.str (q "/claim/cut.py") 236)]), #[]⟩
def o56 (P : Params) : Obj := ⟨(.type "function"), none, (.func (fd (defIn2 2 3) "copy_from" (q "BaseStemmer.copy_from") .none .none .none (.str (q "snowballstemmer.basestemmer") 194) none (.ref 55) .none)), #[]⟩
def o57 (P : Params) : Obj := ⟨(.type "tuple"), none, (.seq #[] 0), #[]⟩
def o58 (P : Params) : Obj := ⟨.none, none, (.fields #[]), #[]⟩
def o59 (P : Params) : Obj := ⟨(.type "tuple"), none, (.seq #[(.str (q "self") 241), (.str (q "s") 242)] 0), #[]⟩
def o60 (P : Params) : Obj := ⟨(.type "tuple"), none, (.seq #[] 0), #[]⟩
def o62 (P : Params) : Obj := ⟨(.type "code"), none, (.fields #[(.str (q "in_grouping") 238), (.str (q "BaseStemmer.in_grouping") 239), (.str (q "/claim/cut.py") 240), (.int (24) 0), (.int (2) 0), (.int (0) 0), (.int (0) 0), (.int (3) 0), (.ref 57), (.bool true), (.int (181) 0), (.ref 58), .none, (.ref 59), (.ref 60), (.ref 61), (.int (243) 0), (.int (24) 0), (.str (q "/claim/cut.py") 244)]), #[]⟩
def o63 (P : Params) : Obj := ⟨(.type "function"), none, (.func (fd (defIn2 2 4) "in_grouping" (q "BaseStemmer.in_grouping") .none .none .none (.str (q "snowballstemmer.basestemmer") 194) none (.ref 62) .none)), #[]⟩
def o64 (P : Params) : Obj := ⟨(.type "tuple"), none, (.seq #[] 0), #[]⟩
def o65 (P : Params) : Obj := ⟨.none, none, (.fields #[]), #[]⟩
def o66 (P : Params) : Obj := ⟨(.type "tuple"), none, (.seq #[(.str (q "self") 249), (.str (q "s") 250)] 0), #[]⟩
def o67 (P : Params) : Obj := ⟨(.type "tuple"), none, (.seq #[] 0), #[]⟩
def o69 (P : Params) : Obj := ⟨(.type "code"), none, (.fields #[(.str (q "go_in_grouping") 246), (.str (q "BaseStemmer.go_in_grouping") 247), (.str (q "/claim/cut.py") 248), (.int (27) 0), (.int (2) 0), (.int (0) 0), (.int (0) 0), (.int (3) 0), (.ref 64), (.bool true), (.int (181) 0), (.ref 65), .none, (.ref 66), (.ref 67), (.ref 68), (.int (251) 0), (.int (27) 0), (.str (q "/claim/cut.py") 252)]), #[]⟩
def o70 (P : Params) : Obj := ⟨(.type "function"), none, (.func (fd (defIn2 2 5) "go_in_grouping" (q "BaseStemmer.go_in_grouping") .none .none .none (.str (q "snowballstemmer.basestemmer") 194) none (.ref 69) .none)), #[]⟩
def o71 (P : Params) : Obj := ⟨(.type "tuple"), none, (.seq #[] 0), #[]⟩
def o72 (P : Params) : Obj := ⟨.none, none, (.fields #[]), #[]⟩
def o73 (P : Params) : Obj := ⟨(.type "tuple"), none, (.seq #[(.str (q "self") 257), (.str (q "s") 258)] 0), #[]⟩
def o74 (P : Params) : Obj := ⟨(.type "tuple"), none, (.seq #[] 0), #[]⟩
def o76 (P : Params) : Obj := ⟨(.type "code"), none, (.fields #[(.str (q "in_grouping_b") 254), (.str (q "BaseStemmer.in_grouping_b") 255), (.str (q "/claim/cut.py") 256), (.int (34) 0), (.int (2) 0), (.int (0) 0), (.int (0) 0), (.int (3) 0), (.ref 71), (.bool true), (.int (181) 0), (.ref 72), .none, (.ref 73), (.ref 74), (.ref 75), (.int (259) 0), (.int (34) 0), (.str (q "/claim/cut.py") 260)]), #[]⟩
def o77 (P : Params) : Obj := ⟨(.type "function"), none, (.func (fd (defIn2 2 6) "in_grouping_b" (q "BaseStemmer.in_grouping_b") .none .none .none (.str (q "snowballstemmer.basestemmer") 194) none (.ref 76) .none)), #[]⟩
def o78 (P : Params) : Obj := ⟨(.type "tuple"), none, (.seq #[] 0), #[]⟩
def o79 (P : Params) : Obj := ⟨.none, none, (.fields #[]), #[]⟩
def o80 (P : Params) : Obj := ⟨(.type "tuple"), none, (.seq #[(.str (q "self") 265), (.str (q "s") 266)] 0), #[]⟩
def o81 (P : Params) : Obj := ⟨(.type "tuple"), none, (.seq #[] 0), #[]⟩
def o83 (P : Params) : Obj := ⟨(.type "code"), none, (.fields #[(.str (q "go_in_grouping_b") 262), (.str (q "BaseStemmer.go_in_grouping_b") 263), (.str (q "/claim/cut.py") 264), (.int (42) 0), (.int (2) 0), (.int (0) 0), (.int (0) 0), (.int (3) 0), (.ref 78), (.bool true), (.int (181) 0), (.ref 79), .none, (.ref 80), (.ref 81), (.ref 82), (.int (267) 0), (.int (42) 0), (.str (q "/claim/cut.py") 268)]), #[]⟩
def o84 (P : Params) : Obj := ⟨(.type "function"), none, (.func (fd (defIn2 2 7) "go_in_grouping_b" (q "BaseStemmer.go_in_grouping_b") .none .none .none (.str (q "snowballstemmer.basestemmer") 194) none (.ref 83) .none)), #[]⟩
def o85 (P : Params) : Obj := ⟨(.type "tuple"), none, (.seq #[] 0), #[]⟩
def o86 (P : Params) : Obj := ⟨.none, none, (.fields #[]), #[]⟩
def o87 (P : Params) : Obj := ⟨(.type "tuple"), none, (.seq #[(.str (q "self") 273), (.str (q "s") 274)] 0), #[]⟩
def o88 (P : Params) : Obj := ⟨(.type "tuple"), none, (.seq #[] 0), #[]⟩
def o90 (P : Params) : Obj := ⟨(.type "code"), none, (.fields #[(.str (q "out_grouping") 270), (.str (q "BaseStemmer.out_grouping") 271), (.str (q "/claim/cut.py") 272), (.int (45) 0), (.int (2) 0), (.int (0) 0), (.int (0) 0), (.int (3) 0), (.ref 85), (.bool true), (.int (181) 0), (.ref 86), .none, (.ref 87), (.ref 88), (.ref 89), (.int (275) 0), (.int (45) 0), (.str (q "/claim/cut.py") 276)]), #[]⟩
def o91 (P : Params) : Obj := ⟨(.type "function"), none, (.func (fd (defIn2 2 8) "out_grouping" (q "BaseStemmer.out_grouping") .none .none .none (.str (q "snowballstemmer.basestemmer") 194) none (.ref 90) .none)), #[]⟩
def o92 (P : Params) : Obj := ⟨(.type "tuple"), none, (.seq #[] 0), #[]⟩
def o93 (P : Params) : Obj := ⟨.none, none, (.fields #[]), #[]⟩
def o94 (P : Params) : Obj := ⟨(.type "tuple"), none, (.seq #[(.str (q "self") 281), (.str (q "s") 282)] 0), #[]⟩
def o95 (P : Params) : Obj := ⟨(.type "tuple"), none, (.seq #[] 0), #[]⟩
def o97 (P : Params) : Obj := ⟨(.type "code"), none, (.fields #[(.str (q "go_out_grouping") 278), (.str (q "BaseStemmer.go_out_grouping") 279), (.str (q "/claim/cut.py") 280), (.int (48) 0), (.int (2) 0), (.int (0) 0), (.int (0) 0), (.int (3) 0), (.ref 92), (.bool true), (.int (181) 0), (.ref 93), .none, (.ref 94), (.ref 95), (.ref 96), (.int (283) 0), (.int (48) 0), (.str (q "/claim/cut.py") 284)]), #[]⟩
def o98 (P : Params) : Obj := ⟨(.type "function"), none, (.func (fd (defIn2 2 9) "go_out_grouping" (q "BaseStemmer.go_out_grouping") .none .none .none (.str (q "snowballstemmer.basestemmer") 194) none (.ref 97) .none)), #[]⟩
def o99 (P : Params) : Obj := ⟨(.type "tuple"), none, (.seq #[] 0), #[]⟩
def o100 (P : Params) : Obj := ⟨.none, none, (.fields #[]), #[]⟩
def o101 (P : Params) : Obj := ⟨(.type "tuple"), none, (.seq #[(.str (q "self") 289), (.str (q "s") 290)] 0), #[]⟩
def o102 (P : Params) : Obj := ⟨(.type "tuple"), none, (.seq #[] 0), #[]⟩
def o104 (P : Params) : Obj := ⟨(.type "code"), none, (.fields #[(.str (q "out_grouping_b") 286), (.str (q "BaseStemmer.out_grouping_b") 287), (.str (q "/claim/cut.py") 288), (.int (55) 0), (.int (2) 0), (.int (0) 0), (.int (0) 0), (.int (3) 0), (.ref 99), (.bool true), (.int (181) 0), (.ref 100), .none, (.ref 101), (.ref 102), (.ref 103), (.int (291) 0), (.int (55) 0), (.str (q "/claim/cut.py") 292)]), #[]⟩
def o105 (P : Params) : Obj := ⟨(.type "function"), none, (.func (fd (defIn2 2 10) "out_grouping_b" (q "BaseStemmer.out_grouping_b") .none .none .none (.str (q "snowballstemmer.basestemmer") 194) none (.ref 104) .none)), #[]⟩
def o106 (P : Params) : Obj := ⟨(.type "tuple"), none, (.seq #[] 0), #[]⟩
def o107 (P : Params) : Obj := ⟨.none, none, (.fields #[]), #[]⟩
def o108 (P : Params) : Obj := ⟨(.type "tuple"), none, (.seq #[(.str (q "self") 297), (.str (q "s") 298)] 0), #[]⟩
def o109 (P : Params) : Obj := ⟨(.type "tuple"), none, (.seq #[] 0), #[]⟩
def o111 (P : Params) : Obj := ⟨(.type "code"), none, (.fields #[(.str (q "go_out_grouping_b") 294), (.str (q "BaseStemmer.go_out_grouping_b") 295), (.str (q "/claim/cut.py") 296), (.int (63) 0), (.int (2) 0), (.int (0) 0), (.int (0) 0), (.int (3) 0), (.ref 106), (.bool true), (.int (181) 0), (.ref 107), .none, (.ref 108), (.ref 109), (.ref 110), (.int (299) 0), (.int (63) 0), (.str (q "/claim/cut.py") 300)]), #[]⟩
def o112 (P : Params) : Obj := ⟨(.type "function"), none, (.func (fd (defIn2 2 11) "go_out_grouping_b" (q "BaseStemmer.go_out_grouping_b") .none .none .none (.str (q "snowballstemmer.basestemmer") 194) none (.ref 111) .none)), #[]⟩
def o113 (P : Params) : Obj := ⟨(.type "tuple"), none, (.seq #[] 0), #[]⟩
def o114 (P : Params) : Obj := ⟨.none, none, (.fields #[]), #[]⟩
def o115 (P : Params) : Obj := ⟨(.type "tuple"), none, (.seq #[(.str (q "self") 305), (.str (q "s") 306)] 0), #[]⟩
def o116 (P : Params) : Obj := ⟨(.type "tuple"), none, (.seq #[] 0), #[]⟩
def o118 (P : Params) : Obj := ⟨(.type "code"), none, (.fields #[(.str (q "eq_s") 302), (.str (q "BaseStemmer.eq_s") 303), (.str (q "/claim/cut.py") 304), (.int (66) 0), (.int (2) 0), (.int (0) 0), (.int (0) 0), (.int (3) 0), (.ref 113), (.bool true), (.int (181) 0), (.ref 114), .none, (.ref 115), (.ref 116), (.ref 117), (.int (307) 0), (.int (66) 0), (.str (q "/claim/cut.py") 308)]), #[]⟩
def o119 (P : Params) : Obj := ⟨(.type "function"), none, (.func (fd (defIn2 2 12) "eq_s" (q "BaseStemmer.eq_s") .none .none .none (.str (q "snowballstemmer.basestemmer") 194) none (.ref 118) .none)), #[]⟩
def o120 (P : Params) : Obj := ⟨(.type "tuple"), none, (.seq #[] 0), #[]⟩
def o121 (P : Params) : Obj := ⟨.none, none, (.fields #[]), #[]⟩
def o122 (P : Params) : Obj := ⟨(.type "tuple"), none, (.seq #[(.str (q "self") 313), (.str (q "s") 314)] 0), #[]⟩
def o123 (P : Params) : Obj := ⟨(.type "tuple"), none, (.seq #[] 0), #[]⟩
def o125 (P : Params) : Obj := ⟨(.type "code"), none, (.fields #[(.str (q "eq_s_b") 310), (.str (q "BaseStemmer.eq_s_b") 311), (.str (q "/claim/cut.py") 312), (.int (69) 0), (.int (2) 0), (.int (0) 0), (.int (0) 0), (.int (3) 0), (.ref 120), (.bool true), (.int (181) 0), (.ref 121), .none, (.ref 122), (.ref 123), (.ref 124), (.int (315) 0), (.int (69) 0), (.str (q "/claim/cut.py") 316)]), #[]⟩
def o126 (P : Params) : Obj := ⟨(.type "function"), none, (.func (fd (defIn2 2 13) "eq_s_b" (q "BaseStemmer.eq_s_b") .none .none .none (.str (q "snowballstemmer.basestemmer") 194) none (.ref 125) .none)), #[]⟩
def o127 (P : Params) : Obj := ⟨(.type "tuple"), none, (.seq #[] 0), #[]⟩
def o128 (P : Params) : Obj := ⟨.none, none, (.fields #[]), #[]⟩
def o129 (P : Params) : Obj := ⟨(.type "tuple"), none, (.seq #[(.str (q "self") 321), (.str (q "v") 322)] 0), #[]⟩
def o130 (P : Params) : Obj := ⟨(.type "tuple"), none, (.seq #[] 0), #[]⟩
def o132 (P : Params) : Obj := ⟨(.type "code"), none, (.fields #[(.str (q "find_among") 318), (.str (q "BaseStemmer.find_among") 319), (.str (q "/claim/cut.py") 320), (.int (75) 0), (.int (2) 0), (.int (0) 0), (.int (0) 0), (.int (3) 0), (.ref 127), (.bool true), (.int (181) 0), (.ref 128), .none, (.ref 129), (.ref 130), (.ref 131), (.int (323) 0), (.int (75) 0), (.str (q "/claim/cut.py") 324)]), #[]⟩
def o133 (P : Params) : Obj := ⟨(.type "function"), none, (.func (fd (defIn2 2 14) "find_among" (q "BaseStemmer.find_among") .none .none .none (.str (q "snowballstemmer.basestemmer") 194) none (.ref 132) .none)), #[]⟩
def o134 (P : Params) : Obj := ⟨(.type "tuple"), none, (.seq #[] 0), #[]⟩
def o135 (P : Params) : Obj := ⟨.none, none, (.fields #[]), #[]⟩
def o136 (P : Params) : Obj := ⟨(.type "tuple"), none, (.seq #[(.str (q "self") 329), (.str (q "v") 330), (.str (q "i") 331), (.str (q "j") 332), (.str (q "c") 333), (.str (q "lb") 334), (.str (q "common_i") 335), (.str (q "common_j") 336), (.str (q "first_key_inspected") 337), (.str (q "k") 338), (.str (q "diff") 339), (.str (q "common") 340), (.str (q "w") 341), (.str (q "i2") 342)] 0), #[]⟩
def o137 (P : Params) : Obj := ⟨(.type "tuple"), none, (.seq #[] 0), #[]⟩
def o139 (P : Params) : Obj := ⟨(.type "code"), none, (.fields #[(.str (q "find_among_b") 326), (.str (q "BaseStemmer.find_among_b") 327), (.str (q "/claim/cut.py") 328), (.int (78) 0), (.int (2) 0), (.int (0) 0), (.int (0) 0), (.int (3) 0), (.ref 134), (.bool true), (.int (181) 0), (.ref 135), .none, (.ref 136), (.ref 137), (.ref 138), (.int (343) 0), (.int (78) 0), (.str (q "/claim/cut.py") 344)]), #[]⟩
def o140 (P : Params) : Obj := ⟨(.type "function"), none, (.func (fd (defIn2 2 15) "find_among_b" (q "BaseStemmer.find_among_b") .none .none .none (.str (q "snowballstemmer.basestemmer") 194) none (.ref 139) .none)), #[]⟩
def o141 (P : Params) : Obj := ⟨(.type "tuple"), none, (.seq #[] 0), #[]⟩
def o142 (P : Params) : Obj := ⟨.none, none, (.fields #[]), #[]⟩
def o143 (P : Params) : Obj := ⟨(.type "tuple"), none, (.seq #[(.str (q "self") 349), (.str (q "c_bra") 350), (.str (q "c_ket") 351), (.str (q "s") 352), (.str (q "adjustment") 353)] 0), #[]⟩
def o144 (P : Params) : Obj := ⟨(.type "tuple"), none, (.seq #[] 0), #[]⟩
def o146 (P : Params) : Obj := ⟨(.type "code"), none, (.fields #[(.str (q "replace_s") 346), (.str (q "BaseStemmer.replace_s") 347), (.str (q "/claim/cut.py") 348), (.int (123) 0), (.int (4) 0), (.int (0) 0), (.int (0) 0), (.int (3) 0), (.ref 141), (.bool true), (.int (181) 0), (.ref 142), .none, (.ref 143), (.ref 144), (.ref 145), (.int (354) 0), (.int (123) 0), (.str (q "/claim/cut.py") 355)]), #[]⟩
def o147 (P : Params) : Obj := ⟨(.type "function"), none, (.func (fd (defIn2 2 16) "replace_s" (q "BaseStemmer.replace_s") .none .none .none (.str (q "snowballstemmer.basestemmer") 194) none (.ref 146) .none)), #[]⟩
def o148 (P : Params) : Obj := ⟨(.type "tuple"), none, (.seq #[] 0), #[]⟩
def o149 (P : Params) : Obj := ⟨.none, none, (.fields #[]), #[]⟩
def o150 (P : Params) : Obj := ⟨(.type "tuple"), none, (.seq #[(.str (q "self") 360), (.str (q "s") 361)] 0), #[]⟩
def o151 (P : Params) : Obj := ⟨(.type "tuple"), none, (.seq #[] 0), #[]⟩
def o153 (P : Params) : Obj := ⟨(.type "code"), none, (.fields #[(.str (q "slice_from") 357), (.str (q "BaseStemmer.slice_from") 358), (.str (q "/claim/cut.py") 359), (.int (133) 0), (.int (2) 0), (.int (0) 0), (.int (0) 0), (.int (3) 0), (.ref 148), (.bool true), (.int (181) 0), (.ref 149), .none, (.ref 150), (.ref 151), (.ref 152), (.int (362) 0), (.int (133) 0), (.str (q "/claim/cut.py") 363)]), #[]⟩
def o154 (P : Params) : Obj := ⟨(.type "function"), none, (.func (fd (defIn2 2 17) "slice_from" (q "BaseStemmer.slice_from") .none .none .none (.str (q "snowballstemmer.basestemmer") 194) none (.ref 153) .none)), #[]⟩
def o155 (P : Params) : Obj := ⟨(.type "tuple"), none, (.seq #[] 0), #[]⟩
def o156 (P : Params) : Obj := ⟨.none, none, (.fields #[]), #[]⟩
def o157 (P : Params) : Obj := ⟨(.type "tuple"), none, (.seq #[(.str (q "self") 368)] 0), #[]⟩
def o158 (P : Params) : Obj := ⟨(.type "tuple"), none, (.seq #[] 0), #[]⟩
def o160 (P : Params) : Obj := ⟨(.type "code"), none, (.fields #[(.str (q "slice_del") 365), (.str (q "BaseStemmer.slice_del") 366), (.str (q "/claim/cut.py") 367), (.int (141) 0), (.int (1) 0), (.int (0) 0), (.int (0) 0), (.int (3) 0), (.ref 155), (.bool true), (.int (181) 0), (.ref 156), .none, (.ref 157), (.ref 158), (.ref 159), (.int (369) 0), (.int (141) 0), (.str (q "/claim/cut.py") 370)]), #[]⟩
def o161 (P : Params) : Obj := ⟨(.type "function"), none, (.func (fd (defIn2 2 18) "slice_del" (q "BaseStemmer.slice_del") .none .none .none (.str (q "snowballstemmer.basestemmer") 194) none (.ref 160) .none)), #[]⟩
def o162 (P : Params) : Obj := ⟨(.type "tuple"), none, (.seq #[] 0), #[]⟩
def o163 (P : Params) : Obj := ⟨.none, none, (.fields #[]), #[]⟩
def o164 (P : Params) : Obj := ⟨(.type "tuple"), none, (.seq #[(.str (q "self") 375), (.str (q "c_bra") 376), (.str (q "c_ket") 377), (.str (q "s") 378)] 0), #[]⟩
def o165 (P : Params) : Obj := ⟨(.type "tuple"), none, (.seq #[] 0), #[]⟩
def o167 (P : Params) : Obj := ⟨(.type "code"), none, (.fields #[(.str (q "insert") 372), (.str (q "BaseStemmer.insert") 373), (.str (q "/claim/cut.py") 374), (.int (144) 0), (.int (4) 0), (.int (0) 0), (.int (0) 0), (.int (3) 0), (.ref 162), (.bool true), (.int (181) 0), (.ref 163), .none, (.ref 164), (.ref 165), (.ref 166), (.int (379) 0), (.int (144) 0), (.str (q "/claim/cut.py") 380)]), #[]⟩
def o168 (P : Params) : Obj := ⟨(.type "function"), none, (.func (fd (defIn2 2 19) "insert" (q "BaseStemmer.insert") .none .none .none (.str (q "snowballstemmer.basestemmer") 194) none (.ref 167) .none)), #[]⟩
def o169 (P : Params) : Obj := ⟨(.type "tuple"), none, (.seq #[] 0), #[]⟩
def o170 (P : Params) : Obj := ⟨.none, none, (.fields #[]), #[]⟩
def o171 (P : Params) : Obj := ⟨(.type "tuple"), none, (.seq #[(.str (q "self") 385)] 0), #[]⟩
def o172 (P : Params) : Obj := ⟨(.type "tuple"), none, (.seq #[] 0), #[]⟩
def o174 (P : Params) : Obj := ⟨(.type "code"), none, (.fields #[(.str (q "slice_to") 382), (.str (q "BaseStemmer.slice_to") 383), (.str (q "/claim/cut.py") 384), (.int (147) 0), (.int (1) 0), (.int (0) 0), (.int (0) 0), (.int (3) 0), (.ref 169), (.bool true), (.int (181) 0), (.ref 170), .none, (.ref 171), (.ref 172), (.ref 173), (.int (386) 0), (.int (147) 0), (.str (q "/claim/cut.py") 387)]), #[]⟩
def o175 (P : Params) : Obj := ⟨(.type "function"), none, (.func (fd (defIn2 2 20) "slice_to" (q "BaseStemmer.slice_to") .none .none .none (.str (q "snowballstemmer.basestemmer") 194) none (.ref 174) .none)), #[]⟩
def o176 (P : Params) : Obj := ⟨(.type "tuple"), none, (.seq #[] 0), #[]⟩
def o177 (P : Params) : Obj := ⟨.none, none, (.fields #[]), #[]⟩
def o178 (P : Params) : Obj := ⟨(.type "tuple"), none, (.seq #[(.str (q "self") 392)] 0), #[]⟩
def o179 (P : Params) : Obj := ⟨(.type "tuple"), none, (.seq #[] 0), #[]⟩
def o181 (P : Params) : Obj := ⟨(.type "code"), none, (.fields #[(.str (q "assign_to") 389), (.str (q "BaseStemmer.assign_to") 390), (.str (q "/claim/cut.py") 391), (.int (154) 0), (.int (1) 0), (.int (0) 0), (.int (0) 0), (.int (3) 0), (.ref 176), (.bool true), (.int (181) 0), (.ref 177), .none, (.ref 178), (.ref 179), (.ref 180), (.int (393) 0), (.int (154) 0), (.str (q "/claim/cut.py") 394)]), #[]⟩
def o182 (P : Params) : Obj := ⟨(.type "function"), none, (.func (fd (defIn2 2 21) "assign_to" (q "BaseStemmer.assign_to") .none .none .none (.str (q "snowballstemmer.basestemmer") 194) none (.ref 181) .none)), #[]⟩
def o183 (P : Params) : Obj := ⟨(.type "tuple"), none, (.seq #[] 0), #[]⟩
def o184 (P : Params) : Obj := ⟨.none, none, (.fields #[]), #[]⟩
def o185 (P : Params) : Obj := ⟨(.type "tuple"), none, (.seq #[(.str (q "self") 399), (.str (q "word") 400)] 0), #[]⟩
def o186 (P : Params) : Obj := ⟨(.type "tuple"), none, (.seq #[] 0), #[]⟩
def o188 (P : Params) : Obj := ⟨(.type "code"), none, (.fields #[(.str (q "stemWord") 396), (.str (q "BaseStemmer.stemWord") 397), (.str (q "/claim/cut.py") 398), (.int (157) 0), (.int (2) 0), (.int (0) 0), (.int (0) 0), (.int (3) 0), (.ref 183), (.bool true), (.int (181) 0), (.ref 184), .none, (.ref 185), (.ref 186), (.ref 187), (.int (401) 0), (.int (157) 0), (.str (q "/claim/cut.py") 402)]), #[]⟩
def o189 (P : Params) : Obj := ⟨(.type "function"), none, (.func (fd (defIn2 2 22) "stemWord" (q "BaseStemmer.stemWord") .none .none .none (.str (q "snowballstemmer.basestemmer") 194) none (.ref 188) .none)), #[]⟩
def o190 (P : Params) : Obj := ⟨(.type "tuple"), none, (.seq #[] 0), #[]⟩
def o191 (P : Params) : Obj := ⟨.none, none, (.fields #[]), #[]⟩
def o193 (P : Params) : Obj := ⟨(.type "code"), none, (.fields #[(.str (q "stemWords") 404), (.str (q "BaseStemmer.stemWords") 405), (.str (q "/claim/cut.py") 406), (.int (162) 0), (.int (2) 0), (.int (0) 0), (.int (0) 0), (.int (3) 0), (.ref 190), (.bool true), (.int (181) 0), (.ref 191), .none, .none, .none, (.ref 192), (.int (407) 0), (.int (162) 0), (.str (q "/claim/cut.py") 408)]), #[]⟩
def o194 (P : Params) : Obj := ⟨(.type "function"), none, (.func (fd (defIn2 2 23) "stemWords" (q "BaseStemmer.stemWords") .none .none .none (.str (q "snowballstemmer.basestemmer") 194) none (.ref 193) .none)), #[]⟩
def o195 (P : Params) : Obj := ⟨(.type "tuple"), none, (.seq #[(.str (q "bra") 410), (.str (q "current") 411), (.str (q "cursor") 412), (.str (q "ket") 413), (.str (q "limit") 414), (.str (q "limit_backward") 415)] 0), #[]⟩
def o196 (P : Params) : Obj := ⟨(.type "dict"), none, (.dict #[en P "__module__" 203 (.str (q "snowballstemmer.basestemmer") 194), en P "__firstlineno__" 207 (.int (5) 206), en P "__init__" 214 (.ref 35), en P "set_current" 222 (.ref 42), en P "get_current" 229 (.ref 49), en P "copy_from" 237 (.ref 56), en P "in_grouping" 245 (.ref 63), en P "go_in_grouping" 253 (.ref 70), en P "in_grouping_b" 261 (.ref 77), en P "go_in_grouping_b" 269 (.ref 84), en P "out_grouping" 277 (.ref 91), en P "go_out_grouping" 285 (.ref 98), en P "out_grouping_b" 293 (.ref 105), en P "go_out_grouping_b" 301 (.ref 112), en P "eq_s" 309 (.ref 119), en P "eq_s_b" 317 (.ref 126), en P "find_among" 325 (.ref 133), en P "find_among_b" 345 (.ref 140), en P "replace_s" 356 (.ref 147), en P "slice_from" 364 (.ref 154), en P "slice_del" 371 (.ref 161), en P "insert" 381 (.ref 168), en P "slice_to" 388 (.ref 175), en P "assign_to" 395 (.ref 182), en P "stemWord" 403 (.ref 189), en P "stemWords" 409 (.ref 194), en P "__static_attributes__" 416 (.ref 195), en P "__dict__" 418 (.ref 198), en P "__weakref__" 420 (.ref 199), en P "__doc__" 421 .none] 4), #[]⟩
def o197_0 (P : Params) : Obj := ⟨(.type "type"), none, (.cls { name := (q "BaseStemmer"), bases := [(.type "object")], mro := [(.ref 197), (.type "object")], ns := 196, qualname := (q "BaseStemmer"), hasDict := true, slotNames := [], subclasses := [(.ref 403)], abstract := false, collection := none, hasDel := false }), #[none, none, (some (.str (q "BaseStemmer") 196)), (some (.str (q "BaseStemmer") 204)), (some (.builtin "object.__new__")), (some (.bool true))]⟩
def o197_1 (P : Params) : Obj := ⟨(.type "type"), none, (.cls { name := (q "BaseStemmer"), bases := [(.type "object")], mro := [(.ref 197), (.type "object")], ns := 196, qualname := (q "BaseStemmer"), hasDict := true, slotNames := [], subclasses := [(.ref 403), (.ref 666)], abstract := false, collection := none, hasDel := false }), #[none, none, (some (.str (q "BaseStemmer") 196)), (some (.str (q "BaseStemmer") 204)), (some (.builtin "object.__new__")), (some (.bool true))]⟩
def o197_2 (P : Params) : Obj := ⟨(.type "type"), none, (.cls { name := (q "BaseStemmer"), bases := [(.type "object")], mro := [(.ref 197), (.type "object")], ns := 196, qualname := (q "BaseStemmer"), hasDict := true, slotNames := [], subclasses := [(.ref 403), (.ref 666), (.ref 979)], abstract := false, collection := none, hasDel := false }), #[none, none, (some (.str (q "BaseStemmer") 196)), (some (.str (q "BaseStemmer") 204)), (some (.builtin "object.__new__")), (some (.bool true))]⟩
def o198 (P : Params) : Obj := ⟨(.type "getset_descriptor"), none, (.fields #[(.str (q "__dict__") 417), (.ref 197), (.builtin "function.__dict__"), (.builtin "function.__dict__#set")]), #[]⟩
def o199 (P : Params) : Obj := ⟨(.type "getset_descriptor"), none, (.fields #[(.str (q "__weakref__") 419), (.ref 197), (.builtin "ExceptionGroup.__weakref__"), .none]), #[]⟩
def o200 (P : Params) : Obj := ⟨(.type "super"), none, (.fields #[(.ref 197), (.ref 197), (.ref 197)]), #[]⟩
def o201 (P : Params) : Obj := ⟨(.type "builtin_function_or_method"), none, (.fields #[(.builtin "object.__init_subclass__"), (.ref 197)]), #[]⟩
def o202 (P : Params) : Obj := ⟨(.type "tuple"), none, (.seq #[] 0), #[]⟩
def o203 (P : Params) : Obj := ⟨(.type "builtin_function_or_method"), none, (.fields #[(.builtin "type.__prepare__"), (.type "type")]), #[]⟩
def o204 (P : Params) : Obj := ⟨(.type "dict"), none, (.dict #[en P "__module__" 433 (.str (q "snowballstemmer.among") 424), en P "__qualname__" 435 (.str (q "Among") 434), en P "__firstlineno__" 437 (.int (165) 436), en P "__init__" 447 (.ref 215), en P "__static_attributes__" 451 (.ref 216)] 5), #[]⟩
def o205 (P : Params) : Obj := ⟨(.type "tuple"), none, (.seq #[] 0), #[]⟩
def o206 (P : Params) : Obj := ⟨.none, none, (.fields #[(.int (167) 0), (.int (4) 0), (.ref 214)]), #[]⟩
def o207 (P : Params) : Obj := ⟨(.type "code"), none, (.fields #[(.str (q "Among") 428), (.str (q "Among") 429), (.str (q "/claim/cut.py") 430), (.int (165) 0), (.int (0) 0), (.int (0) 0), (.int (0) 0), (.int (0) 0), (.ref 205), (.bool false), (.int (181) 0), (.ref 206), .none, .none, .none, .none, (.int (431) 0), (.int (165) 0), (.str (q "/claim/cut.py") 432)]), #[]⟩
def o209 (P : Params) : Obj := ⟨(.type "tuple"), none, (.seq #[] 0), #[]⟩
def o210 (P : Params) : Obj := ⟨.none, none, (.fields #[]), #[]⟩
def o211 (P : Params) : Obj := ⟨(.type "tuple"), none, (.seq #[(.str (q "self") 441), (.str (q "s") 442), (.str (q "substring_i") 443), (.str (q "result") 444)] 0), #[]⟩
def o212 (P : Params) : Obj := ⟨(.type "tuple"), none, (.seq #[] 0), #[]⟩
def o214 (P : Params) : Obj := ⟨(.type "code"), none, (.fields #[(.str (q "__init__") 438), (.str (q "Among.__init__") 439), (.str (q "/claim/cut.py") 440), (.int (167) 0), (.int (4) 0), (.int (0) 0), (.int (0) 0), (.int (3) 0), (.ref 209), (.bool true), (.int (181) 0), (.ref 210), .none, (.ref 211), (.ref 212), (.ref 213), (.int (445) 0), (.int (167) 0), (.str (q "/claim/cut.py") 446)]), #[]⟩
def o215 (P : Params) : Obj := ⟨(.type "function"), none, (.func (fd (defIn2 4 0) "__init__" (q "Among.__init__") .none .none .none (.str (q "snowballstemmer.among") 424) none (.ref 214) .none)), #[]⟩
def o216 (P : Params) : Obj := ⟨(.type "tuple"), none, (.seq #[(.str (q "result") 448), (.str (q "s") 449), (.str (q "substring_i") 450)] 0), #[]⟩
def o217 (P : Params) : Obj := ⟨(.type "dict"), none, (.dict #[en P "__module__" 433 (.str (q "snowballstemmer.among") 424), en P "__firstlineno__" 437 (.int (165) 436), en P "__init__" 447 (.ref 215), en P "__static_attributes__" 451 (.ref 216), en P "__dict__" 453 (.ref 219), en P "__weakref__" 455 (.ref 220), en P "__doc__" 456 .none] 4), #[]⟩
def o218 (P : Params) : Obj := ⟨(.type "type"), none, (.cls { name := (q "Among"), bases := [(.type "object")], mro := [(.ref 218), (.type "object")], ns := 217, qualname := (q "Among"), hasDict := true, slotNames := [], subclasses := [], abstract := false, collection := none, hasDel := false }), #[none, none, (some (.str (q "Among") 426)), (some (.str (q "Among") 434)), (some (.builtin "object.__new__")), (some (.bool true))]⟩
def o219 (P : Params) : Obj := ⟨(.type "getset_descriptor"), none, (.fields #[(.str (q "__dict__") 452), (.ref 218), (.builtin "function.__dict__"), (.builtin "function.__dict__#set")]), #[]⟩
def o220 (P : Params) : Obj := ⟨(.type "getset_descriptor"), none, (.fields #[(.str (q "__weakref__") 454), (.ref 218), (.builtin "ExceptionGroup.__weakref__"), .none]), #[]⟩
def o221 (P : Params) : Obj := ⟨(.type "super"), none, (.fields #[(.ref 218), (.ref 218), (.ref 218)]), #[]⟩
def o222 (P : Params) : Obj := ⟨(.type "builtin_function_or_method"), none, (.fields #[(.builtin "object.__init_subclass__"), (.ref 218)]), #[]⟩
def o223 (P : Params) : Obj := ⟨(.type "tuple"), none, (.seq #[(.ref 197)] 0), #[]⟩
def o224 (P : Params) : Obj := ⟨(.type "builtin_function_or_method"), none, (.fields #[(.builtin "type.__prepare__"), (.type "type")]), #[]⟩
def o225 (P : Params) : Obj := ⟨(.type "dict"), none, (.dict #[en P "__module__" 468 (.str (q "snowballstemmer.danish_stemmer") 459), en P "__qualname__" 470 (.str (q "DanishStemmer") 469), en P "__firstlineno__" 472 (.int (172) 471), en P "g_undouble_c" 497 (.ref 230), en P "g_v" 516 (.ref 231), en P "g_s_ending" 559 (.ref 232), en P "I_p1" 561 (.int (0) 560), en P "r_mark_regions" 571 (.ref 239), en P "r_main_suffix" 580 (.ref 246), en P "r_consonant_pair" 589 (.ref 253), en P "r_other_suffix" 600 (.ref 260), en P "r_undouble" 609 (.ref 267), en P "_stem" 620 (.ref 274), en P "a_0" 1044 (.ref 371), en P "a_1" 1105 (.ref 384), en P "a_2" 1174 (.ref 400), en P "__static_attributes__" 1180 (.ref 401)] 17), #[]⟩
def o226 (P : Params) : Obj := ⟨(.type "tuple"), none, (.seq #[] 0), #[]⟩
def o227 (P : Params) : Obj := ⟨.none, none, (.fields #[(.int (178) 0), (.int (4) 0), (.ref 238), (.int (224) 0), (.int (4) 0), (.ref 245), (.int (244) 0), (.int (4) 0), (.ref 252), (.int (264) 0), (.int (4) 0), (.ref 259), (.int (297) 0), (.int (4) 0), (.ref 266), (.int (314) 0), (.int (4) 0), (.ref 273)]), #[]⟩
def o228 (P : Params) : Obj := ⟨(.type "code"), none, (.fields #[(.str (q "DanishStemmer") 463), (.str (q "DanishStemmer") 464), (.str (q "/claim/cut.py") 465), (.int (172) 0), (.int (0) 0), (.int (0) 0), (.int (0) 0), (.int (0) 0), (.ref 226), (.bool false), (.int (181) 0), (.ref 227), .none, .none, .none, .none, (.int (466) 0), (.int (172) 0), (.str (q "/claim/cut.py") 467)]), #[]⟩
def o233 (P : Params) : Obj := ⟨(.type "tuple"), none, (.seq #[] 0), #[]⟩
def o234 (P : Params) : Obj := ⟨.none, none, (.fields #[]), #[]⟩
def o235 (P : Params) : Obj := ⟨(.type "tuple"), none, (.seq #[(.str (q "self") 565), (.str (q "v_1") 566), (.str (q "v_2") 567), (.str (q "v_3") 568)] 0), #[]⟩
def o236 (P : Params) : Obj := ⟨(.type "tuple"), none, (.seq #[] 0), #[]⟩
def o238 (P : Params) : Obj := ⟨(.type "code"), none, (.fields #[(.str (q "r_mark_regions") 562), (.str (q "DanishStemmer.r_mark_regions") 563), (.str (q "/claim/cut.py") 564), (.int (178) 0), (.int (1) 0), (.int (0) 0), (.int (0) 0), (.int (3) 0), (.ref 233), (.bool true), (.int (181) 0), (.ref 234), .none, (.ref 235), (.ref 236), (.ref 237), (.int (569) 0), (.int (178) 0), (.str (q "/claim/cut.py") 570)]), #[]⟩
def o239 (P : Params) : Obj := ⟨(.type "function"), none, (.func (fd (defIn2 6 4) "r_mark_regions" (q "DanishStemmer.r_mark_regions") .none .none .none (.str (q "snowballstemmer.danish_stemmer") 459) none (.ref 238) .none)), #[]⟩
def o240 (P : Params) : Obj := ⟨(.type "tuple"), none, (.seq #[] 0), #[]⟩
def o241 (P : Params) : Obj := ⟨.none, none, (.fields #[]), #[]⟩
def o242 (P : Params) : Obj := ⟨(.type "tuple"), none, (.seq #[(.str (q "self") 575), (.str (q "v_2") 576), (.str (q "among_var") 577)] 0), #[]⟩
def o243 (P : Params) : Obj := ⟨(.type "tuple"), none, (.seq #[] 0), #[]⟩
def o245 (P : Params) : Obj := ⟨(.type "code"), none, (.fields #[(.str (q "r_main_suffix") 572), (.str (q "DanishStemmer.r_main_suffix") 573), (.str (q "/claim/cut.py") 574), (.int (224) 0), (.int (1) 0), (.int (0) 0), (.int (0) 0), (.int (3) 0), (.ref 240), (.bool true), (.int (181) 0), (.ref 241), .none, (.ref 242), (.ref 243), (.ref 244), (.int (578) 0), (.int (224) 0), (.str (q "/claim/cut.py") 579)]), #[]⟩
def o246 (P : Params) : Obj := ⟨(.type "function"), none, (.func (fd (defIn2 6 5) "r_main_suffix" (q "DanishStemmer.r_main_suffix") .none .none .none (.str (q "snowballstemmer.danish_stemmer") 459) none (.ref 245) .none)), #[]⟩
def o247 (P : Params) : Obj := ⟨(.type "tuple"), none, (.seq #[] 0), #[]⟩
def o248 (P : Params) : Obj := ⟨.none, none, (.fields #[]), #[]⟩
def o249 (P : Params) : Obj := ⟨(.type "tuple"), none, (.seq #[(.str (q "self") 584), (.str (q "v_1") 585), (.str (q "v_3") 586)] 0), #[]⟩
def o250 (P : Params) : Obj := ⟨(.type "tuple"), none, (.seq #[] 0), #[]⟩
def o252 (P : Params) : Obj := ⟨(.type "code"), none, (.fields #[(.str (q "r_consonant_pair") 581), (.str (q "DanishStemmer.r_consonant_pair") 582), (.str (q "/claim/cut.py") 583), (.int (244) 0), (.int (1) 0), (.int (0) 0), (.int (0) 0), (.int (3) 0), (.ref 247), (.bool true), (.int (181) 0), (.ref 248), .none, (.ref 249), (.ref 250), (.ref 251), (.int (587) 0), (.int (244) 0), (.str (q "/claim/cut.py") 588)]), #[]⟩
def o253 (P : Params) : Obj := ⟨(.type "function"), none, (.func (fd (defIn2 6 6) "r_consonant_pair" (q "DanishStemmer.r_consonant_pair") .none .none .none (.str (q "snowballstemmer.danish_stemmer") 459) none (.ref 252) .none)), #[]⟩
def o254 (P : Params) : Obj := ⟨(.type "tuple"), none, (.seq #[] 0), #[]⟩
def o255 (P : Params) : Obj := ⟨.none, none, (.fields #[]), #[]⟩
def o256 (P : Params) : Obj := ⟨(.type "tuple"), none, (.seq #[(.str (q "self") 593), (.str (q "v_1") 594), (.str (q "v_3") 595), (.str (q "among_var") 596), (.str (q "v_4") 597)] 0), #[]⟩
def o257 (P : Params) : Obj := ⟨(.type "tuple"), none, (.seq #[] 0), #[]⟩
def o259 (P : Params) : Obj := ⟨(.type "code"), none, (.fields #[(.str (q "r_other_suffix") 590), (.str (q "DanishStemmer.r_other_suffix") 591), (.str (q "/claim/cut.py") 592), (.int (264) 0), (.int (1) 0), (.int (0) 0), (.int (0) 0), (.int (3) 0), (.ref 254), (.bool true), (.int (181) 0), (.ref 255), .none, (.ref 256), (.ref 257), (.ref 258), (.int (598) 0), (.int (264) 0), (.str (q "/claim/cut.py") 599)]), #[]⟩
def o260 (P : Params) : Obj := ⟨(.type "function"), none, (.func (fd (defIn2 6 7) "r_other_suffix" (q "DanishStemmer.r_other_suffix") .none .none .none (.str (q "snowballstemmer.danish_stemmer") 459) none (.ref 259) .none)), #[]⟩
def o261 (P : Params) : Obj := ⟨(.type "tuple"), none, (.seq #[] 0), #[]⟩
def o262 (P : Params) : Obj := ⟨.none, none, (.fields #[]), #[]⟩
def o263 (P : Params) : Obj := ⟨(.type "tuple"), none, (.seq #[(.str (q "self") 604), (.str (q "v_2") 605), (.str (q "S_ch") 606)] 0), #[]⟩
def o264 (P : Params) : Obj := ⟨(.type "tuple"), none, (.seq #[] 0), #[]⟩
def o266 (P : Params) : Obj := ⟨(.type "code"), none, (.fields #[(.str (q "r_undouble") 601), (.str (q "DanishStemmer.r_undouble") 602), (.str (q "/claim/cut.py") 603), (.int (297) 0), (.int (1) 0), (.int (0) 0), (.int (0) 0), (.int (3) 0), (.ref 261), (.bool true), (.int (181) 0), (.ref 262), .none, (.ref 263), (.ref 264), (.ref 265), (.int (607) 0), (.int (297) 0), (.str (q "/claim/cut.py") 608)]), #[]⟩
def o267 (P : Params) : Obj := ⟨(.type "function"), none, (.func (fd (defIn2 6 8) "r_undouble" (q "DanishStemmer.r_undouble") .none .none .none (.str (q "snowballstemmer.danish_stemmer") 459) none (.ref 266) .none)), #[]⟩
def o268 (P : Params) : Obj := ⟨(.type "tuple"), none, (.seq #[] 0), #[]⟩
def o269 (P : Params) : Obj := ⟨.none, none, (.fields #[]), #[]⟩
def o270 (P : Params) : Obj := ⟨(.type "tuple"), none, (.seq #[(.str (q "self") 613), (.str (q "v_1") 614), (.str (q "v_2") 615), (.str (q "v_3") 616), (.str (q "v_4") 617)] 0), #[]⟩
def o271 (P : Params) : Obj := ⟨(.type "tuple"), none, (.seq #[] 0), #[]⟩
def o273 (P : Params) : Obj := ⟨(.type "code"), none, (.fields #[(.str (q "_stem") 610), (.str (q "DanishStemmer._stem") 611), (.str (q "/claim/cut.py") 612), (.int (314) 0), (.int (1) 0), (.int (0) 0), (.int (0) 0), (.int (3) 0), (.ref 268), (.bool true), (.int (181) 0), (.ref 269), .none, (.ref 270), (.ref 271), (.ref 272), (.int (618) 0), (.int (314) 0), (.str (q "/claim/cut.py") 619)]), #[]⟩
def o274 (P : Params) : Obj := ⟨(.type "function"), none, (.func (fd (defIn2 6 9) "_stem" (q "DanishStemmer._stem") .none .none .none (.str (q "snowballstemmer.danish_stemmer") 459) none (.ref 273) .none)), #[]⟩
def o275 (P : Params) : Obj := ⟨(.type "dict"), none, (.dict #[en P "s" 630 (.str (q "hed") 621), en P "substring_i" 632 (.int (-1) 623), en P "result" 634 (.int (1) 624)] 3), #[]⟩
def o276 (P : Params) : Obj := ⟨(.ref 218), (some 275), .plain, #[]⟩
def o278 (P : Params) : Obj := ⟨(.type "dict"), none, (.dict #[en P "s" 643 (.str (q "ethed") 635), en P "substring_i" 645 (.int (0) 636), en P "result" 647 (.int (1) 637)] 3), #[]⟩
def o279 (P : Params) : Obj := ⟨(.ref 218), (some 278), .plain, #[]⟩
def o281 (P : Params) : Obj := ⟨(.type "dict"), none, (.dict #[en P "s" 657 (.str (q "ered") 648), en P "substring_i" 659 (.int (-1) 650), en P "result" 661 (.int (1) 651)] 3), #[]⟩
def o282 (P : Params) : Obj := ⟨(.ref 218), (some 281), .plain, #[]⟩
def o284 (P : Params) : Obj := ⟨(.type "dict"), none, (.dict #[en P "s" 671 (.str (q "e") 662), en P "substring_i" 673 (.int (-1) 664), en P "result" 675 (.int (1) 665)] 3), #[]⟩
def o285 (P : Params) : Obj := ⟨(.ref 218), (some 284), .plain, #[]⟩
def o287 (P : Params) : Obj := ⟨(.type "dict"), none, (.dict #[en P "s" 684 (.str (q "erede") 676), en P "substring_i" 686 (.int (3) 677), en P "result" 688 (.int (1) 678)] 3), #[]⟩
def o288 (P : Params) : Obj := ⟨(.ref 218), (some 287), .plain, #[]⟩
def o290 (P : Params) : Obj := ⟨(.type "dict"), none, (.dict #[en P "s" 697 (.str (q "ende") 689), en P "substring_i" 699 (.int (3) 690), en P "result" 701 (.int (1) 691)] 3), #[]⟩
def o291 (P : Params) : Obj := ⟨(.ref 218), (some 290), .plain, #[]⟩
def o293 (P : Params) : Obj := ⟨(.type "dict"), none, (.dict #[en P "s" 710 (.str (q "erende") 702), en P "substring_i" 712 (.int (5) 703), en P "result" 714 (.int (1) 704)] 3), #[]⟩
def o294 (P : Params) : Obj := ⟨(.ref 218), (some 293), .plain, #[]⟩
def o296 (P : Params) : Obj := ⟨(.type "dict"), none, (.dict #[en P "s" 723 (.str (q "ene") 715), en P "substring_i" 725 (.int (3) 716), en P "result" 727 (.int (1) 717)] 3), #[]⟩
def o297 (P : Params) : Obj := ⟨(.ref 218), (some 296), .plain, #[]⟩
def o299 (P : Params) : Obj := ⟨(.type "dict"), none, (.dict #[en P "s" 736 (.str (q "erne") 728), en P "substring_i" 738 (.int (3) 729), en P "result" 740 (.int (1) 730)] 3), #[]⟩
def o300 (P : Params) : Obj := ⟨(.ref 218), (some 299), .plain, #[]⟩
def o302 (P : Params) : Obj := ⟨(.type "dict"), none, (.dict #[en P "s" 749 (.str (q "ere") 741), en P "substring_i" 751 (.int (3) 742), en P "result" 753 (.int (1) 743)] 3), #[]⟩
def o303 (P : Params) : Obj := ⟨(.ref 218), (some 302), .plain, #[]⟩
def o305 (P : Params) : Obj := ⟨(.type "dict"), none, (.dict #[en P "s" 763 (.str (q "en") 754), en P "substring_i" 765 (.int (-1) 756), en P "result" 767 (.int (1) 757)] 3), #[]⟩
def o306 (P : Params) : Obj := ⟨(.ref 218), (some 305), .plain, #[]⟩
def o308 (P : Params) : Obj := ⟨(.type "dict"), none, (.dict #[en P "s" 776 (.str (q "heden") 768), en P "substring_i" 778 (.int (10) 769), en P "result" 780 (.int (1) 770)] 3), #[]⟩
def o309 (P : Params) : Obj := ⟨(.ref 218), (some 308), .plain, #[]⟩
def o311 (P : Params) : Obj := ⟨(.type "dict"), none, (.dict #[en P "s" 789 (.str (q "eren") 781), en P "substring_i" 791 (.int (10) 782), en P "result" 793 (.int (1) 783)] 3), #[]⟩
def o312 (P : Params) : Obj := ⟨(.ref 218), (some 311), .plain, #[]⟩
def o314 (P : Params) : Obj := ⟨(.type "dict"), none, (.dict #[en P "s" 803 (.str (q "er") 794), en P "substring_i" 805 (.int (-1) 796), en P "result" 807 (.int (1) 797)] 3), #[]⟩
def o315 (P : Params) : Obj := ⟨(.ref 218), (some 314), .plain, #[]⟩
def o317 (P : Params) : Obj := ⟨(.type "dict"), none, (.dict #[en P "s" 816 (.str (q "heder") 808), en P "substring_i" 818 (.int (13) 809), en P "result" 820 (.int (1) 810)] 3), #[]⟩
def o318 (P : Params) : Obj := ⟨(.ref 218), (some 317), .plain, #[]⟩
def o320 (P : Params) : Obj := ⟨(.type "dict"), none, (.dict #[en P "s" 829 (.str (q "erer") 821), en P "substring_i" 831 (.int (13) 822), en P "result" 833 (.int (1) 823)] 3), #[]⟩
def o321 (P : Params) : Obj := ⟨(.ref 218), (some 320), .plain, #[]⟩
def o323 (P : Params) : Obj := ⟨(.type "dict"), none, (.dict #[en P "s" 843 (.str (q "s") 834), en P "substring_i" 845 (.int (-1) 836), en P "result" 847 (.int (2) 837)] 3), #[]⟩
def o324 (P : Params) : Obj := ⟨(.ref 218), (some 323), .plain, #[]⟩
def o326 (P : Params) : Obj := ⟨(.type "dict"), none, (.dict #[en P "s" 856 (.str (q "heds") 848), en P "substring_i" 858 (.int (16) 849), en P "result" 860 (.int (1) 850)] 3), #[]⟩
def o327 (P : Params) : Obj := ⟨(.ref 218), (some 326), .plain, #[]⟩
def o329 (P : Params) : Obj := ⟨(.type "dict"), none, (.dict #[en P "s" 869 (.str (q "es") 861), en P "substring_i" 871 (.int (16) 862), en P "result" 873 (.int (1) 863)] 3), #[]⟩
def o330 (P : Params) : Obj := ⟨(.ref 218), (some 329), .plain, #[]⟩
def o332 (P : Params) : Obj := ⟨(.type "dict"), none, (.dict #[en P "s" 882 (.str (q "endes") 874), en P "substring_i" 884 (.int (18) 875), en P "result" 886 (.int (1) 876)] 3), #[]⟩
def o333 (P : Params) : Obj := ⟨(.ref 218), (some 332), .plain, #[]⟩
def o335 (P : Params) : Obj := ⟨(.type "dict"), none, (.dict #[en P "s" 895 (.str (q "erendes") 887), en P "substring_i" 897 (.int (19) 888), en P "result" 899 (.int (1) 889)] 3), #[]⟩
def o336 (P : Params) : Obj := ⟨(.ref 218), (some 335), .plain, #[]⟩
def o338 (P : Params) : Obj := ⟨(.type "dict"), none, (.dict #[en P "s" 908 (.str (q "enes") 900), en P "substring_i" 910 (.int (18) 901), en P "result" 912 (.int (1) 902)] 3), #[]⟩
def o339 (P : Params) : Obj := ⟨(.ref 218), (some 338), .plain, #[]⟩
def o341 (P : Params) : Obj := ⟨(.type "dict"), none, (.dict #[en P "s" 921 (.str (q "ernes") 913), en P "substring_i" 923 (.int (18) 914), en P "result" 925 (.int (1) 915)] 3), #[]⟩
def o342 (P : Params) : Obj := ⟨(.ref 218), (some 341), .plain, #[]⟩
def o344 (P : Params) : Obj := ⟨(.type "dict"), none, (.dict #[en P "s" 934 (.str (q "eres") 926), en P "substring_i" 936 (.int (18) 927), en P "result" 938 (.int (1) 928)] 3), #[]⟩
def o345 (P : Params) : Obj := ⟨(.ref 218), (some 344), .plain, #[]⟩
def o347 (P : Params) : Obj := ⟨(.type "dict"), none, (.dict #[en P "s" 947 (.str (q "ens") 939), en P "substring_i" 949 (.int (16) 940), en P "result" 951 (.int (1) 941)] 3), #[]⟩
def o348 (P : Params) : Obj := ⟨(.ref 218), (some 347), .plain, #[]⟩
def o350 (P : Params) : Obj := ⟨(.type "dict"), none, (.dict #[en P "s" 960 (.str (q "hedens") 952), en P "substring_i" 962 (.int (24) 953), en P "result" 964 (.int (1) 954)] 3), #[]⟩
def o351 (P : Params) : Obj := ⟨(.ref 218), (some 350), .plain, #[]⟩
def o353 (P : Params) : Obj := ⟨(.type "dict"), none, (.dict #[en P "s" 973 (.str (q "erens") 965), en P "substring_i" 975 (.int (24) 966), en P "result" 977 (.int (1) 967)] 3), #[]⟩
def o354 (P : Params) : Obj := ⟨(.ref 218), (some 353), .plain, #[]⟩
def o356 (P : Params) : Obj := ⟨(.type "dict"), none, (.dict #[en P "s" 986 (.str (q "ers") 978), en P "substring_i" 988 (.int (16) 979), en P "result" 990 (.int (1) 980)] 3), #[]⟩
def o357 (P : Params) : Obj := ⟨(.ref 218), (some 356), .plain, #[]⟩
def o359 (P : Params) : Obj := ⟨(.type "dict"), none, (.dict #[en P "s" 999 (.str (q "ets") 991), en P "substring_i" 1001 (.int (16) 992), en P "result" 1003 (.int (1) 993)] 3), #[]⟩
def o360 (P : Params) : Obj := ⟨(.ref 218), (some 359), .plain, #[]⟩
def o362 (P : Params) : Obj := ⟨(.type "dict"), none, (.dict #[en P "s" 1012 (.str (q "erets") 1004), en P "substring_i" 1014 (.int (28) 1005), en P "result" 1016 (.int (1) 1006)] 3), #[]⟩
def o363 (P : Params) : Obj := ⟨(.ref 218), (some 362), .plain, #[]⟩
def o365 (P : Params) : Obj := ⟨(.type "dict"), none, (.dict #[en P "s" 1026 (.str (q "et") 1017), en P "substring_i" 1028 (.int (-1) 1019), en P "result" 1030 (.int (1) 1020)] 3), #[]⟩
def o366 (P : Params) : Obj := ⟨(.ref 218), (some 365), .plain, #[]⟩
def o368 (P : Params) : Obj := ⟨(.type "dict"), none, (.dict #[en P "s" 1039 (.str (q "eret") 1031), en P "substring_i" 1041 (.int (30) 1032), en P "result" 1043 (.int (1) 1033)] 3), #[]⟩
def o369 (P : Params) : Obj := ⟨(.ref 218), (some 368), .plain, #[]⟩
def o371 (P : Params) : Obj := ⟨(.type "list"), none, (.seq #[(.ref 276), (.ref 279), (.ref 282), (.ref 285), (.ref 288), (.ref 291), (.ref 294), (.ref 297), (.ref 300), (.ref 303), (.ref 306), (.ref 309), (.ref 312), (.ref 315), (.ref 318), (.ref 321), (.ref 324), (.ref 327), (.ref 330), (.ref 333), (.ref 336), (.ref 339), (.ref 342), (.ref 345), (.ref 348), (.ref 351), (.ref 354), (.ref 357), (.ref 360), (.ref 363), (.ref 366), (.ref 369)] 0), #[]⟩
def o372 (P : Params) : Obj := ⟨(.type "dict"), none, (.dict #[en P "s" 1055 (.str (q "gd") 1045), en P "substring_i" 1057 (.int (-1) 1047), en P "result" 1059 (.int (-1) 1049)] 3), #[]⟩
def o373 (P : Params) : Obj := ⟨(.ref 218), (some 372), .plain, #[]⟩
def o375 (P : Params) : Obj := ⟨(.type "dict"), none, (.dict #[en P "s" 1070 (.str (q "dt") 1060), en P "substring_i" 1072 (.int (-1) 1062), en P "result" 1074 (.int (-1) 1064)] 3), #[]⟩
def o376 (P : Params) : Obj := ⟨(.ref 218), (some 375), .plain, #[]⟩
def o378 (P : Params) : Obj := ⟨(.type "dict"), none, (.dict #[en P "s" 1085 (.str (q "gt") 1075), en P "substring_i" 1087 (.int (-1) 1077), en P "result" 1089 (.int (-1) 1079)] 3), #[]⟩
def o379 (P : Params) : Obj := ⟨(.ref 218), (some 378), .plain, #[]⟩
def o381 (P : Params) : Obj := ⟨(.type "dict"), none, (.dict #[en P "s" 1100 (.str (q "kt") 1090), en P "substring_i" 1102 (.int (-1) 1092), en P "result" 1104 (.int (-1) 1094)] 3), #[]⟩
def o382 (P : Params) : Obj := ⟨(.ref 218), (some 381), .plain, #[]⟩
def o384 (P : Params) : Obj := ⟨(.type "list"), none, (.seq #[(.ref 373), (.ref 376), (.ref 379), (.ref 382)] 0), #[]⟩
def o385 (P : Params) : Obj := ⟨(.type "dict"), none, (.dict #[en P "s" 1115 (.str (q "ig") 1106), en P "substring_i" 1117 (.int (-1) 1108), en P "result" 1119 (.int (1) 1109)] 3), #[]⟩
def o386 (P : Params) : Obj := ⟨(.ref 218), (some 385), .plain, #[]⟩
def o388 (P : Params) : Obj := ⟨(.type "dict"), none, (.dict #[en P "s" 1128 (.str (q "lig") 1120), en P "substring_i" 1130 (.int (0) 1121), en P "result" 1132 (.int (1) 1122)] 3), #[]⟩
def o389 (P : Params) : Obj := ⟨(.ref 218), (some 388), .plain, #[]⟩
def o391 (P : Params) : Obj := ⟨(.type "dict"), none, (.dict #[en P "s" 1141 (.str (q "elig") 1133), en P "substring_i" 1143 (.int (1) 1134), en P "result" 1145 (.int (1) 1135)] 3), #[]⟩
def o392 (P : Params) : Obj := ⟨(.ref 218), (some 391), .plain, #[]⟩
def o394 (P : Params) : Obj := ⟨(.type "dict"), none, (.dict #[en P "s" 1155 (.str (q "els") 1146), en P "substring_i" 1157 (.int (-1) 1148), en P "result" 1159 (.int (1) 1149)] 3), #[]⟩
def o395 (P : Params) : Obj := ⟨(.ref 218), (some 394), .plain, #[]⟩
def o397 (P : Params) : Obj := ⟨(.type "dict"), none, (.dict #[en P "s" 1169 (.str (q "løst") 1160), en P "substring_i" 1171 (.int (-1) 1162), en P "result" 1173 (.int (2) 1163)] 3), #[]⟩
def o398 (P : Params) : Obj := ⟨(.ref 218), (some 397), .plain, #[]⟩
def o400 (P : Params) : Obj := ⟨(.type "list"), none, (.seq #[(.ref 386), (.ref 389), (.ref 392), (.ref 395), (.ref 398)] 0), #[]⟩
def o401 (P : Params) : Obj := ⟨(.type "tuple"), none, (.seq #[(.str (q "I_p1") 1175), (.str (q "bra") 1176), (.str (q "cursor") 1177), (.str (q "ket") 1178), (.str (q "limit_backward") 1179)] 0), #[]⟩
def o402 (P : Params) : Obj := ⟨(.type "dict"), none, (.dict #[en P "__module__" 468 (.str (q "snowballstemmer.danish_stemmer") 459), en P "__firstlineno__" 472 (.int (172) 471), en P "g_undouble_c" 497 (.ref 230), en P "g_v" 516 (.ref 231), en P "g_s_ending" 559 (.ref 232), en P "I_p1" 561 (.int (0) 560), en P "r_mark_regions" 571 (.ref 239), en P "r_main_suffix" 580 (.ref 246), en P "r_consonant_pair" 589 (.ref 253), en P "r_other_suffix" 600 (.ref 260), en P "r_undouble" 609 (.ref 267), en P "_stem" 620 (.ref 274), en P "a_0" 1044 (.ref 371), en P "a_1" 1105 (.ref 384), en P "a_2" 1174 (.ref 400), en P "__static_attributes__" 1180 (.ref 401), en P "__doc__" 1181 .none] 2), #[]⟩
def o403 (P : Params) : Obj := ⟨(.type "type"), none, (.cls { name := (q "DanishStemmer"), bases := [(.ref 197)], mro := [(.ref 403), (.ref 197), (.type "object")], ns := 402, qualname := (q "DanishStemmer"), hasDict := true, slotNames := [], subclasses := [], abstract := false, collection := none, hasDel := false }), #[(some (.ref 223)), none, (some (.str (q "DanishStemmer") 461)), (some (.str (q "DanishStemmer") 469)), (some (.builtin "object.__new__")), (some (.bool true))]⟩
def o404 (P : Params) : Obj := ⟨(.type "super"), none, (.fields #[(.ref 403), (.ref 403), (.ref 403)]), #[]⟩
def o405 (P : Params) : Obj := ⟨(.type "builtin_function_or_method"), none, (.fields #[(.builtin "object.__init_subclass__"), (.ref 403)]), #[]⟩
def o406 (P : Params) : Obj := ⟨(.type "tuple"), none, (.seq #[(.type "Exception")] 0), #[]⟩
def o407 (P : Params) : Obj := ⟨(.type "builtin_function_or_method"), none, (.fields #[(.builtin "type.__prepare__"), (.type "type")]), #[]⟩
def o408 (P : Params) : Obj := ⟨(.type "dict"), none, (.dict #[en P "__module__" 1191 (.str (q "snowballstemmer.danish_stemmer") 459), en P "__qualname__" 1193 (.str (q "lab0") 1192), en P "__firstlineno__" 1195 (.int (342) 1194), en P "__static_attributes__" 1196 (.ref 413)] 4), #[]⟩
def o409 (P : Params) : Obj := ⟨(.type "tuple"), none, (.seq #[] 0), #[]⟩
def o410 (P : Params) : Obj := ⟨.none, none, (.fields #[]), #[]⟩
def o411 (P : Params) : Obj := ⟨(.type "code"), none, (.fields #[(.str (q "lab0") 1186), (.str (q "lab0") 1187), (.str (q "/claim/cut.py") 1188), (.int (342) 0), (.int (0) 0), (.int (0) 0), (.int (0) 0), (.int (0) 0), (.ref 409), (.bool false), (.int (181) 0), (.ref 410), .none, .none, .none, .none, (.int (1189) 0), (.int (342) 0), (.str (q "/claim/cut.py") 1190)]), #[]⟩
def o413 (P : Params) : Obj := ⟨(.type "tuple"), none, (.seq #[] 0), #[]⟩
def o414 (P : Params) : Obj := ⟨(.type "dict"), none, (.dict #[en P "__module__" 1191 (.str (q "snowballstemmer.danish_stemmer") 459), en P "__firstlineno__" 1195 (.int (342) 1194), en P "__static_attributes__" 1196 (.ref 413), en P "__weakref__" 1198 (.ref 416), en P "__doc__" 1199 .none] 3), #[]⟩
def o415 (P : Params) : Obj := ⟨(.type "type"), none, (.cls { name := (q "lab0"), bases := [(.type "Exception")], mro := [(.ref 415), (.type "Exception"), (.type "BaseException"), (.type "object")], ns := 414, qualname := (q "lab0"), hasDict := true, slotNames := [], subclasses := [], abstract := false, collection := none, hasDel := false }), #[(some (.ref 406)), none, (some (.str (q "lab0") 1184)), (some (.str (q "lab0") 1192)), (some (.builtin "Exception.__new__")), (some (.bool true))]⟩
def o416 (P : Params) : Obj := ⟨(.type "getset_descriptor"), none, (.fields #[(.str (q "__weakref__") 1197), (.ref 415), (.builtin "ExceptionGroup.__weakref__"), .none]), #[]⟩
def o417 (P : Params) : Obj := ⟨(.type "super"), none, (.fields #[(.ref 415), (.ref 415), (.ref 415)]), #[]⟩
def o418 (P : Params) : Obj := ⟨(.type "builtin_function_or_method"), none, (.fields #[(.builtin "object.__init_subclass__"), (.ref 415)]), #[]⟩
def o419 (P : Params) : Obj := ⟨(.type "tuple"), none, (.seq #[(.type "Exception")] 0), #[]⟩
def o420 (P : Params) : Obj := ⟨(.type "builtin_function_or_method"), none, (.fields #[(.builtin "type.__prepare__"), (.type "type")]), #[]⟩
def o421 (P : Params) : Obj := ⟨(.type "dict"), none, (.dict #[en P "__module__" 1212 (.str (q "snowballstemmer.danish_stemmer") 459), en P "__qualname__" 1214 (.str (q "lab1") 1213), en P "__firstlineno__" 1216 (.int (345) 1215), en P "__static_attributes__" 1217 (.ref 426)] 4), #[]⟩
def o422 (P : Params) : Obj := ⟨(.type "tuple"), none, (.seq #[] 0), #[]⟩
def o423 (P : Params) : Obj := ⟨.none, none, (.fields #[]), #[]⟩
def o424 (P : Params) : Obj := ⟨(.type "code"), none, (.fields #[(.str (q "lab1") 1207), (.str (q "lab1") 1208), (.str (q "/claim/cut.py") 1209), (.int (345) 0), (.int (0) 0), (.int (0) 0), (.int (0) 0), (.int (0) 0), (.ref 422), (.bool false), (.int (181) 0), (.ref 423), .none, .none, .none, .none, (.int (1210) 0), (.int (345) 0), (.str (q "/claim/cut.py") 1211)]), #[]⟩
def o426 (P : Params) : Obj := ⟨(.type "tuple"), none, (.seq #[] 0), #[]⟩
def o427 (P : Params) : Obj := ⟨(.type "dict"), none, (.dict #[en P "__module__" 1212 (.str (q "snowballstemmer.danish_stemmer") 459), en P "__firstlineno__" 1216 (.int (345) 1215), en P "__static_attributes__" 1217 (.ref 426), en P "__weakref__" 1219 (.ref 429), en P "__doc__" 1220 .none] 3), #[]⟩
def o428 (P : Params) : Obj := ⟨(.type "type"), none, (.cls { name := (q "lab1"), bases := [(.type "Exception")], mro := [(.ref 428), (.type "Exception"), (.type "BaseException"), (.type "object")], ns := 427, qualname := (q "lab1"), hasDict := true, slotNames := [], subclasses := [], abstract := false, collection := none, hasDel := false }), #[(some (.ref 419)), none, (some (.str (q "lab1") 1205)), (some (.str (q "lab1") 1213)), (some (.builtin "Exception.__new__")), (some (.bool true))]⟩
def o429 (P : Params) : Obj := ⟨(.type "getset_descriptor"), none, (.fields #[(.str (q "__weakref__") 1218), (.ref 428), (.builtin "ExceptionGroup.__weakref__"), .none]), #[]⟩
def o430 (P : Params) : Obj := ⟨(.type "super"), none, (.fields #[(.ref 428), (.ref 428), (.ref 428)]), #[]⟩
def o431 (P : Params) : Obj := ⟨(.type "builtin_function_or_method"), none, (.fields #[(.builtin "object.__init_subclass__"), (.ref 428)]), #[]⟩
def o432 (P : Params) : Obj := ⟨(.type "tuple"), none, (.seq #[(.type "Exception")] 0), #[]⟩
def o433 (P : Params) : Obj := ⟨(.type "builtin_function_or_method"), none, (.fields #[(.builtin "type.__prepare__"), (.type "type")]), #[]⟩
def o434 (P : Params) : Obj := ⟨(.type "dict"), none, (.dict #[en P "__module__" 1233 (.str (q "snowballstemmer.danish_stemmer") 459), en P "__qualname__" 1235 (.str (q "lab2") 1234), en P "__firstlineno__" 1237 (.int (348) 1236), en P "__static_attributes__" 1238 (.ref 439)] 4), #[]⟩
def o435 (P : Params) : Obj := ⟨(.type "tuple"), none, (.seq #[] 0), #[]⟩
def o436 (P : Params) : Obj := ⟨.none, none, (.fields #[]), #[]⟩
def o437 (P : Params) : Obj := ⟨(.type "code"), none, (.fields #[(.str (q "lab2") 1228), (.str (q "lab2") 1229), (.str (q "/claim/cut.py") 1230), (.int (348) 0), (.int (0) 0), (.int (0) 0), (.int (0) 0), (.int (0) 0), (.ref 435), (.bool false), (.int (181) 0), (.ref 436), .none, .none, .none, .none, (.int (1231) 0), (.int (348) 0), (.str (q "/claim/cut.py") 1232)]), #[]⟩
def o439 (P : Params) : Obj := ⟨(.type "tuple"), none, (.seq #[] 0), #[]⟩
def o440 (P : Params) : Obj := ⟨(.type "dict"), none, (.dict #[en P "__module__" 1233 (.str (q "snowballstemmer.danish_stemmer") 459), en P "__firstlineno__" 1237 (.int (348) 1236), en P "__static_attributes__" 1238 (.ref 439), en P "__weakref__" 1240 (.ref 442), en P "__doc__" 1241 .none] 3), #[]⟩
def o441 (P : Params) : Obj := ⟨(.type "type"), none, (.cls { name := (q "lab2"), bases := [(.type "Exception")], mro := [(.ref 441), (.type "Exception"), (.type "BaseException"), (.type "object")], ns := 440, qualname := (q "lab2"), hasDict := true, slotNames := [], subclasses := [], abstract := false, collection := none, hasDel := false }), #[(some (.ref 432)), none, (some (.str (q "lab2") 1226)), (some (.str (q "lab2") 1234)), (some (.builtin "Exception.__new__")), (some (.bool true))]⟩
def o442 (P : Params) : Obj := ⟨(.type "getset_descriptor"), none, (.fields #[(.str (q "__weakref__") 1239), (.ref 441), (.builtin "ExceptionGroup.__weakref__"), .none]), #[]⟩
def o443 (P : Params) : Obj := ⟨(.type "super"), none, (.fields #[(.ref 441), (.ref 441), (.ref 441)]), #[]⟩
def o444 (P : Params) : Obj := ⟨(.type "builtin_function_or_method"), none, (.fields #[(.builtin "object.__init_subclass__"), (.ref 441)]), #[]⟩
def o445 (P : Params) : Obj := ⟨(.type "tuple"), none, (.seq #[(.ref 197)] 0), #[]⟩
def o446 (P : Params) : Obj := ⟨(.type "builtin_function_or_method"), none, (.fields #[(.builtin "type.__prepare__"), (.type "type")]), #[]⟩
def o447 (P : Params) : Obj := ⟨(.type "dict"), none, (.dict #[en P "__module__" 1256 (.str (q "snowballstemmer.norwegian_stemmer") 1247), en P "__qualname__" 1258 (.str (q "NorwegianStemmer") 1257), en P "__firstlineno__" 1260 (.int (352) 1259), en P "g_v" 1287 (.ref 452), en P "g_s_ending" 1320 (.ref 453), en P "I_p1" 1322 (.int (0) 1321), en P "r_mark_regions" 1332 (.ref 460), en P "r_main_suffix" 1342 (.ref 467), en P "r_consonant_pair" 1351 (.ref 474), en P "r_other_suffix" 1359 (.ref 481), en P "_stem" 1369 (.ref 488), en P "a_0" 1577 (.ref 534), en P "a_1" 1964 (.ref 622), en P "a_2" 1995 (.ref 629), en P "a_3" 2143 (.ref 663), en P "__static_attributes__" 2149 (.ref 664)] 16), #[]⟩
def o448 (P : Params) : Obj := ⟨(.type "tuple"), none, (.seq #[] 0), #[]⟩
def o449 (P : Params) : Obj := ⟨.none, none, (.fields #[(.int (357) 0), (.int (4) 0), (.ref 459), (.int (403) 0), (.int (4) 0), (.ref 466), (.int (457) 0), (.int (4) 0), (.ref 473), (.int (477) 0), (.int (4) 0), (.ref 480), (.int (491) 0), (.int (4) 0), (.ref 487)]), #[]⟩
def o450 (P : Params) : Obj := ⟨(.type "code"), none, (.fields #[(.str (q "NorwegianStemmer") 1251), (.str (q "NorwegianStemmer") 1252), (.str (q "/claim/cut.py") 1253), (.int (352) 0), (.int (0) 0), (.int (0) 0), (.int (0) 0), (.int (0) 0), (.ref 448), (.bool false), (.int (181) 0), (.ref 449), .none, .none, .none, .none, (.int (1254) 0), (.int (352) 0), (.str (q "/claim/cut.py") 1255)]), #[]⟩
def o454 (P : Params) : Obj := ⟨(.type "tuple"), none, (.seq #[] 0), #[]⟩
def o455 (P : Params) : Obj := ⟨.none, none, (.fields #[]), #[]⟩
def o456 (P : Params) : Obj := ⟨(.type "tuple"), none, (.seq #[(.str (q "self") 1326), (.str (q "v_1") 1327), (.str (q "v_2") 1328), (.str (q "v_3") 1329)] 0), #[]⟩
def o457 (P : Params) : Obj := ⟨(.type "tuple"), none, (.seq #[] 0), #[]⟩
def o459 (P : Params) : Obj := ⟨(.type "code"), none, (.fields #[(.str (q "r_mark_regions") 1323), (.str (q "NorwegianStemmer.r_mark_regions") 1324), (.str (q "/claim/cut.py") 1325), (.int (357) 0), (.int (1) 0), (.int (0) 0), (.int (0) 0), (.int (3) 0), (.ref 454), (.bool true), (.int (181) 0), (.ref 455), .none, (.ref 456), (.ref 457), (.ref 458), (.int (1330) 0), (.int (357) 0), (.str (q "/claim/cut.py") 1331)]), #[]⟩
def o460 (P : Params) : Obj := ⟨(.type "function"), none, (.func (fd (defIn2 14 3) "r_mark_regions" (q "NorwegianStemmer.r_mark_regions") .none .none .none (.str (q "snowballstemmer.norwegian_stemmer") 1247) none (.ref 459) .none)), #[]⟩
def o461 (P : Params) : Obj := ⟨(.type "tuple"), none, (.seq #[] 0), #[]⟩
def o462 (P : Params) : Obj := ⟨.none, none, (.fields #[]), #[]⟩
def o463 (P : Params) : Obj := ⟨(.type "tuple"), none, (.seq #[(.str (q "self") 1336), (.str (q "v_2") 1337), (.str (q "among_var") 1338), (.str (q "v_3") 1339)] 0), #[]⟩
def o464 (P : Params) : Obj := ⟨(.type "tuple"), none, (.seq #[] 0), #[]⟩
def o466 (P : Params) : Obj := ⟨(.type "code"), none, (.fields #[(.str (q "r_main_suffix") 1333), (.str (q "NorwegianStemmer.r_main_suffix") 1334), (.str (q "/claim/cut.py") 1335), (.int (403) 0), (.int (1) 0), (.int (0) 0), (.int (0) 0), (.int (3) 0), (.ref 461), (.bool true), (.int (181) 0), (.ref 462), .none, (.ref 463), (.ref 464), (.ref 465), (.int (1340) 0), (.int (403) 0), (.str (q "/claim/cut.py") 1341)]), #[]⟩
def o467 (P : Params) : Obj := ⟨(.type "function"), none, (.func (fd (defIn2 14 4) "r_main_suffix" (q "NorwegianStemmer.r_main_suffix") .none .none .none (.str (q "snowballstemmer.norwegian_stemmer") 1247) none (.ref 466) .none)), #[]⟩
def o468 (P : Params) : Obj := ⟨(.type "tuple"), none, (.seq #[] 0), #[]⟩
def o469 (P : Params) : Obj := ⟨.none, none, (.fields #[]), #[]⟩
def o470 (P : Params) : Obj := ⟨(.type "tuple"), none, (.seq #[(.str (q "self") 1346), (.str (q "v_1") 1347), (.str (q "v_3") 1348)] 0), #[]⟩
def o471 (P : Params) : Obj := ⟨(.type "tuple"), none, (.seq #[] 0), #[]⟩
def o473 (P : Params) : Obj := ⟨(.type "code"), none, (.fields #[(.str (q "r_consonant_pair") 1343), (.str (q "NorwegianStemmer.r_consonant_pair") 1344), (.str (q "/claim/cut.py") 1345), (.int (457) 0), (.int (1) 0), (.int (0) 0), (.int (0) 0), (.int (3) 0), (.ref 468), (.bool true), (.int (181) 0), (.ref 469), .none, (.ref 470), (.ref 471), (.ref 472), (.int (1349) 0), (.int (457) 0), (.str (q "/claim/cut.py") 1350)]), #[]⟩
def o474 (P : Params) : Obj := ⟨(.type "function"), none, (.func (fd (defIn2 14 5) "r_consonant_pair" (q "NorwegianStemmer.r_consonant_pair") .none .none .none (.str (q "snowballstemmer.norwegian_stemmer") 1247) none (.ref 473) .none)), #[]⟩
def o475 (P : Params) : Obj := ⟨(.type "tuple"), none, (.seq #[] 0), #[]⟩
def o476 (P : Params) : Obj := ⟨.none, none, (.fields #[]), #[]⟩
def o477 (P : Params) : Obj := ⟨(.type "tuple"), none, (.seq #[(.str (q "self") 1355), (.str (q "v_2") 1356)] 0), #[]⟩
def o478 (P : Params) : Obj := ⟨(.type "tuple"), none, (.seq #[] 0), #[]⟩
def o480 (P : Params) : Obj := ⟨(.type "code"), none, (.fields #[(.str (q "r_other_suffix") 1352), (.str (q "NorwegianStemmer.r_other_suffix") 1353), (.str (q "/claim/cut.py") 1354), (.int (477) 0), (.int (1) 0), (.int (0) 0), (.int (0) 0), (.int (3) 0), (.ref 475), (.bool true), (.int (181) 0), (.ref 476), .none, (.ref 477), (.ref 478), (.ref 479), (.int (1357) 0), (.int (477) 0), (.str (q "/claim/cut.py") 1358)]), #[]⟩
def o481 (P : Params) : Obj := ⟨(.type "function"), none, (.func (fd (defIn2 14 6) "r_other_suffix" (q "NorwegianStemmer.r_other_suffix") .none .none .none (.str (q "snowballstemmer.norwegian_stemmer") 1247) none (.ref 480) .none)), #[]⟩
def o482 (P : Params) : Obj := ⟨(.type "tuple"), none, (.seq #[] 0), #[]⟩
def o483 (P : Params) : Obj := ⟨.none, none, (.fields #[]), #[]⟩
def o484 (P : Params) : Obj := ⟨(.type "tuple"), none, (.seq #[(.str (q "self") 1363), (.str (q "v_1") 1364), (.str (q "v_2") 1365), (.str (q "v_3") 1366)] 0), #[]⟩
def o485 (P : Params) : Obj := ⟨(.type "tuple"), none, (.seq #[] 0), #[]⟩
def o487 (P : Params) : Obj := ⟨(.type "code"), none, (.fields #[(.str (q "_stem") 1360), (.str (q "NorwegianStemmer._stem") 1361), (.str (q "/claim/cut.py") 1362), (.int (491) 0), (.int (1) 0), (.int (0) 0), (.int (0) 0), (.int (3) 0), (.ref 482), (.bool true), (.int (181) 0), (.ref 483), .none, (.ref 484), (.ref 485), (.ref 486), (.int (1367) 0), (.int (491) 0), (.str (q "/claim/cut.py") 1368)]), #[]⟩
def o488 (P : Params) : Obj := ⟨(.type "function"), none, (.func (fd (defIn2 14 7) "_stem" (q "NorwegianStemmer._stem") .none .none .none (.str (q "snowballstemmer.norwegian_stemmer") 1247) none (.ref 487) .none)), #[]⟩
def o489 (P : Params) : Obj := ⟨(.type "dict"), none, (.dict #[en P "s" 1379 (.str (q "") 1370), en P "substring_i" 1381 (.int (-1) 1372), en P "result" 1383 (.int (1) 1373)] 3), #[]⟩
def o490 (P : Params) : Obj := ⟨(.ref 218), (some 489), .plain, #[]⟩
def o492 (P : Params) : Obj := ⟨(.type "dict"), none, (.dict #[en P "s" 1393 (.str (q "ind") 1384), en P "substring_i" 1395 (.int (0) 1385), en P "result" 1397 (.int (-1) 1387)] 3), #[]⟩
def o493 (P : Params) : Obj := ⟨(.ref 218), (some 492), .plain, #[]⟩
def o495 (P : Params) : Obj := ⟨(.type "dict"), none, (.dict #[en P "s" 1407 (.str (q "kk") 1398), en P "substring_i" 1409 (.int (0) 1399), en P "result" 1411 (.int (-1) 1401)] 3), #[]⟩
def o496 (P : Params) : Obj := ⟨(.ref 218), (some 495), .plain, #[]⟩
def o498 (P : Params) : Obj := ⟨(.type "dict"), none, (.dict #[en P "s" 1421 (.str (q "nk") 1412), en P "substring_i" 1423 (.int (0) 1413), en P "result" 1425 (.int (-1) 1415)] 3), #[]⟩
def o499 (P : Params) : Obj := ⟨(.ref 218), (some 498), .plain, #[]⟩
def o501 (P : Params) : Obj := ⟨(.type "dict"), none, (.dict #[en P "s" 1435 (.str (q "amm") 1426), en P "substring_i" 1437 (.int (0) 1427), en P "result" 1439 (.int (-1) 1429)] 3), #[]⟩
def o502 (P : Params) : Obj := ⟨(.ref 218), (some 501), .plain, #[]⟩
def o504 (P : Params) : Obj := ⟨(.type "dict"), none, (.dict #[en P "s" 1449 (.str (q "omm") 1440), en P "substring_i" 1451 (.int (0) 1441), en P "result" 1453 (.int (-1) 1443)] 3), #[]⟩
def o505 (P : Params) : Obj := ⟨(.ref 218), (some 504), .plain, #[]⟩
def o507 (P : Params) : Obj := ⟨(.type "dict"), none, (.dict #[en P "s" 1463 (.str (q "kap") 1454), en P "substring_i" 1465 (.int (0) 1455), en P "result" 1467 (.int (-1) 1457)] 3), #[]⟩
def o508 (P : Params) : Obj := ⟨(.ref 218), (some 507), .plain, #[]⟩
def o510 (P : Params) : Obj := ⟨(.type "dict"), none, (.dict #[en P "s" 1476 (.str (q "skap") 1468), en P "substring_i" 1478 (.int (6) 1469), en P "result" 1480 (.int (1) 1470)] 3), #[]⟩
def o511 (P : Params) : Obj := ⟨(.ref 218), (some 510), .plain, #[]⟩
def o513 (P : Params) : Obj := ⟨(.type "dict"), none, (.dict #[en P "s" 1490 (.str (q "pp") 1481), en P "substring_i" 1492 (.int (0) 1482), en P "result" 1494 (.int (-1) 1484)] 3), #[]⟩
def o514 (P : Params) : Obj := ⟨(.ref 218), (some 513), .plain, #[]⟩
def o516 (P : Params) : Obj := ⟨(.type "dict"), none, (.dict #[en P "s" 1504 (.str (q "lt") 1495), en P "substring_i" 1506 (.int (0) 1496), en P "result" 1508 (.int (-1) 1498)] 3), #[]⟩
def o517 (P : Params) : Obj := ⟨(.ref 218), (some 516), .plain, #[]⟩
def o519 (P : Params) : Obj := ⟨(.type "dict"), none, (.dict #[en P "s" 1518 (.str (q "ast") 1509), en P "substring_i" 1520 (.int (0) 1510), en P "result" 1522 (.int (-1) 1512)] 3), #[]⟩
def o520 (P : Params) : Obj := ⟨(.ref 218), (some 519), .plain, #[]⟩
def o522 (P : Params) : Obj := ⟨(.type "dict"), none, (.dict #[en P "s" 1532 (.str (q "øst") 1523), en P "substring_i" 1534 (.int (0) 1524), en P "result" 1536 (.int (-1) 1526)] 3), #[]⟩
def o523 (P : Params) : Obj := ⟨(.ref 218), (some 522), .plain, #[]⟩
def o525 (P : Params) : Obj := ⟨(.type "dict"), none, (.dict #[en P "s" 1546 (.str (q "v") 1537), en P "substring_i" 1548 (.int (0) 1538), en P "result" 1550 (.int (-1) 1540)] 3), #[]⟩
def o526 (P : Params) : Obj := ⟨(.ref 218), (some 525), .plain, #[]⟩
def o528 (P : Params) : Obj := ⟨(.type "dict"), none, (.dict #[en P "s" 1559 (.str (q "hav") 1551), en P "substring_i" 1561 (.int (12) 1552), en P "result" 1563 (.int (1) 1553)] 3), #[]⟩
def o529 (P : Params) : Obj := ⟨(.ref 218), (some 528), .plain, #[]⟩
def o531 (P : Params) : Obj := ⟨(.type "dict"), none, (.dict #[en P "s" 1572 (.str (q "giv") 1564), en P "substring_i" 1574 (.int (12) 1565), en P "result" 1576 (.int (1) 1566)] 3), #[]⟩
def o532 (P : Params) : Obj := ⟨(.ref 218), (some 531), .plain, #[]⟩
def o534 (P : Params) : Obj := ⟨(.type "list"), none, (.seq #[(.ref 490), (.ref 493), (.ref 496), (.ref 499), (.ref 502), (.ref 505), (.ref 508), (.ref 511), (.ref 514), (.ref 517), (.ref 520), (.ref 523), (.ref 526), (.ref 529), (.ref 532)] 0), #[]⟩
def o535 (P : Params) : Obj := ⟨(.type "dict"), none, (.dict #[en P "s" 1587 (.str (q "a") 1578), en P "substring_i" 1589 (.int (-1) 1580), en P "result" 1591 (.int (1) 1581)] 3), #[]⟩
def o536 (P : Params) : Obj := ⟨(.ref 218), (some 535), .plain, #[]⟩
def o538 (P : Params) : Obj := ⟨(.type "dict"), none, (.dict #[en P "s" 1601 (.str (q "e") 1592), en P "substring_i" 1603 (.int (-1) 1594), en P "result" 1605 (.int (1) 1595)] 3), #[]⟩
def o539 (P : Params) : Obj := ⟨(.ref 218), (some 538), .plain, #[]⟩
def o541 (P : Params) : Obj := ⟨(.type "dict"), none, (.dict #[en P "s" 1614 (.str (q "ede") 1606), en P "substring_i" 1616 (.int (1) 1607), en P "result" 1618 (.int (1) 1608)] 3), #[]⟩
def o542 (P : Params) : Obj := ⟨(.ref 218), (some 541), .plain, #[]⟩
def o544 (P : Params) : Obj := ⟨(.type "dict"), none, (.dict #[en P "s" 1627 (.str (q "ande") 1619), en P "substring_i" 1629 (.int (1) 1620), en P "result" 1631 (.int (1) 1621)] 3), #[]⟩
def o545 (P : Params) : Obj := ⟨(.ref 218), (some 544), .plain, #[]⟩
def o547 (P : Params) : Obj := ⟨(.type "dict"), none, (.dict #[en P "s" 1640 (.str (q "ende") 1632), en P "substring_i" 1642 (.int (1) 1633), en P "result" 1644 (.int (1) 1634)] 3), #[]⟩
def o548 (P : Params) : Obj := ⟨(.ref 218), (some 547), .plain, #[]⟩
def o550 (P : Params) : Obj := ⟨(.type "dict"), none, (.dict #[en P "s" 1653 (.str (q "ane") 1645), en P "substring_i" 1655 (.int (1) 1646), en P "result" 1657 (.int (1) 1647)] 3), #[]⟩
def o551 (P : Params) : Obj := ⟨(.ref 218), (some 550), .plain, #[]⟩
def o553 (P : Params) : Obj := ⟨(.type "dict"), none, (.dict #[en P "s" 1666 (.str (q "ene") 1658), en P "substring_i" 1668 (.int (1) 1659), en P "result" 1670 (.int (1) 1660)] 3), #[]⟩
def o554 (P : Params) : Obj := ⟨(.ref 218), (some 553), .plain, #[]⟩
def o556 (P : Params) : Obj := ⟨(.type "dict"), none, (.dict #[en P "s" 1679 (.str (q "hetene") 1671), en P "substring_i" 1681 (.int (6) 1672), en P "result" 1683 (.int (1) 1673)] 3), #[]⟩
def o557 (P : Params) : Obj := ⟨(.ref 218), (some 556), .plain, #[]⟩
def o559 (P : Params) : Obj := ⟨(.type "dict"), none, (.dict #[en P "s" 1692 (.str (q "erte") 1684), en P "substring_i" 1694 (.int (1) 1685), en P "result" 1696 (.int (4) 1686)] 3), #[]⟩
def o560 (P : Params) : Obj := ⟨(.ref 218), (some 559), .plain, #[]⟩
def o562 (P : Params) : Obj := ⟨(.type "dict"), none, (.dict #[en P "s" 1706 (.str (q "en") 1697), en P "substring_i" 1708 (.int (-1) 1699), en P "result" 1710 (.int (1) 1700)] 3), #[]⟩
def o563 (P : Params) : Obj := ⟨(.ref 218), (some 562), .plain, #[]⟩
def o565 (P : Params) : Obj := ⟨(.type "dict"), none, (.dict #[en P "s" 1719 (.str (q "heten") 1711), en P "substring_i" 1721 (.int (9) 1712), en P "result" 1723 (.int (1) 1713)] 3), #[]⟩
def o566 (P : Params) : Obj := ⟨(.ref 218), (some 565), .plain, #[]⟩
def o568 (P : Params) : Obj := ⟨(.type "dict"), none, (.dict #[en P "s" 1733 (.str (q "ar") 1724), en P "substring_i" 1735 (.int (-1) 1726), en P "result" 1737 (.int (1) 1727)] 3), #[]⟩
def o569 (P : Params) : Obj := ⟨(.ref 218), (some 568), .plain, #[]⟩
def o571 (P : Params) : Obj := ⟨(.type "dict"), none, (.dict #[en P "s" 1747 (.str (q "er") 1738), en P "substring_i" 1749 (.int (-1) 1740), en P "result" 1751 (.int (1) 1741)] 3), #[]⟩
def o572 (P : Params) : Obj := ⟨(.ref 218), (some 571), .plain, #[]⟩
def o574 (P : Params) : Obj := ⟨(.type "dict"), none, (.dict #[en P "s" 1760 (.str (q "heter") 1752), en P "substring_i" 1762 (.int (12) 1753), en P "result" 1764 (.int (1) 1754)] 3), #[]⟩
def o575 (P : Params) : Obj := ⟨(.ref 218), (some 574), .plain, #[]⟩
def o577 (P : Params) : Obj := ⟨(.type "dict"), none, (.dict #[en P "s" 1774 (.str (q "s") 1765), en P "substring_i" 1776 (.int (-1) 1767), en P "result" 1778 (.int (3) 1768)] 3), #[]⟩
def o578 (P : Params) : Obj := ⟨(.ref 218), (some 577), .plain, #[]⟩
def o580 (P : Params) : Obj := ⟨(.type "dict"), none, (.dict #[en P "s" 1787 (.str (q "as") 1779), en P "substring_i" 1789 (.int (14) 1780), en P "result" 1791 (.int (1) 1781)] 3), #[]⟩
def o581 (P : Params) : Obj := ⟨(.ref 218), (some 580), .plain, #[]⟩
def o583 (P : Params) : Obj := ⟨(.type "dict"), none, (.dict #[en P "s" 1800 (.str (q "es") 1792), en P "substring_i" 1802 (.int (14) 1793), en P "result" 1804 (.int (1) 1794)] 3), #[]⟩
def o584 (P : Params) : Obj := ⟨(.ref 218), (some 583), .plain, #[]⟩
def o586 (P : Params) : Obj := ⟨(.type "dict"), none, (.dict #[en P "s" 1813 (.str (q "edes") 1805), en P "substring_i" 1815 (.int (16) 1806), en P "result" 1817 (.int (1) 1807)] 3), #[]⟩
def o587 (P : Params) : Obj := ⟨(.ref 218), (some 586), .plain, #[]⟩
def o589 (P : Params) : Obj := ⟨(.type "dict"), none, (.dict #[en P "s" 1826 (.str (q "endes") 1818), en P "substring_i" 1828 (.int (16) 1819), en P "result" 1830 (.int (1) 1820)] 3), #[]⟩
def o590 (P : Params) : Obj := ⟨(.ref 218), (some 589), .plain, #[]⟩
def o592 (P : Params) : Obj := ⟨(.type "dict"), none, (.dict #[en P "s" 1839 (.str (q "enes") 1831), en P "substring_i" 1841 (.int (16) 1832), en P "result" 1843 (.int (1) 1833)] 3), #[]⟩
def o593 (P : Params) : Obj := ⟨(.ref 218), (some 592), .plain, #[]⟩
def o595 (P : Params) : Obj := ⟨(.type "dict"), none, (.dict #[en P "s" 1852 (.str (q "hetenes") 1844), en P "substring_i" 1854 (.int (19) 1845), en P "result" 1856 (.int (1) 1846)] 3), #[]⟩
def o596 (P : Params) : Obj := ⟨(.ref 218), (some 595), .plain, #[]⟩
def o598 (P : Params) : Obj := ⟨(.type "dict"), none, (.dict #[en P "s" 1865 (.str (q "ens") 1857), en P "substring_i" 1867 (.int (14) 1858), en P "result" 1869 (.int (1) 1859)] 3), #[]⟩
def o599 (P : Params) : Obj := ⟨(.ref 218), (some 598), .plain, #[]⟩
def o601 (P : Params) : Obj := ⟨(.type "dict"), none, (.dict #[en P "s" 1878 (.str (q "hetens") 1870), en P "substring_i" 1880 (.int (21) 1871), en P "result" 1882 (.int (1) 1872)] 3), #[]⟩
def o602 (P : Params) : Obj := ⟨(.ref 218), (some 601), .plain, #[]⟩
def o604 (P : Params) : Obj := ⟨(.type "dict"), none, (.dict #[en P "s" 1891 (.str (q "ers") 1883), en P "substring_i" 1893 (.int (14) 1884), en P "result" 1895 (.int (2) 1885)] 3), #[]⟩
def o605 (P : Params) : Obj := ⟨(.ref 218), (some 604), .plain, #[]⟩
def o607 (P : Params) : Obj := ⟨(.type "dict"), none, (.dict #[en P "s" 1904 (.str (q "ets") 1896), en P "substring_i" 1906 (.int (14) 1897), en P "result" 1908 (.int (1) 1898)] 3), #[]⟩
def o608 (P : Params) : Obj := ⟨(.ref 218), (some 607), .plain, #[]⟩
def o610 (P : Params) : Obj := ⟨(.type "dict"), none, (.dict #[en P "s" 1918 (.str (q "et") 1909), en P "substring_i" 1920 (.int (-1) 1911), en P "result" 1922 (.int (1) 1912)] 3), #[]⟩
def o611 (P : Params) : Obj := ⟨(.ref 218), (some 610), .plain, #[]⟩
def o613 (P : Params) : Obj := ⟨(.type "dict"), none, (.dict #[en P "s" 1931 (.str (q "het") 1923), en P "substring_i" 1933 (.int (25) 1924), en P "result" 1935 (.int (1) 1925)] 3), #[]⟩
def o614 (P : Params) : Obj := ⟨(.ref 218), (some 613), .plain, #[]⟩
def o616 (P : Params) : Obj := ⟨(.type "dict"), none, (.dict #[en P "s" 1945 (.str (q "ert") 1936), en P "substring_i" 1947 (.int (-1) 1938), en P "result" 1949 (.int (4) 1939)] 3), #[]⟩
def o617 (P : Params) : Obj := ⟨(.ref 218), (some 616), .plain, #[]⟩
def o619 (P : Params) : Obj := ⟨(.type "dict"), none, (.dict #[en P "s" 1959 (.str (q "ast") 1950), en P "substring_i" 1961 (.int (-1) 1952), en P "result" 1963 (.int (1) 1953)] 3), #[]⟩
def o620 (P : Params) : Obj := ⟨(.ref 218), (some 619), .plain, #[]⟩
def o622 (P : Params) : Obj := ⟨(.type "list"), none, (.seq #[(.ref 536), (.ref 539), (.ref 542), (.ref 545), (.ref 548), (.ref 551), (.ref 554), (.ref 557), (.ref 560), (.ref 563), (.ref 566), (.ref 569), (.ref 572), (.ref 575), (.ref 578), (.ref 581), (.ref 584), (.ref 587), (.ref 590), (.ref 593), (.ref 596), (.ref 599), (.ref 602), (.ref 605), (.ref 608), (.ref 611), (.ref 614), (.ref 617), (.ref 620)] 0), #[]⟩
def o623 (P : Params) : Obj := ⟨(.type "dict"), none, (.dict #[en P "s" 1975 (.str (q "dt") 1965), en P "substring_i" 1977 (.int (-1) 1967), en P "result" 1979 (.int (-1) 1969)] 3), #[]⟩
def o624 (P : Params) : Obj := ⟨(.ref 218), (some 623), .plain, #[]⟩
def o626 (P : Params) : Obj := ⟨(.type "dict"), none, (.dict #[en P "s" 1990 (.str (q "vt") 1980), en P "substring_i" 1992 (.int (-1) 1982), en P "result" 1994 (.int (-1) 1984)] 3), #[]⟩
def o627 (P : Params) : Obj := ⟨(.ref 218), (some 626), .plain, #[]⟩
def o629 (P : Params) : Obj := ⟨(.type "list"), none, (.seq #[(.ref 624), (.ref 627)] 0), #[]⟩
def o630 (P : Params) : Obj := ⟨(.type "dict"), none, (.dict #[en P "s" 2005 (.str (q "leg") 1996), en P "substring_i" 2007 (.int (-1) 1998), en P "result" 2009 (.int (1) 1999)] 3), #[]⟩
def o631 (P : Params) : Obj := ⟨(.ref 218), (some 630), .plain, #[]⟩
def o633 (P : Params) : Obj := ⟨(.type "dict"), none, (.dict #[en P "s" 2018 (.str (q "eleg") 2010), en P "substring_i" 2020 (.int (0) 2011), en P "result" 2022 (.int (1) 2012)] 3), #[]⟩
def o634 (P : Params) : Obj := ⟨(.ref 218), (some 633), .plain, #[]⟩
def o636 (P : Params) : Obj := ⟨(.type "dict"), none, (.dict #[en P "s" 2032 (.str (q "ig") 2023), en P "substring_i" 2034 (.int (-1) 2025), en P "result" 2036 (.int (1) 2026)] 3), #[]⟩
def o637 (P : Params) : Obj := ⟨(.ref 218), (some 636), .plain, #[]⟩
def o639 (P : Params) : Obj := ⟨(.type "dict"), none, (.dict #[en P "s" 2045 (.str (q "eig") 2037), en P "substring_i" 2047 (.int (2) 2038), en P "result" 2049 (.int (1) 2039)] 3), #[]⟩
def o640 (P : Params) : Obj := ⟨(.ref 218), (some 639), .plain, #[]⟩
def o642 (P : Params) : Obj := ⟨(.type "dict"), none, (.dict #[en P "s" 2058 (.str (q "lig") 2050), en P "substring_i" 2060 (.int (2) 2051), en P "result" 2062 (.int (1) 2052)] 3), #[]⟩
def o643 (P : Params) : Obj := ⟨(.ref 218), (some 642), .plain, #[]⟩
def o645 (P : Params) : Obj := ⟨(.type "dict"), none, (.dict #[en P "s" 2071 (.str (q "elig") 2063), en P "substring_i" 2073 (.int (4) 2064), en P "result" 2075 (.int (1) 2065)] 3), #[]⟩
def o646 (P : Params) : Obj := ⟨(.ref 218), (some 645), .plain, #[]⟩
def o648 (P : Params) : Obj := ⟨(.type "dict"), none, (.dict #[en P "s" 2085 (.str (q "els") 2076), en P "substring_i" 2087 (.int (-1) 2078), en P "result" 2089 (.int (1) 2079)] 3), #[]⟩
def o649 (P : Params) : Obj := ⟨(.ref 218), (some 648), .plain, #[]⟩
def o651 (P : Params) : Obj := ⟨(.type "dict"), none, (.dict #[en P "s" 2099 (.str (q "lov") 2090), en P "substring_i" 2101 (.int (-1) 2092), en P "result" 2103 (.int (1) 2093)] 3), #[]⟩
def o652 (P : Params) : Obj := ⟨(.ref 218), (some 651), .plain, #[]⟩
def o654 (P : Params) : Obj := ⟨(.type "dict"), none, (.dict #[en P "s" 2112 (.str (q "elov") 2104), en P "substring_i" 2114 (.int (7) 2105), en P "result" 2116 (.int (1) 2106)] 3), #[]⟩
def o655 (P : Params) : Obj := ⟨(.ref 218), (some 654), .plain, #[]⟩
def o657 (P : Params) : Obj := ⟨(.type "dict"), none, (.dict #[en P "s" 2125 (.str (q "slov") 2117), en P "substring_i" 2127 (.int (7) 2118), en P "result" 2129 (.int (1) 2119)] 3), #[]⟩
def o658 (P : Params) : Obj := ⟨(.ref 218), (some 657), .plain, #[]⟩
def o660 (P : Params) : Obj := ⟨(.type "dict"), none, (.dict #[en P "s" 2138 (.str (q "hetslov") 2130), en P "substring_i" 2140 (.int (9) 2131), en P "result" 2142 (.int (1) 2132)] 3), #[]⟩
def o661 (P : Params) : Obj := ⟨(.ref 218), (some 660), .plain, #[]⟩
def o663 (P : Params) : Obj := ⟨(.type "list"), none, (.seq #[(.ref 631), (.ref 634), (.ref 637), (.ref 640), (.ref 643), (.ref 646), (.ref 649), (.ref 652), (.ref 655), (.ref 658), (.ref 661)] 0), #[]⟩
def o664 (P : Params) : Obj := ⟨(.type "tuple"), none, (.seq #[(.str (q "I_p1") 2144), (.str (q "bra") 2145), (.str (q "cursor") 2146), (.str (q "ket") 2147), (.str (q "limit_backward") 2148)] 0), #[]⟩
def o665 (P : Params) : Obj := ⟨(.type "dict"), none, (.dict #[en P "__module__" 1256 (.str (q "snowballstemmer.norwegian_stemmer") 1247), en P "__firstlineno__" 1260 (.int (352) 1259), en P "g_v" 1287 (.ref 452), en P "g_s_ending" 1320 (.ref 453), en P "I_p1" 1322 (.int (0) 1321), en P "r_mark_regions" 1332 (.ref 460), en P "r_main_suffix" 1342 (.ref 467), en P "r_consonant_pair" 1351 (.ref 474), en P "r_other_suffix" 1359 (.ref 481), en P "_stem" 1369 (.ref 488), en P "a_0" 1577 (.ref 534), en P "a_1" 1964 (.ref 622), en P "a_2" 1995 (.ref 629), en P "a_3" 2143 (.ref 663), en P "__static_attributes__" 2149 (.ref 664), en P "__doc__" 2150 .none] 2), #[]⟩
def o666 (P : Params) : Obj := ⟨(.type "type"), none, (.cls { name := (q "NorwegianStemmer"), bases := [(.ref 197)], mro := [(.ref 666), (.ref 197), (.type "object")], ns := 665, qualname := (q "NorwegianStemmer"), hasDict := true, slotNames := [], subclasses := [], abstract := false, collection := none, hasDel := false }), #[(some (.ref 445)), none, (some (.str (q "NorwegianStemmer") 1249)), (some (.str (q "NorwegianStemmer") 1257)), (some (.builtin "object.__new__")), (some (.bool true))]⟩
def o667 (P : Params) : Obj := ⟨(.type "super"), none, (.fields #[(.ref 666), (.ref 666), (.ref 666)]), #[]⟩
def o668 (P : Params) : Obj := ⟨(.type "builtin_function_or_method"), none, (.fields #[(.builtin "object.__init_subclass__"), (.ref 666)]), #[]⟩
def o669 (P : Params) : Obj := ⟨(.type "tuple"), none, (.seq #[(.type "Exception")] 0), #[]⟩
def o670 (P : Params) : Obj := ⟨(.type "builtin_function_or_method"), none, (.fields #[(.builtin "type.__prepare__"), (.type "type")]), #[]⟩
def o671 (P : Params) : Obj := ⟨(.type "dict"), none, (.dict #[en P "__module__" 2160 (.str (q "snowballstemmer.norwegian_stemmer") 1247), en P "__qualname__" 2162 (.str (q "lab0") 2161), en P "__firstlineno__" 2164 (.int (517) 2163), en P "__static_attributes__" 2165 (.ref 676)] 4), #[]⟩
def o672 (P : Params) : Obj := ⟨(.type "tuple"), none, (.seq #[] 0), #[]⟩
def o673 (P : Params) : Obj := ⟨.none, none, (.fields #[]), #[]⟩
def o674 (P : Params) : Obj := ⟨(.type "code"), none, (.fields #[(.str (q "lab0") 2155), (.str (q "lab0") 2156), (.str (q "/claim/cut.py") 2157), (.int (517) 0), (.int (0) 0), (.int (0) 0), (.int (0) 0), (.int (0) 0), (.ref 672), (.bool false), (.int (181) 0), (.ref 673), .none, .none, .none, .none, (.int (2158) 0), (.int (517) 0), (.str (q "/claim/cut.py") 2159)]), #[]⟩
def o676 (P : Params) : Obj := ⟨(.type "tuple"), none, (.seq #[] 0), #[]⟩
def o677 (P : Params) : Obj := ⟨(.type "dict"), none, (.dict #[en P "__module__" 2160 (.str (q "snowballstemmer.norwegian_stemmer") 1247), en P "__firstlineno__" 2164 (.int (517) 2163), en P "__static_attributes__" 2165 (.ref 676), en P "__weakref__" 2167 (.ref 679), en P "__doc__" 2168 .none] 3), #[]⟩
def o678 (P : Params) : Obj := ⟨(.type "type"), none, (.cls { name := (q "lab0"), bases := [(.type "Exception")], mro := [(.ref 678), (.type "Exception"), (.type "BaseException"), (.type "object")], ns := 677, qualname := (q "lab0"), hasDict := true, slotNames := [], subclasses := [], abstract := false, collection := none, hasDel := false }), #[(some (.ref 669)), none, (some (.str (q "lab0") 2153)), (some (.str (q "lab0") 2161)), (some (.builtin "Exception.__new__")), (some (.bool true))]⟩
def o679 (P : Params) : Obj := ⟨(.type "getset_descriptor"), none, (.fields #[(.str (q "__weakref__") 2166), (.ref 678), (.builtin "ExceptionGroup.__weakref__"), .none]), #[]⟩
def o680 (P : Params) : Obj := ⟨(.type "super"), none, (.fields #[(.ref 678), (.ref 678), (.ref 678)]), #[]⟩
def o681 (P : Params) : Obj := ⟨(.type "builtin_function_or_method"), none, (.fields #[(.builtin "object.__init_subclass__"), (.ref 678)]), #[]⟩
def o682 (P : Params) : Obj := ⟨(.type "tuple"), none, (.seq #[(.type "Exception")] 0), #[]⟩
def o683 (P : Params) : Obj := ⟨(.type "builtin_function_or_method"), none, (.fields #[(.builtin "type.__prepare__"), (.type "type")]), #[]⟩
def o684 (P : Params) : Obj := ⟨(.type "dict"), none, (.dict #[en P "__module__" 2181 (.str (q "snowballstemmer.norwegian_stemmer") 1247), en P "__qualname__" 2183 (.str (q "lab1") 2182), en P "__firstlineno__" 2185 (.int (520) 2184), en P "__static_attributes__" 2186 (.ref 689)] 4), #[]⟩
def o685 (P : Params) : Obj := ⟨(.type "tuple"), none, (.seq #[] 0), #[]⟩
def o686 (P : Params) : Obj := ⟨.none, none, (.fields #[]), #[]⟩
def o687 (P : Params) : Obj := ⟨(.type "code"), none, (.fields #[(.str (q "lab1") 2176), (.str (q "lab1") 2177), (.str (q "/claim/cut.py") 2178), (.int (520) 0), (.int (0) 0), (.int (0) 0), (.int (0) 0), (.int (0) 0), (.ref 685), (.bool false), (.int (181) 0), (.ref 686), .none, .none, .none, .none, (.int (2179) 0), (.int (520) 0), (.str (q "/claim/cut.py") 2180)]), #[]⟩
def o689 (P : Params) : Obj := ⟨(.type "tuple"), none, (.seq #[] 0), #[]⟩
def o690 (P : Params) : Obj := ⟨(.type "dict"), none, (.dict #[en P "__module__" 2181 (.str (q "snowballstemmer.norwegian_stemmer") 1247), en P "__firstlineno__" 2185 (.int (520) 2184), en P "__static_attributes__" 2186 (.ref 689), en P "__weakref__" 2188 (.ref 692), en P "__doc__" 2189 .none] 3), #[]⟩
def o691 (P : Params) : Obj := ⟨(.type "type"), none, (.cls { name := (q "lab1"), bases := [(.type "Exception")], mro := [(.ref 691), (.type "Exception"), (.type "BaseException"), (.type "object")], ns := 690, qualname := (q "lab1"), hasDict := true, slotNames := [], subclasses := [], abstract := false, collection := none, hasDel := false }), #[(some (.ref 682)), none, (some (.str (q "lab1") 2174)), (some (.str (q "lab1") 2182)), (some (.builtin "Exception.__new__")), (some (.bool true))]⟩
def o692 (P : Params) : Obj := ⟨(.type "getset_descriptor"), none, (.fields #[(.str (q "__weakref__") 2187), (.ref 691), (.builtin "ExceptionGroup.__weakref__"), .none]), #[]⟩
def o693 (P : Params) : Obj := ⟨(.type "super"), none, (.fields #[(.ref 691), (.ref 691), (.ref 691)]), #[]⟩
def o694 (P : Params) : Obj := ⟨(.type "builtin_function_or_method"), none, (.fields #[(.builtin "object.__init_subclass__"), (.ref 691)]), #[]⟩
def o695 (P : Params) : Obj := ⟨(.type "tuple"), none, (.seq #[(.type "Exception")] 0), #[]⟩
def o696 (P : Params) : Obj := ⟨(.type "builtin_function_or_method"), none, (.fields #[(.builtin "type.__prepare__"), (.type "type")]), #[]⟩
def o697 (P : Params) : Obj := ⟨(.type "dict"), none, (.dict #[en P "__module__" 2202 (.str (q "snowballstemmer.norwegian_stemmer") 1247), en P "__qualname__" 2204 (.str (q "lab2") 2203), en P "__firstlineno__" 2206 (.int (523) 2205), en P "__static_attributes__" 2207 (.ref 702)] 4), #[]⟩
def o698 (P : Params) : Obj := ⟨(.type "tuple"), none, (.seq #[] 0), #[]⟩
def o699 (P : Params) : Obj := ⟨.none, none, (.fields #[]), #[]⟩
def o700 (P : Params) : Obj := ⟨(.type "code"), none, (.fields #[(.str (q "lab2") 2197), (.str (q "lab2") 2198), (.str (q "/claim/cut.py") 2199), (.int (523) 0), (.int (0) 0), (.int (0) 0), (.int (0) 0), (.int (0) 0), (.ref 698), (.bool false), (.int (181) 0), (.ref 699), .none, .none, .none, .none, (.int (2200) 0), (.int (523) 0), (.str (q "/claim/cut.py") 2201)]), #[]⟩
def o702 (P : Params) : Obj := ⟨(.type "tuple"), none, (.seq #[] 0), #[]⟩
def o703 (P : Params) : Obj := ⟨(.type "dict"), none, (.dict #[en P "__module__" 2202 (.str (q "snowballstemmer.norwegian_stemmer") 1247), en P "__firstlineno__" 2206 (.int (523) 2205), en P "__static_attributes__" 2207 (.ref 702), en P "__weakref__" 2209 (.ref 705), en P "__doc__" 2210 .none] 3), #[]⟩
def o704 (P : Params) : Obj := ⟨(.type "type"), none, (.cls { name := (q "lab2"), bases := [(.type "Exception")], mro := [(.ref 704), (.type "Exception"), (.type "BaseException"), (.type "object")], ns := 703, qualname := (q "lab2"), hasDict := true, slotNames := [], subclasses := [], abstract := false, collection := none, hasDel := false }), #[(some (.ref 695)), none, (some (.str (q "lab2") 2195)), (some (.str (q "lab2") 2203)), (some (.builtin "Exception.__new__")), (some (.bool true))]⟩
def o705 (P : Params) : Obj := ⟨(.type "getset_descriptor"), none, (.fields #[(.str (q "__weakref__") 2208), (.ref 704), (.builtin "ExceptionGroup.__weakref__"), .none]), #[]⟩
def o706 (P : Params) : Obj := ⟨(.type "super"), none, (.fields #[(.ref 704), (.ref 704), (.ref 704)]), #[]⟩
def o707 (P : Params) : Obj := ⟨(.type "builtin_function_or_method"), none, (.fields #[(.builtin "object.__init_subclass__"), (.ref 704)]), #[]⟩
def o708 (P : Params) : Obj := ⟨(.type "tuple"), none, (.seq #[(.ref 197)] 0), #[]⟩
def o709 (P : Params) : Obj := ⟨(.type "builtin_function_or_method"), none, (.fields #[(.builtin "type.__prepare__"), (.type "type")]), #[]⟩
def o710 (P : Params) : Obj := ⟨(.type "dict"), none, (.dict #[en P "__module__" 2225 (.str (q "snowballstemmer.swedish_stemmer") 2216), en P "__qualname__" 2227 (.str (q "SwedishStemmer") 2226), en P "__firstlineno__" 2229 (.int (527) 2228), en P "g_v" 2248 (.ref 715), en P "g_s_ending" 2283 (.ref 716), en P "g_ost_ending" 2302 (.ref 717), en P "I_p1" 2304 (.int (0) 2303), en P "r_mark_regions" 2313 (.ref 724), en P "r_et_condition" 2322 (.ref 731), en P "r_main_suffix" 2332 (.ref 738), en P "r_consonant_pair" 2341 (.ref 745), en P "r_other_suffix" 2350 (.ref 752), en P "_stem" 2361 (.ref 759), en P "a_0" 2677 (.ref 823), en P "a_1" 3184 (.ref 938), en P "a_2" 3290 (.ref 960), en P "a_3" 3360 (.ref 976), en P "__static_attributes__" 3366 (.ref 977)] 18), #[]⟩
def o711 (P : Params) : Obj := ⟨(.type "tuple"), none, (.seq #[] 0), #[]⟩
def o712 (P : Params) : Obj := ⟨.none, none, (.fields #[(.int (533) 0), (.int (4) 0), (.ref 723), (.int (556) 0), (.int (4) 0), (.ref 730), (.int (575) 0), (.int (4) 0), (.ref 737), (.int (612) 0), (.int (4) 0), (.ref 744), (.int (632) 0), (.int (4) 0), (.ref 751), (.int (654) 0), (.int (4) 0), (.ref 758)]), #[]⟩
def o713 (P : Params) : Obj := ⟨(.type "code"), none, (.fields #[(.str (q "SwedishStemmer") 2220), (.str (q "SwedishStemmer") 2221), (.str (q "/claim/cut.py") 2222), (.int (527) 0), (.int (0) 0), (.int (0) 0), (.int (0) 0), (.int (0) 0), (.ref 711), (.bool false), (.int (181) 0), (.ref 712), .none, .none, .none, .none, (.int (2223) 0), (.int (527) 0), (.str (q "/claim/cut.py") 2224)]), #[]⟩
def o718 (P : Params) : Obj := ⟨(.type "tuple"), none, (.seq #[] 0), #[]⟩
def o719 (P : Params) : Obj := ⟨.none, none, (.fields #[]), #[]⟩
def o720 (P : Params) : Obj := ⟨(.type "tuple"), none, (.seq #[(.str (q "self") 2308), (.str (q "v_1") 2309), (.str (q "I_x") 2310)] 0), #[]⟩
def o721 (P : Params) : Obj := ⟨(.type "tuple"), none, (.seq #[] 0), #[]⟩
def o723 (P : Params) : Obj := ⟨(.type "code"), none, (.fields #[(.str (q "r_mark_regions") 2305), (.str (q "SwedishStemmer.r_mark_regions") 2306), (.str (q "/claim/cut.py") 2307), (.int (533) 0), (.int (1) 0), (.int (0) 0), (.int (0) 0), (.int (3) 0), (.ref 718), (.bool true), (.int (181) 0), (.ref 719), .none, (.ref 720), (.ref 721), (.ref 722), (.int (2311) 0), (.int (533) 0), (.str (q "/claim/cut.py") 2312)]), #[]⟩
def o724 (P : Params) : Obj := ⟨(.type "function"), none, (.func (fd (defIn2 22 4) "r_mark_regions" (q "SwedishStemmer.r_mark_regions") .none .none .none (.str (q "snowballstemmer.swedish_stemmer") 2216) none (.ref 723) .none)), #[]⟩
def o725 (P : Params) : Obj := ⟨(.type "tuple"), none, (.seq #[] 0), #[]⟩
def o726 (P : Params) : Obj := ⟨.none, none, (.fields #[]), #[]⟩
def o727 (P : Params) : Obj := ⟨(.type "tuple"), none, (.seq #[(.str (q "self") 2317), (.str (q "v_1") 2318), (.str (q "v_2") 2319)] 0), #[]⟩
def o728 (P : Params) : Obj := ⟨(.type "tuple"), none, (.seq #[] 0), #[]⟩
def o730 (P : Params) : Obj := ⟨(.type "code"), none, (.fields #[(.str (q "r_et_condition") 2314), (.str (q "SwedishStemmer.r_et_condition") 2315), (.str (q "/claim/cut.py") 2316), (.int (556) 0), (.int (1) 0), (.int (0) 0), (.int (0) 0), (.int (3) 0), (.ref 725), (.bool true), (.int (181) 0), (.ref 726), .none, (.ref 727), (.ref 728), (.ref 729), (.int (2320) 0), (.int (556) 0), (.str (q "/claim/cut.py") 2321)]), #[]⟩
def o731 (P : Params) : Obj := ⟨(.type "function"), none, (.func (fd (defIn2 22 5) "r_et_condition" (q "SwedishStemmer.r_et_condition") .none .none .none (.str (q "snowballstemmer.swedish_stemmer") 2216) none (.ref 730) .none)), #[]⟩
def o732 (P : Params) : Obj := ⟨(.type "tuple"), none, (.seq #[] 0), #[]⟩
def o733 (P : Params) : Obj := ⟨.none, none, (.fields #[]), #[]⟩
def o734 (P : Params) : Obj := ⟨(.type "tuple"), none, (.seq #[(.str (q "self") 2326), (.str (q "v_2") 2327), (.str (q "among_var") 2328), (.str (q "v_3") 2329)] 0), #[]⟩
def o735 (P : Params) : Obj := ⟨(.type "tuple"), none, (.seq #[] 0), #[]⟩
def o737 (P : Params) : Obj := ⟨(.type "code"), none, (.fields #[(.str (q "r_main_suffix") 2323), (.str (q "SwedishStemmer.r_main_suffix") 2324), (.str (q "/claim/cut.py") 2325), (.int (575) 0), (.int (1) 0), (.int (0) 0), (.int (0) 0), (.int (3) 0), (.ref 732), (.bool true), (.int (181) 0), (.ref 733), .none, (.ref 734), (.ref 735), (.ref 736), (.int (2330) 0), (.int (575) 0), (.str (q "/claim/cut.py") 2331)]), #[]⟩
def o738 (P : Params) : Obj := ⟨(.type "function"), none, (.func (fd (defIn2 22 6) "r_main_suffix" (q "SwedishStemmer.r_main_suffix") .none .none .none (.str (q "snowballstemmer.swedish_stemmer") 2216) none (.ref 737) .none)), #[]⟩
def o739 (P : Params) : Obj := ⟨(.type "tuple"), none, (.seq #[] 0), #[]⟩
def o740 (P : Params) : Obj := ⟨.none, none, (.fields #[]), #[]⟩
def o741 (P : Params) : Obj := ⟨(.type "tuple"), none, (.seq #[(.str (q "self") 2336), (.str (q "v_2") 2337), (.str (q "v_3") 2338)] 0), #[]⟩
def o742 (P : Params) : Obj := ⟨(.type "tuple"), none, (.seq #[] 0), #[]⟩
def o744 (P : Params) : Obj := ⟨(.type "code"), none, (.fields #[(.str (q "r_consonant_pair") 2333), (.str (q "SwedishStemmer.r_consonant_pair") 2334), (.str (q "/claim/cut.py") 2335), (.int (612) 0), (.int (1) 0), (.int (0) 0), (.int (0) 0), (.int (3) 0), (.ref 739), (.bool true), (.int (181) 0), (.ref 740), .none, (.ref 741), (.ref 742), (.ref 743), (.int (2339) 0), (.int (612) 0), (.str (q "/claim/cut.py") 2340)]), #[]⟩
def o745 (P : Params) : Obj := ⟨(.type "function"), none, (.func (fd (defIn2 22 7) "r_consonant_pair" (q "SwedishStemmer.r_consonant_pair") .none .none .none (.str (q "snowballstemmer.swedish_stemmer") 2216) none (.ref 744) .none)), #[]⟩
def o746 (P : Params) : Obj := ⟨(.type "tuple"), none, (.seq #[] 0), #[]⟩
def o747 (P : Params) : Obj := ⟨.none, none, (.fields #[]), #[]⟩
def o748 (P : Params) : Obj := ⟨(.type "tuple"), none, (.seq #[(.str (q "self") 2345), (.str (q "v_2") 2346), (.str (q "among_var") 2347)] 0), #[]⟩
def o749 (P : Params) : Obj := ⟨(.type "tuple"), none, (.seq #[] 0), #[]⟩
def o751 (P : Params) : Obj := ⟨(.type "code"), none, (.fields #[(.str (q "r_other_suffix") 2342), (.str (q "SwedishStemmer.r_other_suffix") 2343), (.str (q "/claim/cut.py") 2344), (.int (632) 0), (.int (1) 0), (.int (0) 0), (.int (0) 0), (.int (3) 0), (.ref 746), (.bool true), (.int (181) 0), (.ref 747), .none, (.ref 748), (.ref 749), (.ref 750), (.int (2348) 0), (.int (632) 0), (.str (q "/claim/cut.py") 2349)]), #[]⟩
def o752 (P : Params) : Obj := ⟨(.type "function"), none, (.func (fd (defIn2 22 8) "r_other_suffix" (q "SwedishStemmer.r_other_suffix") .none .none .none (.str (q "snowballstemmer.swedish_stemmer") 2216) none (.ref 751) .none)), #[]⟩
def o753 (P : Params) : Obj := ⟨(.type "tuple"), none, (.seq #[] 0), #[]⟩
def o754 (P : Params) : Obj := ⟨.none, none, (.fields #[]), #[]⟩
def o755 (P : Params) : Obj := ⟨(.type "tuple"), none, (.seq #[(.str (q "self") 2354), (.str (q "v_1") 2355), (.str (q "v_2") 2356), (.str (q "v_3") 2357), (.str (q "v_4") 2358)] 0), #[]⟩
def o756 (P : Params) : Obj := ⟨(.type "tuple"), none, (.seq #[] 0), #[]⟩
def o758 (P : Params) : Obj := ⟨(.type "code"), none, (.fields #[(.str (q "_stem") 2351), (.str (q "SwedishStemmer._stem") 2352), (.str (q "/claim/cut.py") 2353), (.int (654) 0), (.int (1) 0), (.int (0) 0), (.int (0) 0), (.int (3) 0), (.ref 753), (.bool true), (.int (181) 0), (.ref 754), .none, (.ref 755), (.ref 756), (.ref 757), (.int (2359) 0), (.int (654) 0), (.str (q "/claim/cut.py") 2360)]), #[]⟩
def o759 (P : Params) : Obj := ⟨(.type "function"), none, (.func (fd (defIn2 22 9) "_stem" (q "SwedishStemmer._stem") .none .none .none (.str (q "snowballstemmer.swedish_stemmer") 2216) none (.ref 758) .none)), #[]⟩
def o760 (P : Params) : Obj := ⟨(.type "dict"), none, (.dict #[en P "s" 2372 (.str (q "fab") 2362), en P "substring_i" 2374 (.int (-1) 2364), en P "result" 2376 (.int (-1) 2366)] 3), #[]⟩
def o761 (P : Params) : Obj := ⟨(.ref 218), (some 760), .plain, #[]⟩
def o763 (P : Params) : Obj := ⟨(.type "dict"), none, (.dict #[en P "s" 2387 (.str (q "h") 2377), en P "substring_i" 2389 (.int (-1) 2379), en P "result" 2391 (.int (-1) 2381)] 3), #[]⟩
def o764 (P : Params) : Obj := ⟨(.ref 218), (some 763), .plain, #[]⟩
def o766 (P : Params) : Obj := ⟨(.type "dict"), none, (.dict #[en P "s" 2402 (.str (q "pak") 2392), en P "substring_i" 2404 (.int (-1) 2394), en P "result" 2406 (.int (-1) 2396)] 3), #[]⟩
def o767 (P : Params) : Obj := ⟨(.ref 218), (some 766), .plain, #[]⟩
def o769 (P : Params) : Obj := ⟨(.type "dict"), none, (.dict #[en P "s" 2417 (.str (q "rak") 2407), en P "substring_i" 2419 (.int (-1) 2409), en P "result" 2421 (.int (-1) 2411)] 3), #[]⟩
def o770 (P : Params) : Obj := ⟨(.ref 218), (some 769), .plain, #[]⟩
def o772 (P : Params) : Obj := ⟨(.type "dict"), none, (.dict #[en P "s" 2432 (.str (q "stak") 2422), en P "substring_i" 2434 (.int (-1) 2424), en P "result" 2436 (.int (-1) 2426)] 3), #[]⟩
def o773 (P : Params) : Obj := ⟨(.ref 218), (some 772), .plain, #[]⟩
def o775 (P : Params) : Obj := ⟨(.type "dict"), none, (.dict #[en P "s" 2447 (.str (q "kom") 2437), en P "substring_i" 2449 (.int (-1) 2439), en P "result" 2451 (.int (-1) 2441)] 3), #[]⟩
def o776 (P : Params) : Obj := ⟨(.ref 218), (some 775), .plain, #[]⟩
def o778 (P : Params) : Obj := ⟨(.type "dict"), none, (.dict #[en P "s" 2462 (.str (q "iet") 2452), en P "substring_i" 2464 (.int (-1) 2454), en P "result" 2466 (.int (-1) 2456)] 3), #[]⟩
def o779 (P : Params) : Obj := ⟨(.ref 218), (some 778), .plain, #[]⟩
def o781 (P : Params) : Obj := ⟨(.type "dict"), none, (.dict #[en P "s" 2477 (.str (q "cit") 2467), en P "substring_i" 2479 (.int (-1) 2469), en P "result" 2481 (.int (-1) 2471)] 3), #[]⟩
def o782 (P : Params) : Obj := ⟨(.ref 218), (some 781), .plain, #[]⟩
def o784 (P : Params) : Obj := ⟨(.type "dict"), none, (.dict #[en P "s" 2492 (.str (q "dit") 2482), en P "substring_i" 2494 (.int (-1) 2484), en P "result" 2496 (.int (-1) 2486)] 3), #[]⟩
def o785 (P : Params) : Obj := ⟨(.ref 218), (some 784), .plain, #[]⟩
def o787 (P : Params) : Obj := ⟨(.type "dict"), none, (.dict #[en P "s" 2507 (.str (q "alit") 2497), en P "substring_i" 2509 (.int (-1) 2499), en P "result" 2511 (.int (-1) 2501)] 3), #[]⟩
def o788 (P : Params) : Obj := ⟨(.ref 218), (some 787), .plain, #[]⟩
def o790 (P : Params) : Obj := ⟨(.type "dict"), none, (.dict #[en P "s" 2522 (.str (q "ilit") 2512), en P "substring_i" 2524 (.int (-1) 2514), en P "result" 2526 (.int (-1) 2516)] 3), #[]⟩
def o791 (P : Params) : Obj := ⟨(.ref 218), (some 790), .plain, #[]⟩
def o793 (P : Params) : Obj := ⟨(.type "dict"), none, (.dict #[en P "s" 2537 (.str (q "mit") 2527), en P "substring_i" 2539 (.int (-1) 2529), en P "result" 2541 (.int (-1) 2531)] 3), #[]⟩
def o794 (P : Params) : Obj := ⟨(.ref 218), (some 793), .plain, #[]⟩
def o796 (P : Params) : Obj := ⟨(.type "dict"), none, (.dict #[en P "s" 2552 (.str (q "nit") 2542), en P "substring_i" 2554 (.int (-1) 2544), en P "result" 2556 (.int (-1) 2546)] 3), #[]⟩
def o797 (P : Params) : Obj := ⟨(.ref 218), (some 796), .plain, #[]⟩
def o799 (P : Params) : Obj := ⟨(.type "dict"), none, (.dict #[en P "s" 2567 (.str (q "pit") 2557), en P "substring_i" 2569 (.int (-1) 2559), en P "result" 2571 (.int (-1) 2561)] 3), #[]⟩
def o800 (P : Params) : Obj := ⟨(.ref 218), (some 799), .plain, #[]⟩
def o802 (P : Params) : Obj := ⟨(.type "dict"), none, (.dict #[en P "s" 2582 (.str (q "rit") 2572), en P "substring_i" 2584 (.int (-1) 2574), en P "result" 2586 (.int (-1) 2576)] 3), #[]⟩
def o803 (P : Params) : Obj := ⟨(.ref 218), (some 802), .plain, #[]⟩
def o805 (P : Params) : Obj := ⟨(.type "dict"), none, (.dict #[en P "s" 2597 (.str (q "sit") 2587), en P "substring_i" 2599 (.int (-1) 2589), en P "result" 2601 (.int (-1) 2591)] 3), #[]⟩
def o806 (P : Params) : Obj := ⟨(.ref 218), (some 805), .plain, #[]⟩
def o808 (P : Params) : Obj := ⟨(.type "dict"), none, (.dict #[en P "s" 2612 (.str (q "tit") 2602), en P "substring_i" 2614 (.int (-1) 2604), en P "result" 2616 (.int (-1) 2606)] 3), #[]⟩
def o809 (P : Params) : Obj := ⟨(.ref 218), (some 808), .plain, #[]⟩
def o811 (P : Params) : Obj := ⟨(.type "dict"), none, (.dict #[en P "s" 2627 (.str (q "uit") 2617), en P "substring_i" 2629 (.int (-1) 2619), en P "result" 2631 (.int (-1) 2621)] 3), #[]⟩
def o812 (P : Params) : Obj := ⟨(.ref 218), (some 811), .plain, #[]⟩
def o814 (P : Params) : Obj := ⟨(.type "dict"), none, (.dict #[en P "s" 2642 (.str (q "ivit") 2632), en P "substring_i" 2644 (.int (-1) 2634), en P "result" 2646 (.int (-1) 2636)] 3), #[]⟩
def o815 (P : Params) : Obj := ⟨(.ref 218), (some 814), .plain, #[]⟩
def o817 (P : Params) : Obj := ⟨(.type "dict"), none, (.dict #[en P "s" 2657 (.str (q "kvit") 2647), en P "substring_i" 2659 (.int (-1) 2649), en P "result" 2661 (.int (-1) 2651)] 3), #[]⟩
def o818 (P : Params) : Obj := ⟨(.ref 218), (some 817), .plain, #[]⟩
def o820 (P : Params) : Obj := ⟨(.type "dict"), none, (.dict #[en P "s" 2672 (.str (q "xit") 2662), en P "substring_i" 2674 (.int (-1) 2664), en P "result" 2676 (.int (-1) 2666)] 3), #[]⟩
def o821 (P : Params) : Obj := ⟨(.ref 218), (some 820), .plain, #[]⟩
def o823 (P : Params) : Obj := ⟨(.type "list"), none, (.seq #[(.ref 761), (.ref 764), (.ref 767), (.ref 770), (.ref 773), (.ref 776), (.ref 779), (.ref 782), (.ref 785), (.ref 788), (.ref 791), (.ref 794), (.ref 797), (.ref 800), (.ref 803), (.ref 806), (.ref 809), (.ref 812), (.ref 815), (.ref 818), (.ref 821)] 0), #[]⟩
def o824 (P : Params) : Obj := ⟨(.type "dict"), none, (.dict #[en P "s" 2687 (.str (q "a") 2678), en P "substring_i" 2689 (.int (-1) 2680), en P "result" 2691 (.int (1) 2681)] 3), #[]⟩
def o825 (P : Params) : Obj := ⟨(.ref 218), (some 824), .plain, #[]⟩
def o827 (P : Params) : Obj := ⟨(.type "dict"), none, (.dict #[en P "s" 2700 (.str (q "arna") 2692), en P "substring_i" 2702 (.int (0) 2693), en P "result" 2704 (.int (1) 2694)] 3), #[]⟩
def o828 (P : Params) : Obj := ⟨(.ref 218), (some 827), .plain, #[]⟩
def o830 (P : Params) : Obj := ⟨(.type "dict"), none, (.dict #[en P "s" 2713 (.str (q "erna") 2705), en P "substring_i" 2715 (.int (0) 2706), en P "result" 2717 (.int (1) 2707)] 3), #[]⟩
def o831 (P : Params) : Obj := ⟨(.ref 218), (some 830), .plain, #[]⟩
def o833 (P : Params) : Obj := ⟨(.type "dict"), none, (.dict #[en P "s" 2726 (.str (q "heterna") 2718), en P "substring_i" 2728 (.int (2) 2719), en P "result" 2730 (.int (1) 2720)] 3), #[]⟩
def o834 (P : Params) : Obj := ⟨(.ref 218), (some 833), .plain, #[]⟩
def o836 (P : Params) : Obj := ⟨(.type "dict"), none, (.dict #[en P "s" 2739 (.str (q "orna") 2731), en P "substring_i" 2741 (.int (0) 2732), en P "result" 2743 (.int (1) 2733)] 3), #[]⟩
def o837 (P : Params) : Obj := ⟨(.ref 218), (some 836), .plain, #[]⟩
def o839 (P : Params) : Obj := ⟨(.type "dict"), none, (.dict #[en P "s" 2753 (.str (q "ad") 2744), en P "substring_i" 2755 (.int (-1) 2746), en P "result" 2757 (.int (1) 2747)] 3), #[]⟩
def o840 (P : Params) : Obj := ⟨(.ref 218), (some 839), .plain, #[]⟩
def o842 (P : Params) : Obj := ⟨(.type "dict"), none, (.dict #[en P "s" 2767 (.str (q "e") 2758), en P "substring_i" 2769 (.int (-1) 2760), en P "result" 2771 (.int (1) 2761)] 3), #[]⟩
def o843 (P : Params) : Obj := ⟨(.ref 218), (some 842), .plain, #[]⟩
def o845 (P : Params) : Obj := ⟨(.type "dict"), none, (.dict #[en P "s" 2780 (.str (q "ade") 2772), en P "substring_i" 2782 (.int (6) 2773), en P "result" 2784 (.int (1) 2774)] 3), #[]⟩
def o846 (P : Params) : Obj := ⟨(.ref 218), (some 845), .plain, #[]⟩
def o848 (P : Params) : Obj := ⟨(.type "dict"), none, (.dict #[en P "s" 2793 (.str (q "ande") 2785), en P "substring_i" 2795 (.int (6) 2786), en P "result" 2797 (.int (1) 2787)] 3), #[]⟩
def o849 (P : Params) : Obj := ⟨(.ref 218), (some 848), .plain, #[]⟩
def o851 (P : Params) : Obj := ⟨(.type "dict"), none, (.dict #[en P "s" 2806 (.str (q "arne") 2798), en P "substring_i" 2808 (.int (6) 2799), en P "result" 2810 (.int (1) 2800)] 3), #[]⟩
def o852 (P : Params) : Obj := ⟨(.ref 218), (some 851), .plain, #[]⟩
def o854 (P : Params) : Obj := ⟨(.type "dict"), none, (.dict #[en P "s" 2819 (.str (q "are") 2811), en P "substring_i" 2821 (.int (6) 2812), en P "result" 2823 (.int (1) 2813)] 3), #[]⟩
def o855 (P : Params) : Obj := ⟨(.ref 218), (some 854), .plain, #[]⟩
def o857 (P : Params) : Obj := ⟨(.type "dict"), none, (.dict #[en P "s" 2832 (.str (q "aste") 2824), en P "substring_i" 2834 (.int (6) 2825), en P "result" 2836 (.int (1) 2826)] 3), #[]⟩
def o858 (P : Params) : Obj := ⟨(.ref 218), (some 857), .plain, #[]⟩
def o860 (P : Params) : Obj := ⟨(.type "dict"), none, (.dict #[en P "s" 2846 (.str (q "en") 2837), en P "substring_i" 2848 (.int (-1) 2839), en P "result" 2850 (.int (1) 2840)] 3), #[]⟩
def o861 (P : Params) : Obj := ⟨(.ref 218), (some 860), .plain, #[]⟩
def o863 (P : Params) : Obj := ⟨(.type "dict"), none, (.dict #[en P "s" 2859 (.str (q "anden") 2851), en P "substring_i" 2861 (.int (12) 2852), en P "result" 2863 (.int (1) 2853)] 3), #[]⟩
def o864 (P : Params) : Obj := ⟨(.ref 218), (some 863), .plain, #[]⟩
def o866 (P : Params) : Obj := ⟨(.type "dict"), none, (.dict #[en P "s" 2872 (.str (q "aren") 2864), en P "substring_i" 2874 (.int (12) 2865), en P "result" 2876 (.int (1) 2866)] 3), #[]⟩
def o867 (P : Params) : Obj := ⟨(.ref 218), (some 866), .plain, #[]⟩
def o869 (P : Params) : Obj := ⟨(.type "dict"), none, (.dict #[en P "s" 2885 (.str (q "heten") 2877), en P "substring_i" 2887 (.int (12) 2878), en P "result" 2889 (.int (1) 2879)] 3), #[]⟩
def o870 (P : Params) : Obj := ⟨(.ref 218), (some 869), .plain, #[]⟩
def o872 (P : Params) : Obj := ⟨(.type "dict"), none, (.dict #[en P "s" 2899 (.str (q "ern") 2890), en P "substring_i" 2901 (.int (-1) 2892), en P "result" 2903 (.int (1) 2893)] 3), #[]⟩
def o873 (P : Params) : Obj := ⟨(.ref 218), (some 872), .plain, #[]⟩
def o875 (P : Params) : Obj := ⟨(.type "dict"), none, (.dict #[en P "s" 2913 (.str (q "ar") 2904), en P "substring_i" 2915 (.int (-1) 2906), en P "result" 2917 (.int (1) 2907)] 3), #[]⟩
def o876 (P : Params) : Obj := ⟨(.ref 218), (some 875), .plain, #[]⟩
def o878 (P : Params) : Obj := ⟨(.type "dict"), none, (.dict #[en P "s" 2927 (.str (q "er") 2918), en P "substring_i" 2929 (.int (-1) 2920), en P "result" 2931 (.int (1) 2921)] 3), #[]⟩
def o879 (P : Params) : Obj := ⟨(.ref 218), (some 878), .plain, #[]⟩
def o881 (P : Params) : Obj := ⟨(.type "dict"), none, (.dict #[en P "s" 2940 (.str (q "heter") 2932), en P "substring_i" 2942 (.int (18) 2933), en P "result" 2944 (.int (1) 2934)] 3), #[]⟩
def o882 (P : Params) : Obj := ⟨(.ref 218), (some 881), .plain, #[]⟩
def o884 (P : Params) : Obj := ⟨(.type "dict"), none, (.dict #[en P "s" 2954 (.str (q "or") 2945), en P "substring_i" 2956 (.int (-1) 2947), en P "result" 2958 (.int (1) 2948)] 3), #[]⟩
def o885 (P : Params) : Obj := ⟨(.ref 218), (some 884), .plain, #[]⟩
def o887 (P : Params) : Obj := ⟨(.type "dict"), none, (.dict #[en P "s" 2968 (.str (q "s") 2959), en P "substring_i" 2970 (.int (-1) 2961), en P "result" 2972 (.int (2) 2962)] 3), #[]⟩
def o888 (P : Params) : Obj := ⟨(.ref 218), (some 887), .plain, #[]⟩
def o890 (P : Params) : Obj := ⟨(.type "dict"), none, (.dict #[en P "s" 2981 (.str (q "as") 2973), en P "substring_i" 2983 (.int (21) 2974), en P "result" 2985 (.int (1) 2975)] 3), #[]⟩
def o891 (P : Params) : Obj := ⟨(.ref 218), (some 890), .plain, #[]⟩
def o893 (P : Params) : Obj := ⟨(.type "dict"), none, (.dict #[en P "s" 2994 (.str (q "arnas") 2986), en P "substring_i" 2996 (.int (22) 2987), en P "result" 2998 (.int (1) 2988)] 3), #[]⟩
def o894 (P : Params) : Obj := ⟨(.ref 218), (some 893), .plain, #[]⟩
def o896 (P : Params) : Obj := ⟨(.type "dict"), none, (.dict #[en P "s" 3007 (.str (q "ernas") 2999), en P "substring_i" 3009 (.int (22) 3000), en P "result" 3011 (.int (1) 3001)] 3), #[]⟩
def o897 (P : Params) : Obj := ⟨(.ref 218), (some 896), .plain, #[]⟩
def o899 (P : Params) : Obj := ⟨(.type "dict"), none, (.dict #[en P "s" 3020 (.str (q "ornas") 3012), en P "substring_i" 3022 (.int (22) 3013), en P "result" 3024 (.int (1) 3014)] 3), #[]⟩
def o900 (P : Params) : Obj := ⟨(.ref 218), (some 899), .plain, #[]⟩
def o902 (P : Params) : Obj := ⟨(.type "dict"), none, (.dict #[en P "s" 3033 (.str (q "es") 3025), en P "substring_i" 3035 (.int (21) 3026), en P "result" 3037 (.int (1) 3027)] 3), #[]⟩
def o903 (P : Params) : Obj := ⟨(.ref 218), (some 902), .plain, #[]⟩
def o905 (P : Params) : Obj := ⟨(.type "dict"), none, (.dict #[en P "s" 3046 (.str (q "ades") 3038), en P "substring_i" 3048 (.int (26) 3039), en P "result" 3050 (.int (1) 3040)] 3), #[]⟩
def o906 (P : Params) : Obj := ⟨(.ref 218), (some 905), .plain, #[]⟩
def o908 (P : Params) : Obj := ⟨(.type "dict"), none, (.dict #[en P "s" 3059 (.str (q "andes") 3051), en P "substring_i" 3061 (.int (26) 3052), en P "result" 3063 (.int (1) 3053)] 3), #[]⟩
def o909 (P : Params) : Obj := ⟨(.ref 218), (some 908), .plain, #[]⟩
def o911 (P : Params) : Obj := ⟨(.type "dict"), none, (.dict #[en P "s" 3072 (.str (q "ens") 3064), en P "substring_i" 3074 (.int (21) 3065), en P "result" 3076 (.int (1) 3066)] 3), #[]⟩
def o912 (P : Params) : Obj := ⟨(.ref 218), (some 911), .plain, #[]⟩
def o914 (P : Params) : Obj := ⟨(.type "dict"), none, (.dict #[en P "s" 3085 (.str (q "arens") 3077), en P "substring_i" 3087 (.int (29) 3078), en P "result" 3089 (.int (1) 3079)] 3), #[]⟩
def o915 (P : Params) : Obj := ⟨(.ref 218), (some 914), .plain, #[]⟩
def o917 (P : Params) : Obj := ⟨(.type "dict"), none, (.dict #[en P "s" 3098 (.str (q "hetens") 3090), en P "substring_i" 3100 (.int (29) 3091), en P "result" 3102 (.int (1) 3092)] 3), #[]⟩
def o918 (P : Params) : Obj := ⟨(.ref 218), (some 917), .plain, #[]⟩
def o920 (P : Params) : Obj := ⟨(.type "dict"), none, (.dict #[en P "s" 3111 (.str (q "erns") 3103), en P "substring_i" 3113 (.int (21) 3104), en P "result" 3115 (.int (1) 3105)] 3), #[]⟩
def o921 (P : Params) : Obj := ⟨(.ref 218), (some 920), .plain, #[]⟩
def o923 (P : Params) : Obj := ⟨(.type "dict"), none, (.dict #[en P "s" 3125 (.str (q "at") 3116), en P "substring_i" 3127 (.int (-1) 3118), en P "result" 3129 (.int (1) 3119)] 3), #[]⟩
def o924 (P : Params) : Obj := ⟨(.ref 218), (some 923), .plain, #[]⟩
def o926 (P : Params) : Obj := ⟨(.type "dict"), none, (.dict #[en P "s" 3139 (.str (q "et") 3130), en P "substring_i" 3141 (.int (-1) 3132), en P "result" 3143 (.int (3) 3133)] 3), #[]⟩
def o927 (P : Params) : Obj := ⟨(.ref 218), (some 926), .plain, #[]⟩
def o929 (P : Params) : Obj := ⟨(.type "dict"), none, (.dict #[en P "s" 3152 (.str (q "andet") 3144), en P "substring_i" 3154 (.int (34) 3145), en P "result" 3156 (.int (1) 3146)] 3), #[]⟩
def o930 (P : Params) : Obj := ⟨(.ref 218), (some 929), .plain, #[]⟩
def o932 (P : Params) : Obj := ⟨(.type "dict"), none, (.dict #[en P "s" 3165 (.str (q "het") 3157), en P "substring_i" 3167 (.int (34) 3158), en P "result" 3169 (.int (1) 3159)] 3), #[]⟩
def o933 (P : Params) : Obj := ⟨(.ref 218), (some 932), .plain, #[]⟩
def o935 (P : Params) : Obj := ⟨(.type "dict"), none, (.dict #[en P "s" 3179 (.str (q "ast") 3170), en P "substring_i" 3181 (.int (-1) 3172), en P "result" 3183 (.int (1) 3173)] 3), #[]⟩
def o936 (P : Params) : Obj := ⟨(.ref 218), (some 935), .plain, #[]⟩
def o938 (P : Params) : Obj := ⟨(.type "list"), none, (.seq #[(.ref 825), (.ref 828), (.ref 831), (.ref 834), (.ref 837), (.ref 840), (.ref 843), (.ref 846), (.ref 849), (.ref 852), (.ref 855), (.ref 858), (.ref 861), (.ref 864), (.ref 867), (.ref 870), (.ref 873), (.ref 876), (.ref 879), (.ref 882), (.ref 885), (.ref 888), (.ref 891), (.ref 894), (.ref 897), (.ref 900), (.ref 903), (.ref 906), (.ref 909), (.ref 912), (.ref 915), (.ref 918), (.ref 921), (.ref 924), (.ref 927), (.ref 930), (.ref 933), (.ref 936)] 0), #[]⟩
def o939 (P : Params) : Obj := ⟨(.type "dict"), none, (.dict #[en P "s" 3195 (.str (q "dd") 3185), en P "substring_i" 3197 (.int (-1) 3187), en P "result" 3199 (.int (-1) 3189)] 3), #[]⟩
def o940 (P : Params) : Obj := ⟨(.ref 218), (some 939), .plain, #[]⟩
def o942 (P : Params) : Obj := ⟨(.type "dict"), none, (.dict #[en P "s" 3210 (.str (q "gd") 3200), en P "substring_i" 3212 (.int (-1) 3202), en P "result" 3214 (.int (-1) 3204)] 3), #[]⟩
def o943 (P : Params) : Obj := ⟨(.ref 218), (some 942), .plain, #[]⟩
def o945 (P : Params) : Obj := ⟨(.type "dict"), none, (.dict #[en P "s" 3225 (.str (q "nn") 3215), en P "substring_i" 3227 (.int (-1) 3217), en P "result" 3229 (.int (-1) 3219)] 3), #[]⟩
def o946 (P : Params) : Obj := ⟨(.ref 218), (some 945), .plain, #[]⟩
def o948 (P : Params) : Obj := ⟨(.type "dict"), none, (.dict #[en P "s" 3240 (.str (q "dt") 3230), en P "substring_i" 3242 (.int (-1) 3232), en P "result" 3244 (.int (-1) 3234)] 3), #[]⟩
def o949 (P : Params) : Obj := ⟨(.ref 218), (some 948), .plain, #[]⟩
def o951 (P : Params) : Obj := ⟨(.type "dict"), none, (.dict #[en P "s" 3255 (.str (q "gt") 3245), en P "substring_i" 3257 (.int (-1) 3247), en P "result" 3259 (.int (-1) 3249)] 3), #[]⟩
def o952 (P : Params) : Obj := ⟨(.ref 218), (some 951), .plain, #[]⟩
def o954 (P : Params) : Obj := ⟨(.type "dict"), none, (.dict #[en P "s" 3270 (.str (q "kt") 3260), en P "substring_i" 3272 (.int (-1) 3262), en P "result" 3274 (.int (-1) 3264)] 3), #[]⟩
def o955 (P : Params) : Obj := ⟨(.ref 218), (some 954), .plain, #[]⟩
def o957 (P : Params) : Obj := ⟨(.type "dict"), none, (.dict #[en P "s" 3285 (.str (q "tt") 3275), en P "substring_i" 3287 (.int (-1) 3277), en P "result" 3289 (.int (-1) 3279)] 3), #[]⟩
def o958 (P : Params) : Obj := ⟨(.ref 218), (some 957), .plain, #[]⟩
def o960 (P : Params) : Obj := ⟨(.type "list"), none, (.seq #[(.ref 940), (.ref 943), (.ref 946), (.ref 949), (.ref 952), (.ref 955), (.ref 958)] 0), #[]⟩
def o961 (P : Params) : Obj := ⟨(.type "dict"), none, (.dict #[en P "s" 3300 (.str (q "ig") 3291), en P "substring_i" 3302 (.int (-1) 3293), en P "result" 3304 (.int (1) 3294)] 3), #[]⟩
def o962 (P : Params) : Obj := ⟨(.ref 218), (some 961), .plain, #[]⟩
def o964 (P : Params) : Obj := ⟨(.type "dict"), none, (.dict #[en P "s" 3313 (.str (q "lig") 3305), en P "substring_i" 3315 (.int (0) 3306), en P "result" 3317 (.int (1) 3307)] 3), #[]⟩
def o965 (P : Params) : Obj := ⟨(.ref 218), (some 964), .plain, #[]⟩
def o967 (P : Params) : Obj := ⟨(.type "dict"), none, (.dict #[en P "s" 3327 (.str (q "els") 3318), en P "substring_i" 3329 (.int (-1) 3320), en P "result" 3331 (.int (1) 3321)] 3), #[]⟩
def o968 (P : Params) : Obj := ⟨(.ref 218), (some 967), .plain, #[]⟩
def o970 (P : Params) : Obj := ⟨(.type "dict"), none, (.dict #[en P "s" 3341 (.str (q "fullt") 3332), en P "substring_i" 3343 (.int (-1) 3334), en P "result" 3345 (.int (3) 3335)] 3), #[]⟩
def o971 (P : Params) : Obj := ⟨(.ref 218), (some 970), .plain, #[]⟩
def o973 (P : Params) : Obj := ⟨(.type "dict"), none, (.dict #[en P "s" 3355 (.str (q "öst") 3346), en P "substring_i" 3357 (.int (-1) 3348), en P "result" 3359 (.int (2) 3349)] 3), #[]⟩
def o974 (P : Params) : Obj := ⟨(.ref 218), (some 973), .plain, #[]⟩
def o976 (P : Params) : Obj := ⟨(.type "list"), none, (.seq #[(.ref 962), (.ref 965), (.ref 968), (.ref 971), (.ref 974)] 0), #[]⟩
def o977 (P : Params) : Obj := ⟨(.type "tuple"), none, (.seq #[(.str (q "I_p1") 3361), (.str (q "bra") 3362), (.str (q "cursor") 3363), (.str (q "ket") 3364), (.str (q "limit_backward") 3365)] 0), #[]⟩
def o978 (P : Params) : Obj := ⟨(.type "dict"), none, (.dict #[en P "__module__" 2225 (.str (q "snowballstemmer.swedish_stemmer") 2216), en P "__firstlineno__" 2229 (.int (527) 2228), en P "g_v" 2248 (.ref 715), en P "g_s_ending" 2283 (.ref 716), en P "g_ost_ending" 2302 (.ref 717), en P "I_p1" 2304 (.int (0) 2303), en P "r_mark_regions" 2313 (.ref 724), en P "r_et_condition" 2322 (.ref 731), en P "r_main_suffix" 2332 (.ref 738), en P "r_consonant_pair" 2341 (.ref 745), en P "r_other_suffix" 2350 (.ref 752), en P "_stem" 2361 (.ref 759), en P "a_0" 2677 (.ref 823), en P "a_1" 3184 (.ref 938), en P "a_2" 3290 (.ref 960), en P "a_3" 3360 (.ref 976), en P "__static_attributes__" 3366 (.ref 977), en P "__doc__" 3367 .none] 2), #[]⟩
def o979 (P : Params) : Obj := ⟨(.type "type"), none, (.cls { name := (q "SwedishStemmer"), bases := [(.ref 197)], mro := [(.ref 979), (.ref 197), (.type "object")], ns := 978, qualname := (q "SwedishStemmer"), hasDict := true, slotNames := [], subclasses := [], abstract := false, collection := none, hasDel := false }), #[(some (.ref 708)), none, (some (.str (q "SwedishStemmer") 2218)), (some (.str (q "SwedishStemmer") 2226)), (some (.builtin "object.__new__")), (some (.bool true))]⟩
def o980 (P : Params) : Obj := ⟨(.type "super"), none, (.fields #[(.ref 979), (.ref 979), (.ref 979)]), #[]⟩
def o981 (P : Params) : Obj := ⟨(.type "builtin_function_or_method"), none, (.fields #[(.builtin "object.__init_subclass__"), (.ref 979)]), #[]⟩
def o982 (P : Params) : Obj := ⟨(.type "tuple"), none, (.seq #[(.type "Exception")] 0), #[]⟩
def o983 (P : Params) : Obj := ⟨(.type "builtin_function_or_method"), none, (.fields #[(.builtin "type.__prepare__"), (.type "type")]), #[]⟩
def o984 (P : Params) : Obj := ⟨(.type "dict"), none, (.dict #[en P "__module__" 3377 (.str (q "snowballstemmer.swedish_stemmer") 2216), en P "__qualname__" 3379 (.str (q "lab0") 3378), en P "__firstlineno__" 3381 (.int (675) 3380), en P "__static_attributes__" 3382 (.ref 989)] 4), #[]⟩
def o985 (P : Params) : Obj := ⟨(.type "tuple"), none, (.seq #[] 0), #[]⟩
def o986 (P : Params) : Obj := ⟨.none, none, (.fields #[]), #[]⟩
def o987 (P : Params) : Obj := ⟨(.type "code"), none, (.fields #[(.str (q "lab0") 3372), (.str (q "lab0") 3373), (.str (q "/claim/cut.py") 3374), (.int (675) 0), (.int (0) 0), (.int (0) 0), (.int (0) 0), (.int (0) 0), (.ref 985), (.bool false), (.int (181) 0), (.ref 986), .none, .none, .none, .none, (.int (3375) 0), (.int (675) 0), (.str (q "/claim/cut.py") 3376)]), #[]⟩
def o989 (P : Params) : Obj := ⟨(.type "tuple"), none, (.seq #[] 0), #[]⟩
def o990 (P : Params) : Obj := ⟨(.type "dict"), none, (.dict #[en P "__module__" 3377 (.str (q "snowballstemmer.swedish_stemmer") 2216), en P "__firstlineno__" 3381 (.int (675) 3380), en P "__static_attributes__" 3382 (.ref 989), en P "__weakref__" 3384 (.ref 992), en P "__doc__" 3385 .none] 3), #[]⟩
def o991 (P : Params) : Obj := ⟨(.type "type"), none, (.cls { name := (q "lab0"), bases := [(.type "Exception")], mro := [(.ref 991), (.type "Exception"), (.type "BaseException"), (.type "object")], ns := 990, qualname := (q "lab0"), hasDict := true, slotNames := [], subclasses := [], abstract := false, collection := none, hasDel := false }), #[(some (.ref 982)), none, (some (.str (q "lab0") 3370)), (some (.str (q "lab0") 3378)), (some (.builtin "Exception.__new__")), (some (.bool true))]⟩
def o992 (P : Params) : Obj := ⟨(.type "getset_descriptor"), none, (.fields #[(.str (q "__weakref__") 3383), (.ref 991), (.builtin "ExceptionGroup.__weakref__"), .none]), #[]⟩
def o993 (P : Params) : Obj := ⟨(.type "super"), none, (.fields #[(.ref 991), (.ref 991), (.ref 991)]), #[]⟩
def o994 (P : Params) : Obj := ⟨(.type "builtin_function_or_method"), none, (.fields #[(.builtin "object.__init_subclass__"), (.ref 991)]), #[]⟩
def o995 (P : Params) : Obj := ⟨(.type "tuple"), none, (.seq #[] 0), #[]⟩
def o996 (P : Params) : Obj := ⟨.none, none, (.fields #[]), #[]⟩
def o998 (P : Params) : Obj := ⟨(.type "code"), none, (.fields #[(.str (q "law") 3395), (.str (q "law") 3396), (.str (q "/claim/cut.py") 3397), (.int (680) 0), (.int (1) 0), (.int (0) 0), (.int (0) 0), (.int (3) 0), (.ref 995), (.bool true), (.int (181) 0), (.ref 996), .none, .none, .none, (.ref 997), (.int (3398) 0), (.int (680) 0), (.str (q "/claim/cut.py") 3399)]), #[]⟩
def o999 (P : Params) : Obj := ⟨(.type "function"), none, (.func (fd (defTop 27) "law" (q "law") .none .none .none (.str (q "law_bi0025_01") 3391) none (.ref 998) .none)), #[]⟩
def o3_x0 (P : Params) : Obj := ⟨(.type "dict"), none, (.dict #[en P "__name__" 165 (.str (q "snowballstemmer.danish_stemmer") 459), en P "__doc__" 166 .none, en P "__package__" 167 .none, en P "__loader__" 168 (.builtin "__main__.__loader__#opaque"), en P "__spec__" 169 .none, en P "__annotations__" 170 (.ref 6), en P "__builtins__" 171 (.ref 4), en P "__file__" 173 (.str (q "/claim/cut.py") 172), en P "__cached__" 174 .none, en P "_wall" 193 (.ref 21), en P "BaseStemmer" 423 (.ref 197), en P "Among" 458 (.ref 218)] 12), #[]⟩
def o3_x1 (P : Params) : Obj := ⟨(.type "dict"), none, (.dict #[en P "__name__" 165 (.str (q "snowballstemmer.norwegian_stemmer") 1247), en P "__doc__" 166 .none, en P "__package__" 167 .none, en P "__loader__" 168 (.builtin "__main__.__loader__#opaque"), en P "__spec__" 169 .none, en P "__annotations__" 170 (.ref 6), en P "__builtins__" 171 (.ref 4), en P "__file__" 173 (.str (q "/claim/cut.py") 172), en P "__cached__" 174 .none, en P "_wall" 193 (.ref 21), en P "BaseStemmer" 423 (.ref 197), en P "Among" 458 (.ref 218), en P "DanishStemmer" 1183 (.ref 403), en P "lab0" 1203 (.ref 415), en P "lab0_danish_stemmer" 1204 (.ref 415), en P "lab1" 1224 (.ref 428), en P "lab1_danish_stemmer" 1225 (.ref 428), en P "lab2" 1245 (.ref 441), en P "lab2_danish_stemmer" 1246 (.ref 441)] 19), #[]⟩
def o3_x2 (P : Params) : Obj := ⟨(.type "dict"), none, (.dict #[en P "__name__" 165 (.str (q "snowballstemmer.swedish_stemmer") 2216), en P "__doc__" 166 .none, en P "__package__" 167 .none, en P "__loader__" 168 (.builtin "__main__.__loader__#opaque"), en P "__spec__" 169 .none, en P "__annotations__" 170 (.ref 6), en P "__builtins__" 171 (.ref 4), en P "__file__" 173 (.str (q "/claim/cut.py") 172), en P "__cached__" 174 .none, en P "_wall" 193 (.ref 21), en P "BaseStemmer" 423 (.ref 197), en P "Among" 458 (.ref 218), en P "DanishStemmer" 1183 (.ref 403), en P "lab0" 1203 (.ref 678), en P "lab0_danish_stemmer" 1204 (.ref 415), en P "lab1" 1224 (.ref 691), en P "lab1_danish_stemmer" 1225 (.ref 428), en P "lab2" 1245 (.ref 704), en P "lab2_danish_stemmer" 1246 (.ref 441), en P "NorwegianStemmer" 2152 (.ref 666), en P "lab0_norwegian_stemmer" 2173 (.ref 678), en P "lab1_norwegian_stemmer" 2194 (.ref 691), en P "lab2_norwegian_stemmer" 2215 (.ref 704)] 23), #[]⟩
def o12_x0 (P : Params) : Obj := ⟨.none, none, (.fields #[(.int (1) 0), (.int (0) 0), (.ref 20), (.int (5) 0), (.int (0) 0), (.ref 27), (.int (165) 0), (.int (0) 0), (.ref 207)]), #[]⟩
def o12_x1 (P : Params) : Obj := ⟨.none, none, (.fields #[(.int (1) 0), (.int (0) 0), (.ref 20), (.int (5) 0), (.int (0) 0), (.ref 27), (.int (165) 0), (.int (0) 0), (.ref 207), (.int (172) 0), (.int (0) 0), (.ref 228), (.int (342) 0), (.int (0) 0), (.ref 411), (.int (345) 0), (.int (0) 0), (.ref 424), (.int (348) 0), (.int (0) 0), (.ref 437)]), #[]⟩
def o12_x2 (P : Params) : Obj := ⟨.none, none, (.fields #[(.int (1) 0), (.int (0) 0), (.ref 20), (.int (5) 0), (.int (0) 0), (.ref 27), (.int (165) 0), (.int (0) 0), (.ref 207), (.int (172) 0), (.int (0) 0), (.ref 228), (.int (342) 0), (.int (0) 0), (.ref 411), (.int (345) 0), (.int (0) 0), (.ref 424), (.int (348) 0), (.int (0) 0), (.ref 437), (.int (352) 0), (.int (0) 0), (.ref 450), (.int (517) 0), (.int (0) 0), (.ref 674), (.int (520) 0), (.int (0) 0), (.ref 687), (.int (523) 0), (.int (0) 0), (.ref 700)]), #[]⟩
def o197_x0 (P : Params) : Obj := ⟨(.type "type"), none, (.cls { name := (q "BaseStemmer"), bases := [(.type "object")], mro := [(.ref 197), (.type "object")], ns := 196, qualname := (q "BaseStemmer"), hasDict := true, slotNames := [], subclasses := [], abstract := false, collection := none, hasDel := false }), #[none, none, (some (.str (q "BaseStemmer") 196)), (some (.str (q "BaseStemmer") 204)), (some (.builtin "object.__new__")), (some (.bool true))]⟩
def o225_x0 (P : Params) : Obj := ⟨(.type "dict"), none, (.dict #[en P "__module__" 468 (.str (q "snowballstemmer.danish_stemmer") 459), en P "__qualname__" 470 (.str (q "DanishStemmer") 469), en P "__firstlineno__" 472 (.int (172) 471), en P "g_undouble_c" 497 (.ref 230), en P "g_v" 516 (.ref 231), en P "g_s_ending" 559 (.ref 232), en P "I_p1" 561 (.int (0) 560), en P "r_mark_regions" 571 (.ref 239), en P "r_main_suffix" 580 (.ref 246), en P "r_consonant_pair" 589 (.ref 253), en P "r_other_suffix" 600 (.ref 260), en P "r_undouble" 609 (.ref 267), en P "_stem" 620 (.ref 274)] 13), #[]⟩
def o225_x1 (P : Params) : Obj := ⟨(.type "dict"), none, (.dict #[en P "__module__" 468 (.str (q "snowballstemmer.danish_stemmer") 459), en P "__qualname__" 470 (.str (q "DanishStemmer") 469), en P "__firstlineno__" 472 (.int (172) 471), en P "g_undouble_c" 497 (.ref 230), en P "g_v" 516 (.ref 231), en P "g_s_ending" 559 (.ref 232), en P "I_p1" 561 (.int (0) 560), en P "r_mark_regions" 571 (.ref 239), en P "r_main_suffix" 580 (.ref 246), en P "r_consonant_pair" 589 (.ref 253), en P "r_other_suffix" 600 (.ref 260), en P "r_undouble" 609 (.ref 267), en P "_stem" 620 (.ref 274), en P "a_0" 1044 (.ref 371)] 14), #[]⟩
def o229_x0 (P : Params) : Obj := ⟨(.type "frame"), none, .plain, #[(some (.ref 228)), (some (.ref 3)), (some (.ref 225)), none, (some (.str (q "snowballstemmer.danish_stemmer") 459)), none, (some (.ref 0))]⟩
def o447_x0 (P : Params) : Obj := ⟨(.type "dict"), none, (.dict #[en P "__module__" 1256 (.str (q "snowballstemmer.norwegian_stemmer") 1247), en P "__qualname__" 1258 (.str (q "NorwegianStemmer") 1257), en P "__firstlineno__" 1260 (.int (352) 1259), en P "g_v" 1287 (.ref 452), en P "g_s_ending" 1320 (.ref 453), en P "I_p1" 1322 (.int (0) 1321), en P "r_mark_regions" 1332 (.ref 460), en P "r_main_suffix" 1342 (.ref 467), en P "r_consonant_pair" 1351 (.ref 474), en P "r_other_suffix" 1359 (.ref 481), en P "_stem" 1369 (.ref 488), en P "a_0" 1577 (.ref 534)] 12), #[]⟩
def o447_x1 (P : Params) : Obj := ⟨(.type "dict"), none, (.dict #[en P "__module__" 1256 (.str (q "snowballstemmer.norwegian_stemmer") 1247), en P "__qualname__" 1258 (.str (q "NorwegianStemmer") 1257), en P "__firstlineno__" 1260 (.int (352) 1259), en P "g_v" 1287 (.ref 452), en P "g_s_ending" 1320 (.ref 453), en P "I_p1" 1322 (.int (0) 1321), en P "r_mark_regions" 1332 (.ref 460), en P "r_main_suffix" 1342 (.ref 467), en P "r_consonant_pair" 1351 (.ref 474), en P "r_other_suffix" 1359 (.ref 481), en P "_stem" 1369 (.ref 488), en P "a_0" 1577 (.ref 534), en P "a_1" 1964 (.ref 622)] 13), #[]⟩
def o451_x0 (P : Params) : Obj := ⟨(.type "frame"), none, .plain, #[(some (.ref 450)), (some (.ref 3)), (some (.ref 447)), none, (some (.str (q "snowballstemmer.norwegian_stemmer") 1247)), none, (some (.ref 0))]⟩
def o710_x0 (P : Params) : Obj := ⟨(.type "dict"), none, (.dict #[en P "__module__" 2225 (.str (q "snowballstemmer.swedish_stemmer") 2216), en P "__qualname__" 2227 (.str (q "SwedishStemmer") 2226), en P "__firstlineno__" 2229 (.int (527) 2228), en P "g_v" 2248 (.ref 715), en P "g_s_ending" 2283 (.ref 716), en P "g_ost_ending" 2302 (.ref 717), en P "I_p1" 2304 (.int (0) 2303), en P "r_mark_regions" 2313 (.ref 724), en P "r_et_condition" 2322 (.ref 731), en P "r_main_suffix" 2332 (.ref 738), en P "r_consonant_pair" 2341 (.ref 745), en P "r_other_suffix" 2350 (.ref 752), en P "_stem" 2361 (.ref 759), en P "a_0" 2677 (.ref 823)] 14), #[]⟩
def o710_x1 (P : Params) : Obj := ⟨(.type "dict"), none, (.dict #[en P "__module__" 2225 (.str (q "snowballstemmer.swedish_stemmer") 2216), en P "__qualname__" 2227 (.str (q "SwedishStemmer") 2226), en P "__firstlineno__" 2229 (.int (527) 2228), en P "g_v" 2248 (.ref 715), en P "g_s_ending" 2283 (.ref 716), en P "g_ost_ending" 2302 (.ref 717), en P "I_p1" 2304 (.int (0) 2303), en P "r_mark_regions" 2313 (.ref 724), en P "r_et_condition" 2322 (.ref 731), en P "r_main_suffix" 2332 (.ref 738), en P "r_consonant_pair" 2341 (.ref 745), en P "r_other_suffix" 2350 (.ref 752), en P "_stem" 2361 (.ref 759), en P "a_0" 2677 (.ref 823), en P "a_1" 3184 (.ref 938)] 15), #[]⟩
def o714_x0 (P : Params) : Obj := ⟨(.type "frame"), none, .plain, #[(some (.ref 713)), (some (.ref 3)), (some (.ref 710)), none, (some (.str (q "snowballstemmer.swedish_stemmer") 2216)), none, (some (.ref 0))]⟩
def T_st1 (P : Params) : BT := (.node (o0 P) (.node (o1 P) (.node (o3_0 P) (.node (o7 P) .nil .nil) (.node (o11 P) .nil .nil)) (.node (o5 P) (.node (o9 P) .nil .nil) (.node (o13 P) .nil .nil))) (.node (o2_0 P) (.node (o4 P) (.node (o8 P) .nil .nil) (.node (o12_0 P) .nil .nil)) (.node (o6 P) (.node (o10 P) .nil .nil) (.node (o14 P) .nil .nil))))
def S_st1 (P : Params) : ST := ⟨T_st1 P, 15, 187⟩
def T_sc0 (P : Params) (d0 d1 d2 : SD) : BT := (.node (o0 P) (.node (o1 P) (.node (o3_1 P) (.node (o7 P) (.node (o15 P) (.node (o31 P) (.node (o63 P) (.node (o127 P) (.node (o255 P) .nil .nil) (.node gone .nil .nil)) (.node (o191 P) (.node gone .nil .nil) .nil)) (.node (o95 P) (.node gone (.node (o287 P) .nil .nil) .nil) (.node (o223 P) (.node (o351 P) .nil .nil) .nil))) (.node gone (.node (o79 P) (.node (o143 P) (.node (o271 P) .nil .nil) (.node gone .nil .nil)) (.node (o207 P) (.node (o335 P) .nil .nil) .nil)) (.node (o111 P) (.node (o175 P) (.node (o303 P) .nil .nil) .nil) (.node (o239 P) (.node gone .nil .nil) .nil)))) (.node (o23 P) (.node (o39 P) (.node (o71 P) (.node (o135 P) (.node (o263 P) .nil .nil) (.node (o391 P) .nil .nil)) (.node (o199 P) (.node (o327 P) .nil .nil) .nil)) (.node gone (.node (o167 P) (.node gone .nil .nil) .nil) (.node (setO d1) (.node (o359 P) .nil .nil) .nil))) (.node (o55 P) (.node (o87 P) (.node (o151 P) (.node (o279 P) .nil .nil) .nil) (.node (o215 P) (.node gone .nil .nil) .nil)) (.node (o119 P) (.node (o183 P) (.node (o311 P) .nil .nil) .nil) (.node (o247 P) (.node (o375 P) .nil .nil) .nil))))) (.node (o11 P) (.node gone (.node (o35 P) (.node (o67 P) (.node gone (.node (o259 P) .nil .nil) (.node gone .nil .nil)) (.node (o195 P) (.node (o323 P) .nil .nil) .nil)) (.node (o99 P) (.node (o163 P) (.node (o291 P) .nil .nil) .nil) (.node (o227 P) (.node gone .nil .nil) .nil))) (.node (o51 P) (.node (o83 P) (.node (o147 P) (.node (o275 P) .nil .nil) (.node (o403 P) .nil .nil)) (.node (o211 P) (.node (o339 P) .nil .nil) .nil)) (.node (o115 P) (.node (o179 P) (.node gone .nil .nil) .nil) (.node (o243 P) (.node (o371 P) .nil .nil) .nil)))) (.node (o27 P) (.node (o43 P) (.node gone (.node (o139 P) (.node (o267 P) .nil .nil) (.node (o395 P) .nil .nil)) (.node (o203 P) (.node gone .nil .nil) .nil)) (.node (o107 P) (.node (o171 P) (.node (o299 P) .nil .nil) .nil) (.node (o235 P) (.node (o363 P) .nil .nil) .nil))) (.node (o59 P) (.node (o91 P) (.node (o155 P) (.node gone .nil .nil) .nil) (.node (o219 P) (.node (o347 P) .nil .nil) .nil)) (.node (o123 P) (.node gone (.node (o315 P) .nil .nil) .nil) (.node gone (.node (o379 P) .nil .nil) .nil)))))) (.node (o5 P) (.node (o9 P) (.node (o17 P) (.node gone (.node (o65 P) (.node (o129 P) (.node (o257 P) .nil .nil) (.node (o385 P) .nil .nil)) (.node (o193 P) (.node (o321 P) .nil .nil) .nil)) (.node (o97 P) (.node (o161 P) (.node gone .nil .nil) .nil) (.node (o225 P) (.node (o353 P) .nil .nil) .nil))) (.node (o49 P) (.node (o81 P) (.node gone (.node (o273 P) .nil .nil) (.node (o401 P) .nil .nil)) (.node (o209 P) (.node gone .nil .nil) .nil)) (.node (o113 P) (.node (o177 P) (.node (o305 P) .nil .nil) .nil) (.node (o241 P) (.node (o369 P) .nil .nil) .nil)))) (.node (o25 P) (.node (o41 P) (.node (o73 P) (.node (o137 P) (.node gone .nil .nil) (.node gone .nil .nil)) (.node (o201 P) (.node (o329 P) .nil .nil) .nil)) (.node (o105 P) (.node (o169 P) (.node (o297 P) .nil .nil) .nil) (.node (o233 P) (.node gone .nil .nil) .nil))) (.node (o57 P) (.node gone (.node (o153 P) (.node (o281 P) .nil .nil) .nil) (.node (o217 P) (.node (o345 P) .nil .nil) .nil)) (.node (o121 P) (.node (o185 P) (.node gone .nil .nil) .nil) (.node (o249 P) (.node gone .nil .nil) .nil))))) (.node (o13 P) (.node (o21 P) (.node (o37 P) (.node (o69 P) (.node (o133 P) (.node (o261 P) .nil .nil) (.node (o389 P) .nil .nil)) (.node (o197_0 P) (.node gone .nil .nil) .nil)) (.node (o101 P) (.node (o165 P) (.node (o293 P) .nil .nil) .nil) (.node gone (.node (o357 P) .nil .nil) .nil))) (.node (o53 P) (.node (o85 P) (.node (o149 P) (.node gone .nil .nil) (.node (o405 P) .nil .nil)) (.node gone (.node (o341 P) .nil .nil) .nil)) (.node gone (.node (o181 P) (.node (o309 P) .nil .nil) .nil) (.node (o245 P) (.node (o373 P) .nil .nil) .nil)))) (.node (o29 P) (.node (o45 P) (.node (o77 P) (.node (o141 P) (.node (o269 P) .nil .nil) (.node (o397 P) .nil .nil)) (.node (o205 P) (.node (o333 P) .nil .nil) .nil)) (.node (o109 P) (.node gone (.node gone .nil .nil) .nil) (.node gone (.node (o365 P) .nil .nil) .nil))) (.node gone (.node (o93 P) (.node (o157 P) (.node (o285 P) .nil .nil) .nil) (.node (o221 P) (.node gone .nil .nil) .nil)) (.node (o125 P) (.node (o189 P) (.node (o317 P) .nil .nil) .nil) (.node (o253 P) (.node (o381 P) .nil .nil) .nil))))))) (.node (o2_0 P) (.node (o4 P) (.node (o8 P) (.node (o16 P) (.node (o32 P) (.node (o64 P) (.node (o128 P) (.node (o256 P) .nil .nil) (.node (o384 P) .nil .nil)) (.node gone (.node (o320 P) .nil .nil) .nil)) (.node gone (.node (o160 P) (.node (o288 P) .nil .nil) .nil) (.node (o224 P) (.node gone .nil .nil) .nil))) (.node (o48 P) (.node (o80 P) (.node (o144 P) (.node gone .nil .nil) (.node (o400 P) .nil .nil)) (.node gone (.node (o336 P) .nil .nil) .nil)) (.node (o112 P) (.node (o176 P) (.node gone .nil .nil) .nil) (.node (o240 P) (.node (o368 P) .nil .nil) .nil)))) (.node (o24 P) (.node gone (.node (o72 P) (.node (o136 P) (.node (o264 P) .nil .nil) (.node (o392 P) .nil .nil)) (.node (o200 P) (.node gone .nil .nil) .nil)) (.node (o104 P) (.node (o168 P) (.node (o296 P) .nil .nil) .nil) (.node (setO d2) (.node (o360 P) .nil .nil) .nil))) (.node (o56 P) (.node (o88 P) (.node gone (.node gone .nil .nil) .nil) (.node (o216 P) (.node (o344 P) .nil .nil) .nil)) (.node (o120 P) (.node (o184 P) (.node (o312 P) .nil .nil) .nil) (.node (o248 P) (.node (o376 P) .nil .nil) .nil))))) (.node (o12_1 P) (.node (o20 P) (.node (o36 P) (.node gone (.node (o132 P) (.node (o260 P) .nil .nil) (.node (o388 P) .nil .nil)) (.node (o196 P) (.node (o324 P) .nil .nil) .nil)) (.node (o100 P) (.node (o164 P) (.node gone .nil .nil) .nil) (.node (o228 P) (.node (o356 P) .nil .nil) .nil))) (.node (o52 P) (.node (o84 P) (.node (o148 P) (.node (o276 P) .nil .nil) (.node (o404 P) .nil .nil)) (.node (o212 P) (.node gone .nil .nil) .nil)) (.node (o116 P) (.node gone (.node (o308 P) .nil .nil) .nil) (.node gone (.node (o372 P) .nil .nil) .nil)))) (.node (o28 P) (.node (o44 P) (.node (o76 P) (.node (o140 P) (.node (o268 P) .nil .nil) (.node gone .nil .nil)) (.node (o204 P) (.node (o332 P) .nil .nil) .nil)) (.node (o108 P) (.node (o172 P) (.node (o300 P) .nil .nil) .nil) (.node (o236 P) (.node gone .nil .nil) .nil))) (.node (o60 P) (.node (o92 P) (.node (o156 P) (.node (o284 P) .nil .nil) .nil) (.node (o220 P) (.node (o348 P) .nil .nil) .nil)) (.node gone (.node (o188 P) (.node gone .nil .nil) .nil) (.node (o252 P) (.node gone .nil .nil) .nil)))))) (.node (o6 P) (.node (o10 P) (.node (o18 P) (.node (o34 P) (.node (o66 P) (.node (o130 P) (.node gone .nil .nil) (.node (o386 P) .nil .nil)) (.node (o194 P) (.node gone .nil .nil) .nil)) (.node (o98 P) (.node (o162 P) (.node (o290 P) .nil .nil) .nil) (.node (o226 P) (.node (o354 P) .nil .nil) .nil))) (.node (o50 P) (.node gone (.node (o146 P) (.node (o274 P) .nil .nil) (.node (o402 P) .nil .nil)) (.node (o210 P) (.node (o338 P) .nil .nil) .nil)) (.node (o114 P) (.node (o178 P) (.node (o306 P) .nil .nil) .nil) (.node (o242 P) (.node gone .nil .nil) .nil)))) (.node (o26 P) (.node (o42 P) (.node (o74 P) (.node gone (.node (o266 P) .nil .nil) (.node (o394 P) .nil .nil)) (.node (o202 P) (.node (o330 P) .nil .nil) .nil)) (.node (o106 P) (.node (o170 P) (.node gone .nil .nil) .nil) (.node (o234 P) (.node (o362 P) .nil .nil) .nil))) (.node (o58 P) (.node (o90 P) (.node (o154 P) (.node (o282 P) .nil .nil) .nil) (.node (o218 P) (.node gone .nil .nil) .nil)) (.node (o122 P) (.node (o186 P) (.node (o314 P) .nil .nil) .nil) (.node (o250 P) (.node (o378 P) .nil .nil) .nil))))) (.node (o14 P) (.node (o22 P) (.node (o38 P) (.node (o70 P) (.node (o134 P) (.node (o262 P) .nil .nil) (.node gone .nil .nil)) (.node (o198 P) (.node (o326 P) .nil .nil) .nil)) (.node (o102 P) (.node gone (.node (o294 P) .nil .nil) .nil) (.node (setO d0) (.node gone .nil .nil) .nil))) (.node gone (.node (o86 P) (.node (o150 P) (.node (o278 P) .nil .nil) .nil) (.node (o214 P) (.node (o342 P) .nil .nil) .nil)) (.node (o118 P) (.node (o182 P) (.node gone .nil .nil) .nil) (.node (o246 P) (.node gone .nil .nil) .nil)))) (.node (o30 P) (.node (o46 P) (.node (o78 P) (.node (o142 P) (.node (o270 P) .nil .nil) (.node (o398 P) .nil .nil)) (.node (o206 P) (.node gone .nil .nil) .nil)) (.node gone (.node (o174 P) (.node (o302 P) .nil .nil) .nil) (.node (o238 P) (.node (o366 P) .nil .nil) .nil))) (.node (o62 P) (.node (o94 P) (.node (o158 P) (.node gone .nil .nil) .nil) (.node (o222 P) (.node (o350 P) .nil .nil) .nil)) (.node (o126 P) (.node (o190 P) (.node (o318 P) .nil .nil) .nil) (.node (o254 P) (.node (o382 P) .nil .nil) .nil))))))))
def S_sc0 (P : Params) (d0 d1 d2 : SD) : ST := ⟨T_sc0 P d0 d1 d2, 406, 1184⟩
def T_sc1 (P : Params) (d0 d1 d2 d3 d4 : SD) : BT := (.node (o0 P) (.node (o1 P) (.node (o3_2 P) (.node (o7 P) (.node (o15 P) (.node (o31 P) (.node (o63 P) (.node (o127 P) (.node (o255 P) (.node (o511 P) .nil .nil) .nil) (.node gone (.node (o639 P) .nil .nil) .nil)) (.node (o191 P) (.node gone (.node (o575 P) .nil .nil) .nil) (.node (o447 P) .nil .nil))) (.node (o95 P) (.node gone (.node (o287 P) (.node gone .nil .nil) .nil) (.node (o415 P) .nil .nil)) (.node (o223 P) (.node (o351 P) (.node (o607 P) .nil .nil) .nil) (.node gone .nil .nil)))) (.node gone (.node (o79 P) (.node (o143 P) (.node (o271 P) (.node gone .nil .nil) .nil) (.node gone (.node (o655 P) .nil .nil) .nil)) (.node (o207 P) (.node (o335 P) (.node gone .nil .nil) .nil) (.node (o463 P) .nil .nil))) (.node (o111 P) (.node (o175 P) (.node (o303 P) (.node (o559 P) .nil .nil) .nil) (.node (o431 P) .nil .nil)) (.node (o239 P) (.node gone (.node (o623 P) .nil .nil) .nil) (.node (o495 P) .nil .nil))))) (.node (o23 P) (.node (o39 P) (.node (o71 P) (.node (o135 P) (.node (o263 P) (.node (o519 P) .nil .nil) .nil) (.node (o391 P) (.node gone .nil .nil) .nil)) (.node (o199 P) (.node (o327 P) (.node (o583 P) .nil .nil) .nil) (.node (o455 P) .nil .nil))) (.node gone (.node (o167 P) (.node gone (.node (o551 P) .nil .nil) .nil) (.node (o423 P) .nil .nil)) (.node (setO d1) (.node (o359 P) (.node gone .nil .nil) .nil) (.node (o487 P) .nil .nil)))) (.node (o55 P) (.node (o87 P) (.node (o151 P) (.node (o279 P) (.node (o535 P) .nil .nil) .nil) (.node (o407 P) (.node (o663 P) .nil .nil) .nil)) (.node (o215 P) (.node gone (.node (o599 P) .nil .nil) .nil) (.node (o471 P) .nil .nil))) (.node (o119 P) (.node (o183 P) (.node (o311 P) (.node gone .nil .nil) .nil) (.node (o439 P) .nil .nil)) (.node (o247 P) (.node (o375 P) (.node (o631 P) .nil .nil) .nil) (.node gone .nil .nil)))))) (.node (o11 P) (.node gone (.node (o35 P) (.node (o67 P) (.node gone (.node (o259 P) (.node gone .nil .nil) .nil) (.node gone (.node (o643 P) .nil .nil) .nil)) (.node (o195 P) (.node (o323 P) (.node gone .nil .nil) .nil) (.node gone .nil .nil))) (.node (o99 P) (.node (o163 P) (.node (o291 P) (.node (o547 P) .nil .nil) .nil) (.node (o419 P) .nil .nil)) (.node (o227 P) (.node gone (.node (o611 P) .nil .nil) .nil) (.node (o483 P) .nil .nil)))) (.node (o51 P) (.node (o83 P) (.node (o147 P) (.node (o275 P) (.node (o531 P) .nil .nil) .nil) (.node (o403 P) (.node gone .nil .nil) .nil)) (.node (o211 P) (.node (o339 P) (.node (o595 P) .nil .nil) .nil) (.node (o467 P) .nil .nil))) (.node (o115 P) (.node (o179 P) (.node gone (.node (o563 P) .nil .nil) .nil) (.node (o435 P) .nil .nil)) (.node (o243 P) (.node (o371 P) (.node (o627 P) .nil .nil) .nil) (.node (o499 P) .nil .nil))))) (.node (o27 P) (.node (o43 P) (.node gone (.node (o139 P) (.node (o267 P) (.node (o523 P) .nil .nil) .nil) (.node (o395 P) (.node (o651 P) .nil .nil) .nil)) (.node (o203 P) (.node gone (.node (o587 P) .nil .nil) .nil) (.node (o459 P) .nil .nil))) (.node (o107 P) (.node (o171 P) (.node (o299 P) (.node gone .nil .nil) .nil) (.node (o427 P) .nil .nil)) (.node (o235 P) (.node (o363 P) (.node (o619 P) .nil .nil) .nil) (.node gone .nil .nil)))) (.node (o59 P) (.node (o91 P) (.node (o155 P) (.node gone (.node (o539 P) .nil .nil) .nil) (.node (o411 P) (.node (o667 P) .nil .nil) .nil)) (.node (o219 P) (.node (o347 P) (.node gone .nil .nil) .nil) (.node (o475 P) .nil .nil))) (.node (o123 P) (.node gone (.node (o315 P) (.node (o571 P) .nil .nil) .nil) (.node (o443 P) .nil .nil)) (.node gone (.node (o379 P) (.node gone .nil .nil) .nil) (.node (o507 P) .nil .nil))))))) (.node (o5 P) (.node (o9 P) (.node (o17 P) (.node gone (.node (o65 P) (.node (o129 P) (.node (o257 P) (.node (o513 P) .nil .nil) .nil) (.node (o385 P) (.node gone .nil .nil) .nil)) (.node (o193 P) (.node (o321 P) (.node (o577 P) .nil .nil) .nil) (.node (o449 P) .nil .nil))) (.node (o97 P) (.node (o161 P) (.node gone (.node (o545 P) .nil .nil) .nil) (.node (o417 P) .nil .nil)) (.node (o225 P) (.node (o353 P) (.node gone .nil .nil) .nil) (.node (o481 P) .nil .nil)))) (.node (o49 P) (.node (o81 P) (.node gone (.node (o273 P) (.node (o529 P) .nil .nil) .nil) (.node (o401 P) (.node (o657 P) .nil .nil) .nil)) (.node (o209 P) (.node gone (.node (o593 P) .nil .nil) .nil) (.node gone .nil .nil))) (.node (o113 P) (.node (o177 P) (.node (o305 P) (.node gone .nil .nil) .nil) (.node (o433 P) .nil .nil)) (.node (o241 P) (.node (o369 P) (.node gone .nil .nil) .nil) (.node gone .nil .nil))))) (.node (o25 P) (.node (o41 P) (.node (o73 P) (.node (o137 P) (.node gone (.node gone .nil .nil) .nil) (.node gone (.node (o649 P) .nil .nil) .nil)) (.node (o201 P) (.node (o329 P) (.node gone .nil .nil) .nil) (.node (o457 P) .nil .nil))) (.node (o105 P) (.node (o169 P) (.node (o297 P) (.node (o553 P) .nil .nil) .nil) (.node gone .nil .nil)) (.node (o233 P) (.node gone (.node (o617 P) .nil .nil) .nil) (.node (o489 P) .nil .nil)))) (.node (o57 P) (.node gone (.node (o153 P) (.node (o281 P) (.node gone .nil .nil) .nil) (.node (o409 P) (.node (o665 P) .nil .nil) .nil)) (.node (o217 P) (.node (o345 P) (.node (o601 P) .nil .nil) .nil) (.node (o473 P) .nil .nil))) (.node (o121 P) (.node (o185 P) (.node gone (.node (o569 P) .nil .nil) .nil) (.node (o441 P) .nil .nil)) (.node (o249 P) (.node gone (.node (o633 P) .nil .nil) .nil) (.node (o505 P) .nil .nil)))))) (.node (o13 P) (.node (o21 P) (.node (o37 P) (.node (o69 P) (.node (o133 P) (.node (o261 P) (.node (o517 P) .nil .nil) .nil) (.node (o389 P) (.node (o645 P) .nil .nil) .nil)) (.node (o197_1 P) (.node gone (.node (o581 P) .nil .nil) .nil) (.node (setO d4) .nil .nil))) (.node (o101 P) (.node (o165 P) (.node (o293 P) (.node gone .nil .nil) .nil) (.node (o421 P) .nil .nil)) (.node gone (.node (o357 P) (.node (o613 P) .nil .nil) .nil) (.node (o485 P) .nil .nil)))) (.node (o53 P) (.node (o85 P) (.node (o149 P) (.node gone (.node gone .nil .nil) .nil) (.node (o405 P) (.node (o661 P) .nil .nil) .nil)) (.node gone (.node (o341 P) (.node gone .nil .nil) .nil) (.node (o469 P) .nil .nil))) (.node gone (.node (o181 P) (.node (o309 P) (.node (o565 P) .nil .nil) .nil) (.node (o437 P) .nil .nil)) (.node (o245 P) (.node (o373 P) (.node (o629 P) .nil .nil) .nil) (.node (o501 P) .nil .nil))))) (.node (o29 P) (.node (o45 P) (.node (o77 P) (.node (o141 P) (.node (o269 P) (.node (o525 P) .nil .nil) .nil) (.node (o397 P) (.node gone .nil .nil) .nil)) (.node (o205 P) (.node (o333 P) (.node (o589 P) .nil .nil) .nil) (.node (o461 P) .nil .nil))) (.node (o109 P) (.node gone (.node gone (.node (o557 P) .nil .nil) .nil) (.node (o429 P) .nil .nil)) (.node gone (.node (o365 P) (.node gone .nil .nil) .nil) (.node (o493 P) .nil .nil)))) (.node gone (.node (o93 P) (.node (o157 P) (.node (o285 P) (.node (o541 P) .nil .nil) .nil) (.node (o413 P) .nil .nil)) (.node (o221 P) (.node gone (.node (o605 P) .nil .nil) .nil) (.node (o477 P) .nil .nil))) (.node (o125 P) (.node (o189 P) (.node (o317 P) (.node gone .nil .nil) .nil) (.node (o445 P) .nil .nil)) (.node (o253 P) (.node (o381 P) (.node (o637 P) .nil .nil) .nil) (.node gone .nil .nil)))))))) (.node (o2_1 P) (.node (o4 P) (.node (o8 P) (.node (o16 P) (.node (o32 P) (.node (o64 P) (.node (o128 P) (.node (o256 P) (.node gone .nil .nil) .nil) (.node (o384 P) (.node (o640 P) .nil .nil) .nil)) (.node gone (.node (o320 P) (.node gone .nil .nil) .nil) (.node (o448 P) .nil .nil))) (.node gone (.node (o160 P) (.node (o288 P) (.node (o544 P) .nil .nil) .nil) (.node (o416 P) .nil .nil)) (.node (o224 P) (.node gone (.node (o608 P) .nil .nil) .nil) (.node (o480 P) .nil .nil)))) (.node (o48 P) (.node (o80 P) (.node (o144 P) (.node gone (.node (o528 P) .nil .nil) .nil) (.node (o400 P) (.node gone .nil .nil) .nil)) (.node gone (.node (o336 P) (.node (o592 P) .nil .nil) .nil) (.node (o464 P) .nil .nil))) (.node (o112 P) (.node (o176 P) (.node gone (.node (o560 P) .nil .nil) .nil) (.node (o432 P) .nil .nil)) (.node (o240 P) (.node (o368 P) (.node (o624 P) .nil .nil) .nil) (.node (o496 P) .nil .nil))))) (.node (o24 P) (.node gone (.node (o72 P) (.node (o136 P) (.node (o264 P) (.node (o520 P) .nil .nil) .nil) (.node (o392 P) (.node (o648 P) .nil .nil) .nil)) (.node (o200 P) (.node gone (.node (o584 P) .nil .nil) .nil) (.node (o456 P) .nil .nil))) (.node (o104 P) (.node (o168 P) (.node (o296 P) (.node gone .nil .nil) .nil) (.node (o424 P) .nil .nil)) (.node (setO d2) (.node (o360 P) (.node (o616 P) .nil .nil) .nil) (.node (o488 P) .nil .nil)))) (.node (o56 P) (.node (o88 P) (.node gone (.node gone (.node (o536 P) .nil .nil) .nil) (.node (o408 P) (.node (o664 P) .nil .nil) .nil)) (.node (o216 P) (.node (o344 P) (.node gone .nil .nil) .nil) (.node gone .nil .nil))) (.node (o120 P) (.node (o184 P) (.node (o312 P) (.node (o568 P) .nil .nil) .nil) (.node (o440 P) .nil .nil)) (.node (o248 P) (.node (o376 P) (.node gone .nil .nil) .nil) (.node (o504 P) .nil .nil)))))) (.node (o12_2 P) (.node (o20 P) (.node (o36 P) (.node gone (.node (o132 P) (.node (o260 P) (.node (o516 P) .nil .nil) .nil) (.node (o388 P) (.node gone .nil .nil) .nil)) (.node (o196 P) (.node (o324 P) (.node (o580 P) .nil .nil) .nil) (.node (setO d3) .nil .nil))) (.node (o100 P) (.node (o164 P) (.node gone (.node (o548 P) .nil .nil) .nil) (.node (o420 P) .nil .nil)) (.node (o228 P) (.node (o356 P) (.node gone .nil .nil) .nil) (.node (o484 P) .nil .nil)))) (.node (o52 P) (.node (o84 P) (.node (o148 P) (.node (o276 P) (.node (o532 P) .nil .nil) .nil) (.node (o404 P) (.node (o660 P) .nil .nil) .nil)) (.node (o212 P) (.node gone (.node (o596 P) .nil .nil) .nil) (.node (o468 P) .nil .nil))) (.node (o116 P) (.node gone (.node (o308 P) (.node gone .nil .nil) .nil) (.node (o436 P) .nil .nil)) (.node gone (.node (o372 P) (.node gone .nil .nil) .nil) (.node gone .nil .nil))))) (.node (o28 P) (.node (o44 P) (.node (o76 P) (.node (o140 P) (.node (o268 P) (.node gone .nil .nil) .nil) (.node gone (.node (o652 P) .nil .nil) .nil)) (.node (o204 P) (.node (o332 P) (.node gone .nil .nil) .nil) (.node (o460 P) .nil .nil))) (.node (o108 P) (.node (o172 P) (.node (o300 P) (.node (o556 P) .nil .nil) .nil) (.node (o428 P) .nil .nil)) (.node (o236 P) (.node gone (.node (o620 P) .nil .nil) .nil) (.node (o492 P) .nil .nil)))) (.node (o60 P) (.node (o92 P) (.node (o156 P) (.node (o284 P) (.node gone .nil .nil) .nil) (.node gone (.node (o668 P) .nil .nil) .nil)) (.node (o220 P) (.node (o348 P) (.node (o604 P) .nil .nil) .nil) (.node (o476 P) .nil .nil))) (.node gone (.node (o188 P) (.node gone (.node (o572 P) .nil .nil) .nil) (.node (o444 P) .nil .nil)) (.node (o252 P) (.node gone (.node (o636 P) .nil .nil) .nil) (.node (o508 P) .nil .nil))))))) (.node (o6 P) (.node (o10 P) (.node (o18 P) (.node (o34 P) (.node (o66 P) (.node (o130 P) (.node gone (.node (o514 P) .nil .nil) .nil) (.node (o386 P) (.node (o642 P) .nil .nil) .nil)) (.node (o194 P) (.node gone (.node (o578 P) .nil .nil) .nil) (.node (o450 P) .nil .nil))) (.node (o98 P) (.node (o162 P) (.node (o290 P) (.node gone .nil .nil) .nil) (.node (o418 P) .nil .nil)) (.node (o226 P) (.node (o354 P) (.node (o610 P) .nil .nil) .nil) (.node (o482 P) .nil .nil)))) (.node (o50 P) (.node gone (.node (o146 P) (.node (o274 P) (.node gone .nil .nil) .nil) (.node (o402 P) (.node (o658 P) .nil .nil) .nil)) (.node (o210 P) (.node (o338 P) (.node gone .nil .nil) .nil) (.node (o466 P) .nil .nil))) (.node (o114 P) (.node (o178 P) (.node (o306 P) (.node (o562 P) .nil .nil) .nil) (.node (o434 P) .nil .nil)) (.node (o242 P) (.node gone (.node (o626 P) .nil .nil) .nil) (.node (o498 P) .nil .nil))))) (.node (o26 P) (.node (o42 P) (.node (o74 P) (.node gone (.node (o266 P) (.node (o522 P) .nil .nil) .nil) (.node (o394 P) (.node gone .nil .nil) .nil)) (.node (o202 P) (.node (o330 P) (.node (o586 P) .nil .nil) .nil) (.node gone .nil .nil))) (.node (o106 P) (.node (o170 P) (.node gone (.node (o554 P) .nil .nil) .nil) (.node (o426 P) .nil .nil)) (.node (o234 P) (.node (o362 P) (.node gone .nil .nil) .nil) (.node (o490 P) .nil .nil)))) (.node (o58 P) (.node (o90 P) (.node (o154 P) (.node (o282 P) (.node (o538 P) .nil .nil) .nil) (.node (o410 P) (.node (o666 P) .nil .nil) .nil)) (.node (o218 P) (.node gone (.node (o602 P) .nil .nil) .nil) (.node (o474 P) .nil .nil))) (.node (o122 P) (.node (o186 P) (.node (o314 P) (.node gone .nil .nil) .nil) (.node (o442 P) .nil .nil)) (.node (o250 P) (.node (o378 P) (.node (o634 P) .nil .nil) .nil) (.node gone .nil .nil)))))) (.node (o14 P) (.node (o22 P) (.node (o38 P) (.node (o70 P) (.node (o134 P) (.node (o262 P) (.node gone .nil .nil) .nil) (.node gone (.node (o646 P) .nil .nil) .nil)) (.node (o198 P) (.node (o326 P) (.node gone .nil .nil) .nil) (.node (o454 P) .nil .nil))) (.node (o102 P) (.node gone (.node (o294 P) (.node (o550 P) .nil .nil) .nil) (.node (o422 P) .nil .nil)) (.node (setO d0) (.node gone (.node (o614 P) .nil .nil) .nil) (.node gone .nil .nil)))) (.node gone (.node (o86 P) (.node (o150 P) (.node (o278 P) (.node (o534 P) .nil .nil) .nil) (.node (o406 P) (.node gone .nil .nil) .nil)) (.node (o214 P) (.node (o342 P) (.node (o598 P) .nil .nil) .nil) (.node (o470 P) .nil .nil))) (.node (o118 P) (.node (o182 P) (.node gone (.node (o566 P) .nil .nil) .nil) (.node gone .nil .nil)) (.node (o246 P) (.node gone (.node (o630 P) .nil .nil) .nil) (.node (o502 P) .nil .nil))))) (.node (o30 P) (.node (o46 P) (.node (o78 P) (.node (o142 P) (.node (o270 P) (.node (o526 P) .nil .nil) .nil) (.node (o398 P) (.node (o654 P) .nil .nil) .nil)) (.node (o206 P) (.node gone (.node (o590 P) .nil .nil) .nil) (.node (o462 P) .nil .nil))) (.node gone (.node (o174 P) (.node (o302 P) (.node gone .nil .nil) .nil) (.node (o430 P) .nil .nil)) (.node (o238 P) (.node (o366 P) (.node (o622 P) .nil .nil) .nil) (.node gone .nil .nil)))) (.node (o62 P) (.node (o94 P) (.node (o158 P) (.node gone (.node (o542 P) .nil .nil) .nil) (.node (o414 P) .nil .nil)) (.node (o222 P) (.node (o350 P) (.node gone .nil .nil) .nil) (.node (o478 P) .nil .nil))) (.node (o126 P) (.node (o190 P) (.node (o318 P) (.node (o574 P) .nil .nil) .nil) (.node (o446 P) .nil .nil)) (.node (o254 P) (.node (o382 P) (.node gone .nil .nil) .nil) (.node (o510 P) .nil .nil)))))))))
def S_sc1 (P : Params) (d0 d1 d2 d3 d4 : SD) : ST := ⟨T_sc1 P d0 d1 d2 d3 d4, 669, 2153⟩
def T_sc2 (P : Params) (d0 d1 d2 d3 d4 d5 d6 d7 : SD) : BT := (.node (o0 P) (.node (o1 P) (.node (o3_3 P) (.node (o7 P) (.node (o15 P) (.node (o31 P) (.node (o63 P) (.node (o127 P) (.node (o255 P) (.node (o511 P) .nil .nil) (.node (o767 P) .nil .nil)) (.node gone (.node (o639 P) .nil .nil) (.node gone .nil .nil))) (.node (o191 P) (.node gone (.node (o575 P) .nil .nil) (.node (o831 P) .nil .nil)) (.node (o447 P) (.node (o703 P) .nil .nil) (.node gone .nil .nil)))) (.node (o95 P) (.node gone (.node (o287 P) (.node gone .nil .nil) (.node (o799 P) .nil .nil)) (.node (o415 P) (.node (o671 P) .nil .nil) (.node (o927 P) .nil .nil))) (.node (o223 P) (.node (o351 P) (.node (o607 P) .nil .nil) (.node (o863 P) .nil .nil)) (.node gone (.node (o735 P) .nil .nil) .nil)))) (.node gone (.node (o79 P) (.node (o143 P) (.node (o271 P) (.node gone .nil .nil) (.node gone .nil .nil)) (.node gone (.node (o655 P) .nil .nil) (.node (o911 P) .nil .nil))) (.node (o207 P) (.node (o335 P) (.node gone .nil .nil) (.node gone .nil .nil)) (.node (o463 P) (.node (o719 P) .nil .nil) (.node gone .nil .nil)))) (.node (o111 P) (.node (o175 P) (.node (o303 P) (.node (o559 P) .nil .nil) (.node (o815 P) .nil .nil)) (.node (o431 P) (.node (o687 P) .nil .nil) (.node (o943 P) .nil .nil))) (.node (o239 P) (.node gone (.node (o623 P) .nil .nil) (.node (o879 P) .nil .nil)) (.node (o495 P) (.node (o751 P) .nil .nil) .nil))))) (.node (o23 P) (.node (o39 P) (.node (o71 P) (.node (o135 P) (.node (o263 P) (.node (o519 P) .nil .nil) (.node (o775 P) .nil .nil)) (.node (o391 P) (.node gone .nil .nil) (.node (o903 P) .nil .nil))) (.node (o199 P) (.node (o327 P) (.node (o583 P) .nil .nil) (.node (o839 P) .nil .nil)) (.node (o455 P) (.node (o711 P) .nil .nil) (.node (o967 P) .nil .nil)))) (.node gone (.node (o167 P) (.node gone (.node (o551 P) .nil .nil) (.node gone .nil .nil)) (.node (o423 P) (.node (o679 P) .nil .nil) (.node (o935 P) .nil .nil))) (.node (setO d1) (.node (o359 P) (.node gone .nil .nil) (.node gone .nil .nil)) (.node (o487 P) (.node gone .nil .nil) .nil)))) (.node (o55 P) (.node (o87 P) (.node (o151 P) (.node (o279 P) (.node (o535 P) .nil .nil) (.node (o791 P) .nil .nil)) (.node (o407 P) (.node (o663 P) .nil .nil) (.node gone .nil .nil))) (.node (o215 P) (.node gone (.node (o599 P) .nil .nil) (.node (o855 P) .nil .nil)) (.node (o471 P) (.node (o727 P) .nil .nil) .nil))) (.node (o119 P) (.node (o183 P) (.node (o311 P) (.node gone .nil .nil) (.node (o823 P) .nil .nil)) (.node (o439 P) (.node (o695 P) .nil .nil) (.node (o951 P) .nil .nil))) (.node (o247 P) (.node (o375 P) (.node (o631 P) .nil .nil) (.node (o887 P) .nil .nil)) (.node gone (.node (o759 P) .nil .nil) .nil)))))) (.node (o11 P) (.node gone (.node (o35 P) (.node (o67 P) (.node gone (.node (o259 P) (.node gone .nil .nil) (.node gone .nil .nil)) (.node gone (.node (o643 P) .nil .nil) (.node (o899 P) .nil .nil))) (.node (o195 P) (.node (o323 P) (.node gone .nil .nil) (.node gone .nil .nil)) (.node gone (.node (o707 P) .nil .nil) (.node gone .nil .nil)))) (.node (o99 P) (.node (o163 P) (.node (o291 P) (.node (o547 P) .nil .nil) (.node (o803 P) .nil .nil)) (.node (o419 P) (.node gone .nil .nil) (.node gone .nil .nil))) (.node (o227 P) (.node gone (.node (o611 P) .nil .nil) (.node (o867 P) .nil .nil)) (.node (o483 P) (.node (o739 P) .nil .nil) .nil)))) (.node (o51 P) (.node (o83 P) (.node (o147 P) (.node (o275 P) (.node (o531 P) .nil .nil) (.node (o787 P) .nil .nil)) (.node (o403 P) (.node gone .nil .nil) (.node (o915 P) .nil .nil))) (.node (o211 P) (.node (o339 P) (.node (o595 P) .nil .nil) (.node (o851 P) .nil .nil)) (.node (o467 P) (.node (o723 P) .nil .nil) (.node (o979 P) .nil .nil)))) (.node (o115 P) (.node (o179 P) (.node gone (.node (o563 P) .nil .nil) (.node gone .nil .nil)) (.node (o435 P) (.node (o691 P) .nil .nil) (.node gone .nil .nil))) (.node (o243 P) (.node (o371 P) (.node (o627 P) .nil .nil) (.node gone .nil .nil)) (.node (o499 P) (.node (o755 P) .nil .nil) .nil))))) (.node (o27 P) (.node (o43 P) (.node gone (.node (o139 P) (.node (o267 P) (.node (o523 P) .nil .nil) (.node (o779 P) .nil .nil)) (.node (o395 P) (.node (o651 P) .nil .nil) (.node gone .nil .nil))) (.node (o203 P) (.node gone (.node (o587 P) .nil .nil) (.node (o843 P) .nil .nil)) (.node (o459 P) (.node (setO d5) .nil .nil) (.node (o971 P) .nil .nil)))) (.node (o107 P) (.node (o171 P) (.node (o299 P) (.node gone .nil .nil) (.node (o811 P) .nil .nil)) (.node (o427 P) (.node (o683 P) .nil .nil) (.node (o939 P) .nil .nil))) (.node (o235 P) (.node (o363 P) (.node (o619 P) .nil .nil) (.node (o875 P) .nil .nil)) (.node gone (.node (o747 P) .nil .nil) .nil)))) (.node (o59 P) (.node (o91 P) (.node (o155 P) (.node gone (.node (o539 P) .nil .nil) (.node gone .nil .nil)) (.node (o411 P) (.node (o667 P) .nil .nil) (.node (o923 P) .nil .nil))) (.node (o219 P) (.node (o347 P) (.node gone .nil .nil) (.node gone .nil .nil)) (.node (o475 P) (.node (o731 P) .nil .nil) .nil))) (.node (o123 P) (.node gone (.node (o315 P) (.node (o571 P) .nil .nil) (.node (o827 P) .nil .nil)) (.node (o443 P) (.node (o699 P) .nil .nil) (.node (o955 P) .nil .nil))) (.node gone (.node (o379 P) (.node gone .nil .nil) (.node (o891 P) .nil .nil)) (.node (o507 P) (.node (o763 P) .nil .nil) .nil))))))) (.node (o5 P) (.node (o9 P) (.node (o17 P) (.node gone (.node (o65 P) (.node (o129 P) (.node (o257 P) (.node (o513 P) .nil .nil) (.node (o769 P) .nil .nil)) (.node (o385 P) (.node gone .nil .nil) (.node (o897 P) .nil .nil))) (.node (o193 P) (.node (o321 P) (.node (o577 P) .nil .nil) (.node (o833 P) .nil .nil)) (.node (o449 P) (.node (o705 P) .nil .nil) (.node (o961 P) .nil .nil)))) (.node (o97 P) (.node (o161 P) (.node gone (.node (o545 P) .nil .nil) (.node gone .nil .nil)) (.node (o417 P) (.node (o673 P) .nil .nil) (.node (o929 P) .nil .nil))) (.node (o225 P) (.node (o353 P) (.node gone .nil .nil) (.node gone .nil .nil)) (.node (o481 P) (.node (o737 P) .nil .nil) .nil)))) (.node (o49 P) (.node (o81 P) (.node gone (.node (o273 P) (.node (o529 P) .nil .nil) (.node (o785 P) .nil .nil)) (.node (o401 P) (.node (o657 P) .nil .nil) (.node gone .nil .nil))) (.node (o209 P) (.node gone (.node (o593 P) .nil .nil) (.node (o849 P) .nil .nil)) (.node gone (.node (o721 P) .nil .nil) (.node (o977 P) .nil .nil)))) (.node (o113 P) (.node (o177 P) (.node (o305 P) (.node gone .nil .nil) (.node (o817 P) .nil .nil)) (.node (o433 P) (.node (o689 P) .nil .nil) (.node (o945 P) .nil .nil))) (.node (o241 P) (.node (o369 P) (.node gone .nil .nil) (.node (o881 P) .nil .nil)) (.node gone (.node (o753 P) .nil .nil) .nil))))) (.node (o25 P) (.node (o41 P) (.node (o73 P) (.node (o137 P) (.node gone (.node gone .nil .nil) (.node gone .nil .nil)) (.node gone (.node (o649 P) .nil .nil) (.node (o905 P) .nil .nil))) (.node (o201 P) (.node (o329 P) (.node gone .nil .nil) (.node gone .nil .nil)) (.node (o457 P) (.node (o713 P) .nil .nil) (.node gone .nil .nil)))) (.node (o105 P) (.node (o169 P) (.node (o297 P) (.node (o553 P) .nil .nil) (.node (o809 P) .nil .nil)) (.node gone (.node (o681 P) .nil .nil) (.node gone .nil .nil))) (.node (o233 P) (.node gone (.node (o617 P) .nil .nil) (.node (o873 P) .nil .nil)) (.node (o489 P) (.node (o745 P) .nil .nil) .nil)))) (.node (o57 P) (.node gone (.node (o153 P) (.node (o281 P) (.node gone .nil .nil) (.node (o793 P) .nil .nil)) (.node (o409 P) (.node (o665 P) .nil .nil) (.node (o921 P) .nil .nil))) (.node (o217 P) (.node (o345 P) (.node (o601 P) .nil .nil) (.node (o857 P) .nil .nil)) (.node (o473 P) (.node gone .nil .nil) .nil))) (.node (o121 P) (.node (o185 P) (.node gone (.node (o569 P) .nil .nil) (.node (o825 P) .nil .nil)) (.node (o441 P) (.node (o697 P) .nil .nil) (.node gone .nil .nil))) (.node (o249 P) (.node gone (.node (o633 P) .nil .nil) (.node gone .nil .nil)) (.node (o505 P) (.node (o761 P) .nil .nil) .nil)))))) (.node (o13 P) (.node (o21 P) (.node (o37 P) (.node (o69 P) (.node (o133 P) (.node (o261 P) (.node (o517 P) .nil .nil) (.node (o773 P) .nil .nil)) (.node (o389 P) (.node (o645 P) .nil .nil) (.node gone .nil .nil))) (.node (o197_2 P) (.node gone (.node (o581 P) .nil .nil) (.node (o837 P) .nil .nil)) (.node (setO d4) (.node (o709 P) .nil .nil) (.node (o965 P) .nil .nil)))) (.node (o101 P) (.node (o165 P) (.node (o293 P) (.node gone .nil .nil) (.node (o805 P) .nil .nil)) (.node (o421 P) (.node (o677 P) .nil .nil) (.node (o933 P) .nil .nil))) (.node gone (.node (o357 P) (.node (o613 P) .nil .nil) (.node (o869 P) .nil .nil)) (.node (o485 P) (.node (o741 P) .nil .nil) .nil)))) (.node (o53 P) (.node (o85 P) (.node (o149 P) (.node gone (.node gone .nil .nil) (.node gone .nil .nil)) (.node (o405 P) (.node (o661 P) .nil .nil) (.node (o917 P) .nil .nil))) (.node gone (.node (o341 P) (.node gone .nil .nil) (.node gone .nil .nil)) (.node (o469 P) (.node (o725 P) .nil .nil) (.node (o981 P) .nil .nil)))) (.node gone (.node (o181 P) (.node (o309 P) (.node (o565 P) .nil .nil) (.node (o821 P) .nil .nil)) (.node (o437 P) (.node (o693 P) .nil .nil) (.node (o949 P) .nil .nil))) (.node (o245 P) (.node (o373 P) (.node (o629 P) .nil .nil) (.node (o885 P) .nil .nil)) (.node (o501 P) (.node gone .nil .nil) .nil))))) (.node (o29 P) (.node (o45 P) (.node (o77 P) (.node (o141 P) (.node (o269 P) (.node (o525 P) .nil .nil) (.node (o781 P) .nil .nil)) (.node (o397 P) (.node gone .nil .nil) (.node (o909 P) .nil .nil))) (.node (o205 P) (.node (o333 P) (.node (o589 P) .nil .nil) (.node (o845 P) .nil .nil)) (.node (o461 P) (.node (setO d7) .nil .nil) (.node (o973 P) .nil .nil)))) (.node (o109 P) (.node gone (.node gone (.node (o557 P) .nil .nil) (.node gone .nil .nil)) (.node (o429 P) (.node (o685 P) .nil .nil) (.node gone .nil .nil))) (.node gone (.node (o365 P) (.node gone .nil .nil) (.node gone .nil .nil)) (.node (o493 P) (.node (o749 P) .nil .nil) .nil)))) (.node gone (.node (o93 P) (.node (o157 P) (.node (o285 P) (.node (o541 P) .nil .nil) (.node (o797 P) .nil .nil)) (.node (o413 P) (.node (o669 P) .nil .nil) (.node gone .nil .nil))) (.node (o221 P) (.node gone (.node (o605 P) .nil .nil) (.node (o861 P) .nil .nil)) (.node (o477 P) (.node (o733 P) .nil .nil) .nil))) (.node (o125 P) (.node (o189 P) (.node (o317 P) (.node gone .nil .nil) (.node gone .nil .nil)) (.node (o445 P) (.node gone .nil .nil) (.node (o957 P) .nil .nil))) (.node (o253 P) (.node (o381 P) (.node (o637 P) .nil .nil) (.node (o893 P) .nil .nil)) (.node gone (.node gone .nil .nil) .nil)))))))) (.node (o2_2 P) (.node (o4 P) (.node (o8 P) (.node (o16 P) (.node (o32 P) (.node (o64 P) (.node (o128 P) (.node (o256 P) (.node gone .nil .nil) (.node gone .nil .nil)) (.node (o384 P) (.node (o640 P) .nil .nil) (.node (o896 P) .nil .nil))) (.node gone (.node (o320 P) (.node gone .nil .nil) (.node gone .nil .nil)) (.node (o448 P) (.node (o704 P) .nil .nil) (.node (o960 P) .nil .nil)))) (.node gone (.node (o160 P) (.node (o288 P) (.node (o544 P) .nil .nil) (.node (o800 P) .nil .nil)) (.node (o416 P) (.node (o672 P) .nil .nil) (.node gone .nil .nil))) (.node (o224 P) (.node gone (.node (o608 P) .nil .nil) (.node (o864 P) .nil .nil)) (.node (o480 P) (.node gone .nil .nil) .nil)))) (.node (o48 P) (.node (o80 P) (.node (o144 P) (.node gone (.node (o528 P) .nil .nil) (.node (o784 P) .nil .nil)) (.node (o400 P) (.node gone .nil .nil) (.node (o912 P) .nil .nil))) (.node gone (.node (o336 P) (.node (o592 P) .nil .nil) (.node (o848 P) .nil .nil)) (.node (o464 P) (.node (o720 P) .nil .nil) (.node (o976 P) .nil .nil)))) (.node (o112 P) (.node (o176 P) (.node gone (.node (o560 P) .nil .nil) (.node gone .nil .nil)) (.node (o432 P) (.node gone .nil .nil) (.node gone .nil .nil))) (.node (o240 P) (.node (o368 P) (.node (o624 P) .nil .nil) (.node gone .nil .nil)) (.node (o496 P) (.node (o752 P) .nil .nil) .nil))))) (.node (o24 P) (.node gone (.node (o72 P) (.node (o136 P) (.node (o264 P) (.node (o520 P) .nil .nil) (.node (o776 P) .nil .nil)) (.node (o392 P) (.node (o648 P) .nil .nil) (.node gone .nil .nil))) (.node (o200 P) (.node gone (.node (o584 P) .nil .nil) (.node (o840 P) .nil .nil)) (.node (o456 P) (.node (o712 P) .nil .nil) (.node (o968 P) .nil .nil)))) (.node (o104 P) (.node (o168 P) (.node (o296 P) (.node gone .nil .nil) (.node (o808 P) .nil .nil)) (.node (o424 P) (.node (o680 P) .nil .nil) (.node (o936 P) .nil .nil))) (.node (setO d2) (.node (o360 P) (.node (o616 P) .nil .nil) (.node (o872 P) .nil .nil)) (.node (o488 P) (.node (o744 P) .nil .nil) .nil)))) (.node (o56 P) (.node (o88 P) (.node gone (.node gone (.node (o536 P) .nil .nil) (.node gone .nil .nil)) (.node (o408 P) (.node (o664 P) .nil .nil) (.node (o920 P) .nil .nil))) (.node (o216 P) (.node (o344 P) (.node gone .nil .nil) (.node gone .nil .nil)) (.node gone (.node (o728 P) .nil .nil) .nil))) (.node (o120 P) (.node (o184 P) (.node (o312 P) (.node (o568 P) .nil .nil) (.node (o824 P) .nil .nil)) (.node (o440 P) (.node (o696 P) .nil .nil) (.node (o952 P) .nil .nil))) (.node (o248 P) (.node (o376 P) (.node gone .nil .nil) (.node (o888 P) .nil .nil)) (.node (o504 P) (.node (o760 P) .nil .nil) .nil)))))) (.node (o12_3 P) (.node (o20 P) (.node (o36 P) (.node gone (.node (o132 P) (.node (o260 P) (.node (o516 P) .nil .nil) (.node (o772 P) .nil .nil)) (.node (o388 P) (.node gone .nil .nil) (.node (o900 P) .nil .nil))) (.node (o196 P) (.node (o324 P) (.node (o580 P) .nil .nil) (.node (o836 P) .nil .nil)) (.node (setO d3) (.node (o708 P) .nil .nil) (.node (o964 P) .nil .nil)))) (.node (o100 P) (.node (o164 P) (.node gone (.node (o548 P) .nil .nil) (.node gone .nil .nil)) (.node (o420 P) (.node (o676 P) .nil .nil) (.node (o932 P) .nil .nil))) (.node (o228 P) (.node (o356 P) (.node gone .nil .nil) (.node gone .nil .nil)) (.node (o484 P) (.node (o740 P) .nil .nil) .nil)))) (.node (o52 P) (.node (o84 P) (.node (o148 P) (.node (o276 P) (.node (o532 P) .nil .nil) (.node (o788 P) .nil .nil)) (.node (o404 P) (.node (o660 P) .nil .nil) (.node gone .nil .nil))) (.node (o212 P) (.node gone (.node (o596 P) .nil .nil) (.node (o852 P) .nil .nil)) (.node (o468 P) (.node (o724 P) .nil .nil) (.node (o980 P) .nil .nil)))) (.node (o116 P) (.node gone (.node (o308 P) (.node gone .nil .nil) (.node (o820 P) .nil .nil)) (.node (o436 P) (.node (o692 P) .nil .nil) (.node (o948 P) .nil .nil))) (.node gone (.node (o372 P) (.node gone .nil .nil) (.node (o884 P) .nil .nil)) (.node gone (.node (o756 P) .nil .nil) .nil))))) (.node (o28 P) (.node (o44 P) (.node (o76 P) (.node (o140 P) (.node (o268 P) (.node gone .nil .nil) (.node gone .nil .nil)) (.node gone (.node (o652 P) .nil .nil) (.node (o908 P) .nil .nil))) (.node (o204 P) (.node (o332 P) (.node gone .nil .nil) (.node gone .nil .nil)) (.node (o460 P) (.node (setO d6) .nil .nil) (.node gone .nil .nil)))) (.node (o108 P) (.node (o172 P) (.node (o300 P) (.node (o556 P) .nil .nil) (.node (o812 P) .nil .nil)) (.node (o428 P) (.node (o684 P) .nil .nil) (.node (o940 P) .nil .nil))) (.node (o236 P) (.node gone (.node (o620 P) .nil .nil) (.node (o876 P) .nil .nil)) (.node (o492 P) (.node (o748 P) .nil .nil) .nil)))) (.node (o60 P) (.node (o92 P) (.node (o156 P) (.node (o284 P) (.node gone .nil .nil) (.node (o796 P) .nil .nil)) (.node gone (.node (o668 P) .nil .nil) (.node (o924 P) .nil .nil))) (.node (o220 P) (.node (o348 P) (.node (o604 P) .nil .nil) (.node (o860 P) .nil .nil)) (.node (o476 P) (.node (o732 P) .nil .nil) .nil))) (.node gone (.node (o188 P) (.node gone (.node (o572 P) .nil .nil) (.node (o828 P) .nil .nil)) (.node (o444 P) (.node (o700 P) .nil .nil) (.node gone .nil .nil))) (.node (o252 P) (.node gone (.node (o636 P) .nil .nil) (.node gone .nil .nil)) (.node (o508 P) (.node (o764 P) .nil .nil) .nil))))))) (.node (o6 P) (.node (o10 P) (.node (o18 P) (.node (o34 P) (.node (o66 P) (.node (o130 P) (.node gone (.node (o514 P) .nil .nil) (.node (o770 P) .nil .nil)) (.node (o386 P) (.node (o642 P) .nil .nil) (.node gone .nil .nil))) (.node (o194 P) (.node gone (.node (o578 P) .nil .nil) (.node (o834 P) .nil .nil)) (.node (o450 P) (.node (o706 P) .nil .nil) (.node (o962 P) .nil .nil)))) (.node (o98 P) (.node (o162 P) (.node (o290 P) (.node gone .nil .nil) (.node (o802 P) .nil .nil)) (.node (o418 P) (.node (o674 P) .nil .nil) (.node (o930 P) .nil .nil))) (.node (o226 P) (.node (o354 P) (.node (o610 P) .nil .nil) (.node (o866 P) .nil .nil)) (.node (o482 P) (.node (o738 P) .nil .nil) .nil)))) (.node (o50 P) (.node gone (.node (o146 P) (.node (o274 P) (.node gone .nil .nil) (.node gone .nil .nil)) (.node (o402 P) (.node (o658 P) .nil .nil) (.node (o914 P) .nil .nil))) (.node (o210 P) (.node (o338 P) (.node gone .nil .nil) (.node gone .nil .nil)) (.node (o466 P) (.node gone .nil .nil) (.node (o978 P) .nil .nil)))) (.node (o114 P) (.node (o178 P) (.node (o306 P) (.node (o562 P) .nil .nil) (.node (o818 P) .nil .nil)) (.node (o434 P) (.node (o690 P) .nil .nil) (.node (o946 P) .nil .nil))) (.node (o242 P) (.node gone (.node (o626 P) .nil .nil) (.node (o882 P) .nil .nil)) (.node (o498 P) (.node (o754 P) .nil .nil) .nil))))) (.node (o26 P) (.node (o42 P) (.node (o74 P) (.node gone (.node (o266 P) (.node (o522 P) .nil .nil) (.node (o778 P) .nil .nil)) (.node (o394 P) (.node gone .nil .nil) (.node (o906 P) .nil .nil))) (.node (o202 P) (.node (o330 P) (.node (o586 P) .nil .nil) (.node (o842 P) .nil .nil)) (.node gone (.node gone .nil .nil) (.node (o970 P) .nil .nil)))) (.node (o106 P) (.node (o170 P) (.node gone (.node (o554 P) .nil .nil) (.node gone .nil .nil)) (.node (o426 P) (.node (o682 P) .nil .nil) (.node (o938 P) .nil .nil))) (.node (o234 P) (.node (o362 P) (.node gone .nil .nil) (.node gone .nil .nil)) (.node (o490 P) (.node (o746 P) .nil .nil) .nil)))) (.node (o58 P) (.node (o90 P) (.node (o154 P) (.node (o282 P) (.node (o538 P) .nil .nil) (.node (o794 P) .nil .nil)) (.node (o410 P) (.node (o666 P) .nil .nil) (.node gone .nil .nil))) (.node (o218 P) (.node gone (.node (o602 P) .nil .nil) (.node (o858 P) .nil .nil)) (.node (o474 P) (.node (o730 P) .nil .nil) .nil))) (.node (o122 P) (.node (o186 P) (.node (o314 P) (.node gone .nil .nil) (.node gone .nil .nil)) (.node (o442 P) (.node (o698 P) .nil .nil) (.node (o954 P) .nil .nil))) (.node (o250 P) (.node (o378 P) (.node (o634 P) .nil .nil) (.node (o890 P) .nil .nil)) (.node gone (.node gone .nil .nil) .nil)))))) (.node (o14 P) (.node (o22 P) (.node (o38 P) (.node (o70 P) (.node (o134 P) (.node (o262 P) (.node gone .nil .nil) (.node gone .nil .nil)) (.node gone (.node (o646 P) .nil .nil) (.node (o902 P) .nil .nil))) (.node (o198 P) (.node (o326 P) (.node gone .nil .nil) (.node gone .nil .nil)) (.node (o454 P) (.node (o710 P) .nil .nil) (.node gone .nil .nil)))) (.node (o102 P) (.node gone (.node (o294 P) (.node (o550 P) .nil .nil) (.node (o806 P) .nil .nil)) (.node (o422 P) (.node (o678 P) .nil .nil) (.node gone .nil .nil))) (.node (setO d0) (.node gone (.node (o614 P) .nil .nil) (.node (o870 P) .nil .nil)) (.node gone (.node (o742 P) .nil .nil) .nil)))) (.node gone (.node (o86 P) (.node (o150 P) (.node (o278 P) (.node (o534 P) .nil .nil) (.node (o790 P) .nil .nil)) (.node (o406 P) (.node gone .nil .nil) (.node (o918 P) .nil .nil))) (.node (o214 P) (.node (o342 P) (.node (o598 P) .nil .nil) (.node (o854 P) .nil .nil)) (.node (o470 P) (.node (o726 P) .nil .nil) .nil))) (.node (o118 P) (.node (o182 P) (.node gone (.node (o566 P) .nil .nil) (.node gone .nil .nil)) (.node gone (.node (o694 P) .nil .nil) (.node gone .nil .nil))) (.node (o246 P) (.node gone (.node (o630 P) .nil .nil) (.node gone .nil .nil)) (.node (o502 P) (.node (o758 P) .nil .nil) .nil))))) (.node (o30 P) (.node (o46 P) (.node (o78 P) (.node (o142 P) (.node (o270 P) (.node (o526 P) .nil .nil) (.node (o782 P) .nil .nil)) (.node (o398 P) (.node (o654 P) .nil .nil) (.node gone .nil .nil))) (.node (o206 P) (.node gone (.node (o590 P) .nil .nil) (.node (o846 P) .nil .nil)) (.node (o462 P) (.node (o718 P) .nil .nil) (.node (o974 P) .nil .nil)))) (.node gone (.node (o174 P) (.node (o302 P) (.node gone .nil .nil) (.node (o814 P) .nil .nil)) (.node (o430 P) (.node (o686 P) .nil .nil) (.node (o942 P) .nil .nil))) (.node (o238 P) (.node (o366 P) (.node (o622 P) .nil .nil) (.node (o878 P) .nil .nil)) (.node gone (.node gone .nil .nil) .nil)))) (.node (o62 P) (.node (o94 P) (.node (o158 P) (.node gone (.node (o542 P) .nil .nil) (.node gone .nil .nil)) (.node (o414 P) (.node (o670 P) .nil .nil) (.node (o926 P) .nil .nil))) (.node (o222 P) (.node (o350 P) (.node gone .nil .nil) (.node gone .nil .nil)) (.node (o478 P) (.node (o734 P) .nil .nil) .nil))) (.node (o126 P) (.node (o190 P) (.node (o318 P) (.node (o574 P) .nil .nil) (.node (o830 P) .nil .nil)) (.node (o446 P) (.node (o702 P) .nil .nil) (.node (o958 P) .nil .nil))) (.node (o254 P) (.node (o382 P) (.node gone .nil .nil) (.node (o894 P) .nil .nil)) (.node (o510 P) (.node (o766 P) .nil .nil) .nil)))))))))
def S_sc2 (P : Params) (d0 d1 d2 d3 d4 d5 d6 d7 : SD) : ST := ⟨T_sc2 P d0 d1 d2 d3 d4 d5 d6 d7, 982, 3370⟩
def T_send (P : Params) (d0 d1 d2 d3 d4 d5 d6 d7 : SD) : BT := (.node (o0 P) (.node (o1 P) (.node (o3_4 P) (.node (o7 P) (.node (o15 P) (.node (o31 P) (.node (o63 P) (.node (o127 P) (.node (o255 P) (.node (o511 P) .nil .nil) (.node (o767 P) .nil .nil)) (.node gone (.node (o639 P) .nil .nil) (.node gone .nil .nil))) (.node (o191 P) (.node gone (.node (o575 P) .nil .nil) (.node (o831 P) .nil .nil)) (.node (o447 P) (.node (o703 P) .nil .nil) (.node gone .nil .nil)))) (.node (o95 P) (.node gone (.node (o287 P) (.node gone .nil .nil) (.node (o799 P) .nil .nil)) (.node (o415 P) (.node (o671 P) .nil .nil) (.node (o927 P) .nil .nil))) (.node (o223 P) (.node (o351 P) (.node (o607 P) .nil .nil) (.node (o863 P) .nil .nil)) (.node gone (.node (o735 P) .nil .nil) (.node (o991 P) .nil .nil))))) (.node gone (.node (o79 P) (.node (o143 P) (.node (o271 P) (.node gone .nil .nil) (.node gone .nil .nil)) (.node gone (.node (o655 P) .nil .nil) (.node (o911 P) .nil .nil))) (.node (o207 P) (.node (o335 P) (.node gone .nil .nil) (.node gone .nil .nil)) (.node (o463 P) (.node (o719 P) .nil .nil) (.node gone .nil .nil)))) (.node (o111 P) (.node (o175 P) (.node (o303 P) (.node (o559 P) .nil .nil) (.node (o815 P) .nil .nil)) (.node (o431 P) (.node (o687 P) .nil .nil) (.node (o943 P) .nil .nil))) (.node (o239 P) (.node gone (.node (o623 P) .nil .nil) (.node (o879 P) .nil .nil)) (.node (o495 P) (.node (o751 P) .nil .nil) .nil))))) (.node (o23 P) (.node (o39 P) (.node (o71 P) (.node (o135 P) (.node (o263 P) (.node (o519 P) .nil .nil) (.node (o775 P) .nil .nil)) (.node (o391 P) (.node gone .nil .nil) (.node (o903 P) .nil .nil))) (.node (o199 P) (.node (o327 P) (.node (o583 P) .nil .nil) (.node (o839 P) .nil .nil)) (.node (o455 P) (.node (o711 P) .nil .nil) (.node (o967 P) .nil .nil)))) (.node gone (.node (o167 P) (.node gone (.node (o551 P) .nil .nil) (.node gone .nil .nil)) (.node (o423 P) (.node (o679 P) .nil .nil) (.node (o935 P) .nil .nil))) (.node (setO d1) (.node (o359 P) (.node gone .nil .nil) (.node gone .nil .nil)) (.node (o487 P) (.node gone .nil .nil) (.node (o999 P) .nil .nil))))) (.node (o55 P) (.node (o87 P) (.node (o151 P) (.node (o279 P) (.node (o535 P) .nil .nil) (.node (o791 P) .nil .nil)) (.node (o407 P) (.node (o663 P) .nil .nil) (.node gone .nil .nil))) (.node (o215 P) (.node gone (.node (o599 P) .nil .nil) (.node (o855 P) .nil .nil)) (.node (o471 P) (.node (o727 P) .nil .nil) (.node (o983 P) .nil .nil)))) (.node (o119 P) (.node (o183 P) (.node (o311 P) (.node gone .nil .nil) (.node (o823 P) .nil .nil)) (.node (o439 P) (.node (o695 P) .nil .nil) (.node (o951 P) .nil .nil))) (.node (o247 P) (.node (o375 P) (.node (o631 P) .nil .nil) (.node (o887 P) .nil .nil)) (.node gone (.node (o759 P) .nil .nil) .nil)))))) (.node (o11 P) (.node gone (.node (o35 P) (.node (o67 P) (.node gone (.node (o259 P) (.node gone .nil .nil) (.node gone .nil .nil)) (.node gone (.node (o643 P) .nil .nil) (.node (o899 P) .nil .nil))) (.node (o195 P) (.node (o323 P) (.node gone .nil .nil) (.node gone .nil .nil)) (.node gone (.node (o707 P) .nil .nil) (.node gone .nil .nil)))) (.node (o99 P) (.node (o163 P) (.node (o291 P) (.node (o547 P) .nil .nil) (.node (o803 P) .nil .nil)) (.node (o419 P) (.node gone .nil .nil) (.node gone .nil .nil))) (.node (o227 P) (.node gone (.node (o611 P) .nil .nil) (.node (o867 P) .nil .nil)) (.node (o483 P) (.node (o739 P) .nil .nil) (.node (o995 P) .nil .nil))))) (.node (o51 P) (.node (o83 P) (.node (o147 P) (.node (o275 P) (.node (o531 P) .nil .nil) (.node (o787 P) .nil .nil)) (.node (o403 P) (.node gone .nil .nil) (.node (o915 P) .nil .nil))) (.node (o211 P) (.node (o339 P) (.node (o595 P) .nil .nil) (.node (o851 P) .nil .nil)) (.node (o467 P) (.node (o723 P) .nil .nil) (.node (o979 P) .nil .nil)))) (.node (o115 P) (.node (o179 P) (.node gone (.node (o563 P) .nil .nil) (.node gone .nil .nil)) (.node (o435 P) (.node (o691 P) .nil .nil) (.node gone .nil .nil))) (.node (o243 P) (.node (o371 P) (.node (o627 P) .nil .nil) (.node gone .nil .nil)) (.node (o499 P) (.node (o755 P) .nil .nil) .nil))))) (.node (o27 P) (.node (o43 P) (.node gone (.node (o139 P) (.node (o267 P) (.node (o523 P) .nil .nil) (.node (o779 P) .nil .nil)) (.node (o395 P) (.node (o651 P) .nil .nil) (.node gone .nil .nil))) (.node (o203 P) (.node gone (.node (o587 P) .nil .nil) (.node (o843 P) .nil .nil)) (.node (o459 P) (.node (setO d5) .nil .nil) (.node (o971 P) .nil .nil)))) (.node (o107 P) (.node (o171 P) (.node (o299 P) (.node gone .nil .nil) (.node (o811 P) .nil .nil)) (.node (o427 P) (.node (o683 P) .nil .nil) (.node (o939 P) .nil .nil))) (.node (o235 P) (.node (o363 P) (.node (o619 P) .nil .nil) (.node (o875 P) .nil .nil)) (.node gone (.node (o747 P) .nil .nil) .nil)))) (.node (o59 P) (.node (o91 P) (.node (o155 P) (.node gone (.node (o539 P) .nil .nil) (.node gone .nil .nil)) (.node (o411 P) (.node (o667 P) .nil .nil) (.node (o923 P) .nil .nil))) (.node (o219 P) (.node (o347 P) (.node gone .nil .nil) (.node gone .nil .nil)) (.node (o475 P) (.node (o731 P) .nil .nil) (.node (o987 P) .nil .nil)))) (.node (o123 P) (.node gone (.node (o315 P) (.node (o571 P) .nil .nil) (.node (o827 P) .nil .nil)) (.node (o443 P) (.node (o699 P) .nil .nil) (.node (o955 P) .nil .nil))) (.node gone (.node (o379 P) (.node gone .nil .nil) (.node (o891 P) .nil .nil)) (.node (o507 P) (.node (o763 P) .nil .nil) .nil))))))) (.node (o5 P) (.node (o9 P) (.node (o17 P) (.node gone (.node (o65 P) (.node (o129 P) (.node (o257 P) (.node (o513 P) .nil .nil) (.node (o769 P) .nil .nil)) (.node (o385 P) (.node gone .nil .nil) (.node (o897 P) .nil .nil))) (.node (o193 P) (.node (o321 P) (.node (o577 P) .nil .nil) (.node (o833 P) .nil .nil)) (.node (o449 P) (.node (o705 P) .nil .nil) (.node (o961 P) .nil .nil)))) (.node (o97 P) (.node (o161 P) (.node gone (.node (o545 P) .nil .nil) (.node gone .nil .nil)) (.node (o417 P) (.node (o673 P) .nil .nil) (.node (o929 P) .nil .nil))) (.node (o225 P) (.node (o353 P) (.node gone .nil .nil) (.node gone .nil .nil)) (.node (o481 P) (.node (o737 P) .nil .nil) (.node (o993 P) .nil .nil))))) (.node (o49 P) (.node (o81 P) (.node gone (.node (o273 P) (.node (o529 P) .nil .nil) (.node (o785 P) .nil .nil)) (.node (o401 P) (.node (o657 P) .nil .nil) (.node gone .nil .nil))) (.node (o209 P) (.node gone (.node (o593 P) .nil .nil) (.node (o849 P) .nil .nil)) (.node gone (.node (o721 P) .nil .nil) (.node (o977 P) .nil .nil)))) (.node (o113 P) (.node (o177 P) (.node (o305 P) (.node gone .nil .nil) (.node (o817 P) .nil .nil)) (.node (o433 P) (.node (o689 P) .nil .nil) (.node (o945 P) .nil .nil))) (.node (o241 P) (.node (o369 P) (.node gone .nil .nil) (.node (o881 P) .nil .nil)) (.node gone (.node (o753 P) .nil .nil) .nil))))) (.node (o25 P) (.node (o41 P) (.node (o73 P) (.node (o137 P) (.node gone (.node gone .nil .nil) (.node gone .nil .nil)) (.node gone (.node (o649 P) .nil .nil) (.node (o905 P) .nil .nil))) (.node (o201 P) (.node (o329 P) (.node gone .nil .nil) (.node gone .nil .nil)) (.node (o457 P) (.node (o713 P) .nil .nil) (.node gone .nil .nil)))) (.node (o105 P) (.node (o169 P) (.node (o297 P) (.node (o553 P) .nil .nil) (.node (o809 P) .nil .nil)) (.node gone (.node (o681 P) .nil .nil) (.node gone .nil .nil))) (.node (o233 P) (.node gone (.node (o617 P) .nil .nil) (.node (o873 P) .nil .nil)) (.node (o489 P) (.node (o745 P) .nil .nil) .nil)))) (.node (o57 P) (.node gone (.node (o153 P) (.node (o281 P) (.node gone .nil .nil) (.node (o793 P) .nil .nil)) (.node (o409 P) (.node (o665 P) .nil .nil) (.node (o921 P) .nil .nil))) (.node (o217 P) (.node (o345 P) (.node (o601 P) .nil .nil) (.node (o857 P) .nil .nil)) (.node (o473 P) (.node gone .nil .nil) (.node (o985 P) .nil .nil)))) (.node (o121 P) (.node (o185 P) (.node gone (.node (o569 P) .nil .nil) (.node (o825 P) .nil .nil)) (.node (o441 P) (.node (o697 P) .nil .nil) (.node gone .nil .nil))) (.node (o249 P) (.node gone (.node (o633 P) .nil .nil) (.node gone .nil .nil)) (.node (o505 P) (.node (o761 P) .nil .nil) .nil)))))) (.node (o13 P) (.node (o21 P) (.node (o37 P) (.node (o69 P) (.node (o133 P) (.node (o261 P) (.node (o517 P) .nil .nil) (.node (o773 P) .nil .nil)) (.node (o389 P) (.node (o645 P) .nil .nil) (.node gone .nil .nil))) (.node (o197_2 P) (.node gone (.node (o581 P) .nil .nil) (.node (o837 P) .nil .nil)) (.node (setO d4) (.node (o709 P) .nil .nil) (.node (o965 P) .nil .nil)))) (.node (o101 P) (.node (o165 P) (.node (o293 P) (.node gone .nil .nil) (.node (o805 P) .nil .nil)) (.node (o421 P) (.node (o677 P) .nil .nil) (.node (o933 P) .nil .nil))) (.node gone (.node (o357 P) (.node (o613 P) .nil .nil) (.node (o869 P) .nil .nil)) (.node (o485 P) (.node (o741 P) .nil .nil) (.node gone .nil .nil))))) (.node (o53 P) (.node (o85 P) (.node (o149 P) (.node gone (.node gone .nil .nil) (.node gone .nil .nil)) (.node (o405 P) (.node (o661 P) .nil .nil) (.node (o917 P) .nil .nil))) (.node gone (.node (o341 P) (.node gone .nil .nil) (.node gone .nil .nil)) (.node (o469 P) (.node (o725 P) .nil .nil) (.node (o981 P) .nil .nil)))) (.node gone (.node (o181 P) (.node (o309 P) (.node (o565 P) .nil .nil) (.node (o821 P) .nil .nil)) (.node (o437 P) (.node (o693 P) .nil .nil) (.node (o949 P) .nil .nil))) (.node (o245 P) (.node (o373 P) (.node (o629 P) .nil .nil) (.node (o885 P) .nil .nil)) (.node (o501 P) (.node gone .nil .nil) .nil))))) (.node (o29 P) (.node (o45 P) (.node (o77 P) (.node (o141 P) (.node (o269 P) (.node (o525 P) .nil .nil) (.node (o781 P) .nil .nil)) (.node (o397 P) (.node gone .nil .nil) (.node (o909 P) .nil .nil))) (.node (o205 P) (.node (o333 P) (.node (o589 P) .nil .nil) (.node (o845 P) .nil .nil)) (.node (o461 P) (.node (setO d7) .nil .nil) (.node (o973 P) .nil .nil)))) (.node (o109 P) (.node gone (.node gone (.node (o557 P) .nil .nil) (.node gone .nil .nil)) (.node (o429 P) (.node (o685 P) .nil .nil) (.node gone .nil .nil))) (.node gone (.node (o365 P) (.node gone .nil .nil) (.node gone .nil .nil)) (.node (o493 P) (.node (o749 P) .nil .nil) .nil)))) (.node gone (.node (o93 P) (.node (o157 P) (.node (o285 P) (.node (o541 P) .nil .nil) (.node (o797 P) .nil .nil)) (.node (o413 P) (.node (o669 P) .nil .nil) (.node gone .nil .nil))) (.node (o221 P) (.node gone (.node (o605 P) .nil .nil) (.node (o861 P) .nil .nil)) (.node (o477 P) (.node (o733 P) .nil .nil) (.node (o989 P) .nil .nil)))) (.node (o125 P) (.node (o189 P) (.node (o317 P) (.node gone .nil .nil) (.node gone .nil .nil)) (.node (o445 P) (.node gone .nil .nil) (.node (o957 P) .nil .nil))) (.node (o253 P) (.node (o381 P) (.node (o637 P) .nil .nil) (.node (o893 P) .nil .nil)) (.node gone (.node gone .nil .nil) .nil)))))))) (.node (o2_3 P) (.node (o4 P) (.node (o8 P) (.node (o16 P) (.node (o32 P) (.node (o64 P) (.node (o128 P) (.node (o256 P) (.node gone .nil .nil) (.node gone .nil .nil)) (.node (o384 P) (.node (o640 P) .nil .nil) (.node (o896 P) .nil .nil))) (.node gone (.node (o320 P) (.node gone .nil .nil) (.node gone .nil .nil)) (.node (o448 P) (.node (o704 P) .nil .nil) (.node (o960 P) .nil .nil)))) (.node gone (.node (o160 P) (.node (o288 P) (.node (o544 P) .nil .nil) (.node (o800 P) .nil .nil)) (.node (o416 P) (.node (o672 P) .nil .nil) (.node gone .nil .nil))) (.node (o224 P) (.node gone (.node (o608 P) .nil .nil) (.node (o864 P) .nil .nil)) (.node (o480 P) (.node gone .nil .nil) (.node (o992 P) .nil .nil))))) (.node (o48 P) (.node (o80 P) (.node (o144 P) (.node gone (.node (o528 P) .nil .nil) (.node (o784 P) .nil .nil)) (.node (o400 P) (.node gone .nil .nil) (.node (o912 P) .nil .nil))) (.node gone (.node (o336 P) (.node (o592 P) .nil .nil) (.node (o848 P) .nil .nil)) (.node (o464 P) (.node (o720 P) .nil .nil) (.node (o976 P) .nil .nil)))) (.node (o112 P) (.node (o176 P) (.node gone (.node (o560 P) .nil .nil) (.node gone .nil .nil)) (.node (o432 P) (.node gone .nil .nil) (.node gone .nil .nil))) (.node (o240 P) (.node (o368 P) (.node (o624 P) .nil .nil) (.node gone .nil .nil)) (.node (o496 P) (.node (o752 P) .nil .nil) .nil))))) (.node (o24 P) (.node gone (.node (o72 P) (.node (o136 P) (.node (o264 P) (.node (o520 P) .nil .nil) (.node (o776 P) .nil .nil)) (.node (o392 P) (.node (o648 P) .nil .nil) (.node gone .nil .nil))) (.node (o200 P) (.node gone (.node (o584 P) .nil .nil) (.node (o840 P) .nil .nil)) (.node (o456 P) (.node (o712 P) .nil .nil) (.node (o968 P) .nil .nil)))) (.node (o104 P) (.node (o168 P) (.node (o296 P) (.node gone .nil .nil) (.node (o808 P) .nil .nil)) (.node (o424 P) (.node (o680 P) .nil .nil) (.node (o936 P) .nil .nil))) (.node (setO d2) (.node (o360 P) (.node (o616 P) .nil .nil) (.node (o872 P) .nil .nil)) (.node (o488 P) (.node (o744 P) .nil .nil) .nil)))) (.node (o56 P) (.node (o88 P) (.node gone (.node gone (.node (o536 P) .nil .nil) (.node gone .nil .nil)) (.node (o408 P) (.node (o664 P) .nil .nil) (.node (o920 P) .nil .nil))) (.node (o216 P) (.node (o344 P) (.node gone .nil .nil) (.node gone .nil .nil)) (.node gone (.node (o728 P) .nil .nil) (.node (o984 P) .nil .nil)))) (.node (o120 P) (.node (o184 P) (.node (o312 P) (.node (o568 P) .nil .nil) (.node (o824 P) .nil .nil)) (.node (o440 P) (.node (o696 P) .nil .nil) (.node (o952 P) .nil .nil))) (.node (o248 P) (.node (o376 P) (.node gone .nil .nil) (.node (o888 P) .nil .nil)) (.node (o504 P) (.node (o760 P) .nil .nil) .nil)))))) (.node (o12_4 P) (.node (o20 P) (.node (o36 P) (.node gone (.node (o132 P) (.node (o260 P) (.node (o516 P) .nil .nil) (.node (o772 P) .nil .nil)) (.node (o388 P) (.node gone .nil .nil) (.node (o900 P) .nil .nil))) (.node (o196 P) (.node (o324 P) (.node (o580 P) .nil .nil) (.node (o836 P) .nil .nil)) (.node (setO d3) (.node (o708 P) .nil .nil) (.node (o964 P) .nil .nil)))) (.node (o100 P) (.node (o164 P) (.node gone (.node (o548 P) .nil .nil) (.node gone .nil .nil)) (.node (o420 P) (.node (o676 P) .nil .nil) (.node (o932 P) .nil .nil))) (.node (o228 P) (.node (o356 P) (.node gone .nil .nil) (.node gone .nil .nil)) (.node (o484 P) (.node (o740 P) .nil .nil) (.node (o996 P) .nil .nil))))) (.node (o52 P) (.node (o84 P) (.node (o148 P) (.node (o276 P) (.node (o532 P) .nil .nil) (.node (o788 P) .nil .nil)) (.node (o404 P) (.node (o660 P) .nil .nil) (.node gone .nil .nil))) (.node (o212 P) (.node gone (.node (o596 P) .nil .nil) (.node (o852 P) .nil .nil)) (.node (o468 P) (.node (o724 P) .nil .nil) (.node (o980 P) .nil .nil)))) (.node (o116 P) (.node gone (.node (o308 P) (.node gone .nil .nil) (.node (o820 P) .nil .nil)) (.node (o436 P) (.node (o692 P) .nil .nil) (.node (o948 P) .nil .nil))) (.node gone (.node (o372 P) (.node gone .nil .nil) (.node (o884 P) .nil .nil)) (.node gone (.node (o756 P) .nil .nil) .nil))))) (.node (o28 P) (.node (o44 P) (.node (o76 P) (.node (o140 P) (.node (o268 P) (.node gone .nil .nil) (.node gone .nil .nil)) (.node gone (.node (o652 P) .nil .nil) (.node (o908 P) .nil .nil))) (.node (o204 P) (.node (o332 P) (.node gone .nil .nil) (.node gone .nil .nil)) (.node (o460 P) (.node (setO d6) .nil .nil) (.node gone .nil .nil)))) (.node (o108 P) (.node (o172 P) (.node (o300 P) (.node (o556 P) .nil .nil) (.node (o812 P) .nil .nil)) (.node (o428 P) (.node (o684 P) .nil .nil) (.node (o940 P) .nil .nil))) (.node (o236 P) (.node gone (.node (o620 P) .nil .nil) (.node (o876 P) .nil .nil)) (.node (o492 P) (.node (o748 P) .nil .nil) .nil)))) (.node (o60 P) (.node (o92 P) (.node (o156 P) (.node (o284 P) (.node gone .nil .nil) (.node (o796 P) .nil .nil)) (.node gone (.node (o668 P) .nil .nil) (.node (o924 P) .nil .nil))) (.node (o220 P) (.node (o348 P) (.node (o604 P) .nil .nil) (.node (o860 P) .nil .nil)) (.node (o476 P) (.node (o732 P) .nil .nil) (.node gone .nil .nil)))) (.node gone (.node (o188 P) (.node gone (.node (o572 P) .nil .nil) (.node (o828 P) .nil .nil)) (.node (o444 P) (.node (o700 P) .nil .nil) (.node gone .nil .nil))) (.node (o252 P) (.node gone (.node (o636 P) .nil .nil) (.node gone .nil .nil)) (.node (o508 P) (.node (o764 P) .nil .nil) .nil))))))) (.node (o6 P) (.node (o10 P) (.node (o18 P) (.node (o34 P) (.node (o66 P) (.node (o130 P) (.node gone (.node (o514 P) .nil .nil) (.node (o770 P) .nil .nil)) (.node (o386 P) (.node (o642 P) .nil .nil) (.node gone .nil .nil))) (.node (o194 P) (.node gone (.node (o578 P) .nil .nil) (.node (o834 P) .nil .nil)) (.node (o450 P) (.node (o706 P) .nil .nil) (.node (o962 P) .nil .nil)))) (.node (o98 P) (.node (o162 P) (.node (o290 P) (.node gone .nil .nil) (.node (o802 P) .nil .nil)) (.node (o418 P) (.node (o674 P) .nil .nil) (.node (o930 P) .nil .nil))) (.node (o226 P) (.node (o354 P) (.node (o610 P) .nil .nil) (.node (o866 P) .nil .nil)) (.node (o482 P) (.node (o738 P) .nil .nil) (.node (o994 P) .nil .nil))))) (.node (o50 P) (.node gone (.node (o146 P) (.node (o274 P) (.node gone .nil .nil) (.node gone .nil .nil)) (.node (o402 P) (.node (o658 P) .nil .nil) (.node (o914 P) .nil .nil))) (.node (o210 P) (.node (o338 P) (.node gone .nil .nil) (.node gone .nil .nil)) (.node (o466 P) (.node gone .nil .nil) (.node (o978 P) .nil .nil)))) (.node (o114 P) (.node (o178 P) (.node (o306 P) (.node (o562 P) .nil .nil) (.node (o818 P) .nil .nil)) (.node (o434 P) (.node (o690 P) .nil .nil) (.node (o946 P) .nil .nil))) (.node (o242 P) (.node gone (.node (o626 P) .nil .nil) (.node (o882 P) .nil .nil)) (.node (o498 P) (.node (o754 P) .nil .nil) .nil))))) (.node (o26 P) (.node (o42 P) (.node (o74 P) (.node gone (.node (o266 P) (.node (o522 P) .nil .nil) (.node (o778 P) .nil .nil)) (.node (o394 P) (.node gone .nil .nil) (.node (o906 P) .nil .nil))) (.node (o202 P) (.node (o330 P) (.node (o586 P) .nil .nil) (.node (o842 P) .nil .nil)) (.node gone (.node gone .nil .nil) (.node (o970 P) .nil .nil)))) (.node (o106 P) (.node (o170 P) (.node gone (.node (o554 P) .nil .nil) (.node gone .nil .nil)) (.node (o426 P) (.node (o682 P) .nil .nil) (.node (o938 P) .nil .nil))) (.node (o234 P) (.node (o362 P) (.node gone .nil .nil) (.node gone .nil .nil)) (.node (o490 P) (.node (o746 P) .nil .nil) .nil)))) (.node (o58 P) (.node (o90 P) (.node (o154 P) (.node (o282 P) (.node (o538 P) .nil .nil) (.node (o794 P) .nil .nil)) (.node (o410 P) (.node (o666 P) .nil .nil) (.node gone .nil .nil))) (.node (o218 P) (.node gone (.node (o602 P) .nil .nil) (.node (o858 P) .nil .nil)) (.node (o474 P) (.node (o730 P) .nil .nil) (.node (o986 P) .nil .nil)))) (.node (o122 P) (.node (o186 P) (.node (o314 P) (.node gone .nil .nil) (.node gone .nil .nil)) (.node (o442 P) (.node (o698 P) .nil .nil) (.node (o954 P) .nil .nil))) (.node (o250 P) (.node (o378 P) (.node (o634 P) .nil .nil) (.node (o890 P) .nil .nil)) (.node gone (.node gone .nil .nil) .nil)))))) (.node (o14 P) (.node (o22 P) (.node (o38 P) (.node (o70 P) (.node (o134 P) (.node (o262 P) (.node gone .nil .nil) (.node gone .nil .nil)) (.node gone (.node (o646 P) .nil .nil) (.node (o902 P) .nil .nil))) (.node (o198 P) (.node (o326 P) (.node gone .nil .nil) (.node gone .nil .nil)) (.node (o454 P) (.node (o710 P) .nil .nil) (.node gone .nil .nil)))) (.node (o102 P) (.node gone (.node (o294 P) (.node (o550 P) .nil .nil) (.node (o806 P) .nil .nil)) (.node (o422 P) (.node (o678 P) .nil .nil) (.node gone .nil .nil))) (.node (setO d0) (.node gone (.node (o614 P) .nil .nil) (.node (o870 P) .nil .nil)) (.node gone (.node (o742 P) .nil .nil) (.node (o998 P) .nil .nil))))) (.node gone (.node (o86 P) (.node (o150 P) (.node (o278 P) (.node (o534 P) .nil .nil) (.node (o790 P) .nil .nil)) (.node (o406 P) (.node gone .nil .nil) (.node (o918 P) .nil .nil))) (.node (o214 P) (.node (o342 P) (.node (o598 P) .nil .nil) (.node (o854 P) .nil .nil)) (.node (o470 P) (.node (o726 P) .nil .nil) (.node (o982 P) .nil .nil)))) (.node (o118 P) (.node (o182 P) (.node gone (.node (o566 P) .nil .nil) (.node gone .nil .nil)) (.node gone (.node (o694 P) .nil .nil) (.node gone .nil .nil))) (.node (o246 P) (.node gone (.node (o630 P) .nil .nil) (.node gone .nil .nil)) (.node (o502 P) (.node (o758 P) .nil .nil) .nil))))) (.node (o30 P) (.node (o46 P) (.node (o78 P) (.node (o142 P) (.node (o270 P) (.node (o526 P) .nil .nil) (.node (o782 P) .nil .nil)) (.node (o398 P) (.node (o654 P) .nil .nil) (.node gone .nil .nil))) (.node (o206 P) (.node gone (.node (o590 P) .nil .nil) (.node (o846 P) .nil .nil)) (.node (o462 P) (.node (o718 P) .nil .nil) (.node (o974 P) .nil .nil)))) (.node gone (.node (o174 P) (.node (o302 P) (.node gone .nil .nil) (.node (o814 P) .nil .nil)) (.node (o430 P) (.node (o686 P) .nil .nil) (.node (o942 P) .nil .nil))) (.node (o238 P) (.node (o366 P) (.node (o622 P) .nil .nil) (.node (o878 P) .nil .nil)) (.node gone (.node gone .nil .nil) .nil)))) (.node (o62 P) (.node (o94 P) (.node (o158 P) (.node gone (.node (o542 P) .nil .nil) (.node gone .nil .nil)) (.node (o414 P) (.node (o670 P) .nil .nil) (.node (o926 P) .nil .nil))) (.node (o222 P) (.node (o350 P) (.node gone .nil .nil) (.node gone .nil .nil)) (.node (o478 P) (.node (o734 P) .nil .nil) (.node (o990 P) .nil .nil)))) (.node (o126 P) (.node (o190 P) (.node (o318 P) (.node (o574 P) .nil .nil) (.node (o830 P) .nil .nil)) (.node (o446 P) (.node (o702 P) .nil .nil) (.node (o958 P) .nil .nil))) (.node (o254 P) (.node (o382 P) (.node gone .nil .nil) (.node (o894 P) .nil .nil)) (.node (o510 P) (.node (o766 P) .nil .nil) .nil)))))))))
def S_send (P : Params) (d0 d1 d2 d3 d4 d5 d6 d7 : SD) : ST := ⟨T_send P d0 d1 d2 d3 d4 d5 d6 d7, 1000, 3401⟩
def T_b0 (P : Params) : BT := (.node (o0 P) (.node (o1 P) (.node (o3_x0 P) (.node (o7 P) (.node (o15 P) (.node (o31 P) (.node (o63 P) (.node (o127 P) .nil .nil) (.node (o191 P) .nil .nil)) (.node (o95 P) (.node gone .nil .nil) .nil)) (.node gone (.node (o79 P) (.node (o143 P) .nil .nil) (.node (o207 P) .nil .nil)) (.node (o111 P) (.node (o175 P) .nil .nil) .nil))) (.node (o23 P) (.node (o39 P) (.node (o71 P) (.node (o135 P) .nil .nil) (.node (o199 P) .nil .nil)) (.node gone (.node (o167 P) .nil .nil) .nil)) (.node (o55 P) (.node (o87 P) (.node (o151 P) .nil .nil) (.node (o215 P) .nil .nil)) (.node (o119 P) (.node (o183 P) .nil .nil) .nil)))) (.node (o11 P) (.node gone (.node (o35 P) (.node (o67 P) (.node gone .nil .nil) (.node (o195 P) .nil .nil)) (.node (o99 P) (.node (o163 P) .nil .nil) .nil)) (.node (o51 P) (.node (o83 P) (.node (o147 P) .nil .nil) (.node (o211 P) .nil .nil)) (.node (o115 P) (.node (o179 P) .nil .nil) .nil))) (.node (o27 P) (.node (o43 P) (.node gone (.node (o139 P) .nil .nil) (.node (o203 P) .nil .nil)) (.node (o107 P) (.node (o171 P) .nil .nil) .nil)) (.node (o59 P) (.node (o91 P) (.node (o155 P) .nil .nil) (.node (o219 P) .nil .nil)) (.node (o123 P) (.node gone .nil .nil) .nil))))) (.node (o5 P) (.node (o9 P) (.node (o17 P) (.node gone (.node (o65 P) (.node (o129 P) .nil .nil) (.node (o193 P) .nil .nil)) (.node (o97 P) (.node (o161 P) .nil .nil) .nil)) (.node (o49 P) (.node (o81 P) (.node gone .nil .nil) (.node (o209 P) .nil .nil)) (.node (o113 P) (.node (o177 P) .nil .nil) .nil))) (.node (o25 P) (.node (o41 P) (.node (o73 P) (.node (o137 P) .nil .nil) (.node (o201 P) .nil .nil)) (.node (o105 P) (.node (o169 P) .nil .nil) .nil)) (.node (o57 P) (.node gone (.node (o153 P) .nil .nil) (.node (o217 P) .nil .nil)) (.node (o121 P) (.node (o185 P) .nil .nil) .nil)))) (.node (o13 P) (.node (o21 P) (.node (o37 P) (.node (o69 P) (.node (o133 P) .nil .nil) (.node (o197_x0 P) .nil .nil)) (.node (o101 P) (.node (o165 P) .nil .nil) .nil)) (.node (o53 P) (.node (o85 P) (.node (o149 P) .nil .nil) (.node gone .nil .nil)) (.node gone (.node (o181 P) .nil .nil) .nil))) (.node (o29 P) (.node (o45 P) (.node (o77 P) (.node (o141 P) .nil .nil) (.node (o205 P) .nil .nil)) (.node (o109 P) (.node gone .nil .nil) .nil)) (.node gone (.node (o93 P) (.node (o157 P) .nil .nil) (.node (o221 P) .nil .nil)) (.node (o125 P) (.node (o189 P) .nil .nil) .nil)))))) (.node (o2_0 P) (.node (o4 P) (.node (o8 P) (.node (o16 P) (.node (o32 P) (.node (o64 P) (.node (o128 P) .nil .nil) (.node gone .nil .nil)) (.node gone (.node (o160 P) .nil .nil) .nil)) (.node (o48 P) (.node (o80 P) (.node (o144 P) .nil .nil) (.node gone .nil .nil)) (.node (o112 P) (.node (o176 P) .nil .nil) .nil))) (.node (o24 P) (.node gone (.node (o72 P) (.node (o136 P) .nil .nil) (.node (o200 P) .nil .nil)) (.node (o104 P) (.node (o168 P) .nil .nil) .nil)) (.node (o56 P) (.node (o88 P) (.node gone .nil .nil) (.node (o216 P) .nil .nil)) (.node (o120 P) (.node (o184 P) .nil .nil) .nil)))) (.node (o12_x0 P) (.node (o20 P) (.node (o36 P) (.node gone (.node (o132 P) .nil .nil) (.node (o196 P) .nil .nil)) (.node (o100 P) (.node (o164 P) .nil .nil) .nil)) (.node (o52 P) (.node (o84 P) (.node (o148 P) .nil .nil) (.node (o212 P) .nil .nil)) (.node (o116 P) (.node gone .nil .nil) .nil))) (.node (o28 P) (.node (o44 P) (.node (o76 P) (.node (o140 P) .nil .nil) (.node (o204 P) .nil .nil)) (.node (o108 P) (.node (o172 P) .nil .nil) .nil)) (.node (o60 P) (.node (o92 P) (.node (o156 P) .nil .nil) (.node (o220 P) .nil .nil)) (.node gone (.node (o188 P) .nil .nil) .nil))))) (.node (o6 P) (.node (o10 P) (.node (o18 P) (.node (o34 P) (.node (o66 P) (.node (o130 P) .nil .nil) (.node (o194 P) .nil .nil)) (.node (o98 P) (.node (o162 P) .nil .nil) .nil)) (.node (o50 P) (.node gone (.node (o146 P) .nil .nil) (.node (o210 P) .nil .nil)) (.node (o114 P) (.node (o178 P) .nil .nil) .nil))) (.node (o26 P) (.node (o42 P) (.node (o74 P) (.node gone .nil .nil) (.node (o202 P) .nil .nil)) (.node (o106 P) (.node (o170 P) .nil .nil) .nil)) (.node (o58 P) (.node (o90 P) (.node (o154 P) .nil .nil) (.node (o218 P) .nil .nil)) (.node (o122 P) (.node (o186 P) .nil .nil) .nil)))) (.node (o14 P) (.node (o22 P) (.node (o38 P) (.node (o70 P) (.node (o134 P) .nil .nil) (.node (o198 P) .nil .nil)) (.node (o102 P) (.node gone .nil .nil) .nil)) (.node gone (.node (o86 P) (.node (o150 P) .nil .nil) (.node (o214 P) .nil .nil)) (.node (o118 P) (.node (o182 P) .nil .nil) .nil))) (.node (o30 P) (.node (o46 P) (.node (o78 P) (.node (o142 P) .nil .nil) (.node (o206 P) .nil .nil)) (.node gone (.node (o174 P) .nil .nil) .nil)) (.node (o62 P) (.node (o94 P) (.node (o158 P) .nil .nil) (.node (o222 P) .nil .nil)) (.node (o126 P) (.node (o190 P) .nil .nil) .nil)))))))
def S_b0 (P : Params) : ST := ⟨T_b0 P, 223, 461⟩
def T_m0a (P : Params) (d0 d1 d2 : SD) : BT := (.node (o0 P) (.node (o1 P) (.node (o3_x0 P) (.node (o7 P) (.node (o15 P) (.node (o31 P) (.node (o63 P) (.node (o127 P) (.node (o255 P) .nil .nil) .nil) (.node (o191 P) .nil .nil)) (.node (o95 P) (.node gone .nil .nil) (.node (o223 P) .nil .nil))) (.node gone (.node (o79 P) (.node (o143 P) (.node (o271 P) .nil .nil) .nil) (.node (o207 P) .nil .nil)) (.node (o111 P) (.node (o175 P) .nil .nil) (.node (o239 P) .nil .nil)))) (.node (o23 P) (.node (o39 P) (.node (o71 P) (.node (o135 P) (.node (o263 P) .nil .nil) .nil) (.node (o199 P) .nil .nil)) (.node gone (.node (o167 P) .nil .nil) (.node (setO d1) .nil .nil))) (.node (o55 P) (.node (o87 P) (.node (o151 P) .nil .nil) (.node (o215 P) .nil .nil)) (.node (o119 P) (.node (o183 P) .nil .nil) (.node (o247 P) .nil .nil))))) (.node (o11 P) (.node gone (.node (o35 P) (.node (o67 P) (.node gone (.node (o259 P) .nil .nil) .nil) (.node (o195 P) .nil .nil)) (.node (o99 P) (.node (o163 P) .nil .nil) (.node (o227 P) .nil .nil))) (.node (o51 P) (.node (o83 P) (.node (o147 P) .nil .nil) (.node (o211 P) .nil .nil)) (.node (o115 P) (.node (o179 P) .nil .nil) (.node (o243 P) .nil .nil)))) (.node (o27 P) (.node (o43 P) (.node gone (.node (o139 P) (.node (o267 P) .nil .nil) .nil) (.node (o203 P) .nil .nil)) (.node (o107 P) (.node (o171 P) .nil .nil) (.node (o235 P) .nil .nil))) (.node (o59 P) (.node (o91 P) (.node (o155 P) .nil .nil) (.node (o219 P) .nil .nil)) (.node (o123 P) (.node gone .nil .nil) (.node gone .nil .nil)))))) (.node (o5 P) (.node (o9 P) (.node (o17 P) (.node gone (.node (o65 P) (.node (o129 P) (.node (o257 P) .nil .nil) .nil) (.node (o193 P) .nil .nil)) (.node (o97 P) (.node (o161 P) .nil .nil) (.node (o225_x0 P) .nil .nil))) (.node (o49 P) (.node (o81 P) (.node gone (.node (o273 P) .nil .nil) .nil) (.node (o209 P) .nil .nil)) (.node (o113 P) (.node (o177 P) .nil .nil) (.node (o241 P) .nil .nil)))) (.node (o25 P) (.node (o41 P) (.node (o73 P) (.node (o137 P) (.node gone .nil .nil) .nil) (.node (o201 P) .nil .nil)) (.node (o105 P) (.node (o169 P) .nil .nil) (.node (o233 P) .nil .nil))) (.node (o57 P) (.node gone (.node (o153 P) .nil .nil) (.node (o217 P) .nil .nil)) (.node (o121 P) (.node (o185 P) .nil .nil) (.node (o249 P) .nil .nil))))) (.node (o13 P) (.node (o21 P) (.node (o37 P) (.node (o69 P) (.node (o133 P) (.node (o261 P) .nil .nil) .nil) (.node (o197_x0 P) .nil .nil)) (.node (o101 P) (.node (o165 P) .nil .nil) (.node (o229_x0 P) .nil .nil))) (.node (o53 P) (.node (o85 P) (.node (o149 P) .nil .nil) (.node gone .nil .nil)) (.node gone (.node (o181 P) .nil .nil) (.node (o245 P) .nil .nil)))) (.node (o29 P) (.node (o45 P) (.node (o77 P) (.node (o141 P) (.node (o269 P) .nil .nil) .nil) (.node (o205 P) .nil .nil)) (.node (o109 P) (.node gone .nil .nil) (.node gone .nil .nil))) (.node gone (.node (o93 P) (.node (o157 P) .nil .nil) (.node (o221 P) .nil .nil)) (.node (o125 P) (.node (o189 P) .nil .nil) (.node (o253 P) .nil .nil))))))) (.node (o2_0 P) (.node (o4 P) (.node (o8 P) (.node (o16 P) (.node (o32 P) (.node (o64 P) (.node (o128 P) (.node (o256 P) .nil .nil) .nil) (.node gone .nil .nil)) (.node gone (.node (o160 P) .nil .nil) (.node (o224 P) .nil .nil))) (.node (o48 P) (.node (o80 P) (.node (o144 P) (.node gone .nil .nil) .nil) (.node gone .nil .nil)) (.node (o112 P) (.node (o176 P) .nil .nil) (.node (o240 P) .nil .nil)))) (.node (o24 P) (.node gone (.node (o72 P) (.node (o136 P) (.node (o264 P) .nil .nil) .nil) (.node (o200 P) .nil .nil)) (.node (o104 P) (.node (o168 P) .nil .nil) (.node (setO d2) .nil .nil))) (.node (o56 P) (.node (o88 P) (.node gone .nil .nil) (.node (o216 P) .nil .nil)) (.node (o120 P) (.node (o184 P) .nil .nil) (.node (o248 P) .nil .nil))))) (.node (o12_1 P) (.node (o20 P) (.node (o36 P) (.node gone (.node (o132 P) (.node (o260 P) .nil .nil) .nil) (.node (o196 P) .nil .nil)) (.node (o100 P) (.node (o164 P) .nil .nil) (.node (o228 P) .nil .nil))) (.node (o52 P) (.node (o84 P) (.node (o148 P) .nil .nil) (.node (o212 P) .nil .nil)) (.node (o116 P) (.node gone .nil .nil) (.node gone .nil .nil)))) (.node (o28 P) (.node (o44 P) (.node (o76 P) (.node (o140 P) (.node (o268 P) .nil .nil) .nil) (.node (o204 P) .nil .nil)) (.node (o108 P) (.node (o172 P) .nil .nil) (.node (o236 P) .nil .nil))) (.node (o60 P) (.node (o92 P) (.node (o156 P) .nil .nil) (.node (o220 P) .nil .nil)) (.node gone (.node (o188 P) .nil .nil) (.node (o252 P) .nil .nil)))))) (.node (o6 P) (.node (o10 P) (.node (o18 P) (.node (o34 P) (.node (o66 P) (.node (o130 P) (.node gone .nil .nil) .nil) (.node (o194 P) .nil .nil)) (.node (o98 P) (.node (o162 P) .nil .nil) (.node (o226 P) .nil .nil))) (.node (o50 P) (.node gone (.node (o146 P) (.node (o274 P) .nil .nil) .nil) (.node (o210 P) .nil .nil)) (.node (o114 P) (.node (o178 P) .nil .nil) (.node (o242 P) .nil .nil)))) (.node (o26 P) (.node (o42 P) (.node (o74 P) (.node gone (.node (o266 P) .nil .nil) .nil) (.node (o202 P) .nil .nil)) (.node (o106 P) (.node (o170 P) .nil .nil) (.node (o234 P) .nil .nil))) (.node (o58 P) (.node (o90 P) (.node (o154 P) .nil .nil) (.node (o218 P) .nil .nil)) (.node (o122 P) (.node (o186 P) .nil .nil) (.node (o250 P) .nil .nil))))) (.node (o14 P) (.node (o22 P) (.node (o38 P) (.node (o70 P) (.node (o134 P) (.node (o262 P) .nil .nil) .nil) (.node (o198 P) .nil .nil)) (.node (o102 P) (.node gone .nil .nil) (.node (setO d0) .nil .nil))) (.node gone (.node (o86 P) (.node (o150 P) .nil .nil) (.node (o214 P) .nil .nil)) (.node (o118 P) (.node (o182 P) .nil .nil) (.node (o246 P) .nil .nil)))) (.node (o30 P) (.node (o46 P) (.node (o78 P) (.node (o142 P) (.node (o270 P) .nil .nil) .nil) (.node (o206 P) .nil .nil)) (.node gone (.node (o174 P) .nil .nil) (.node (o238 P) .nil .nil))) (.node (o62 P) (.node (o94 P) (.node (o158 P) .nil .nil) (.node (o222 P) .nil .nil)) (.node (o126 P) (.node (o190 P) .nil .nil) (.node (o254 P) .nil .nil))))))))
def S_m0a (P : Params) (d0 d1 d2 : SD) : ST := ⟨T_m0a P d0 d1 d2, 275, 621⟩
def T_m0b (P : Params) (d0 d1 d2 : SD) : BT := (.node (o0 P) (.node (o1 P) (.node (o3_x0 P) (.node (o7 P) (.node (o15 P) (.node (o31 P) (.node (o63 P) (.node (o127 P) (.node (o255 P) .nil .nil) .nil) (.node (o191 P) (.node gone .nil .nil) .nil)) (.node (o95 P) (.node gone (.node (o287 P) .nil .nil) .nil) (.node (o223 P) (.node (o351 P) .nil .nil) .nil))) (.node gone (.node (o79 P) (.node (o143 P) (.node (o271 P) .nil .nil) .nil) (.node (o207 P) (.node (o335 P) .nil .nil) .nil)) (.node (o111 P) (.node (o175 P) (.node (o303 P) .nil .nil) .nil) (.node (o239 P) (.node gone .nil .nil) .nil)))) (.node (o23 P) (.node (o39 P) (.node (o71 P) (.node (o135 P) (.node (o263 P) .nil .nil) .nil) (.node (o199 P) (.node (o327 P) .nil .nil) .nil)) (.node gone (.node (o167 P) (.node gone .nil .nil) .nil) (.node (setO d1) (.node (o359 P) .nil .nil) .nil))) (.node (o55 P) (.node (o87 P) (.node (o151 P) (.node (o279 P) .nil .nil) .nil) (.node (o215 P) (.node gone .nil .nil) .nil)) (.node (o119 P) (.node (o183 P) (.node (o311 P) .nil .nil) .nil) (.node (o247 P) .nil .nil))))) (.node (o11 P) (.node gone (.node (o35 P) (.node (o67 P) (.node gone (.node (o259 P) .nil .nil) .nil) (.node (o195 P) (.node (o323 P) .nil .nil) .nil)) (.node (o99 P) (.node (o163 P) (.node (o291 P) .nil .nil) .nil) (.node (o227 P) (.node gone .nil .nil) .nil))) (.node (o51 P) (.node (o83 P) (.node (o147 P) (.node (o275 P) .nil .nil) .nil) (.node (o211 P) (.node (o339 P) .nil .nil) .nil)) (.node (o115 P) (.node (o179 P) (.node gone .nil .nil) .nil) (.node (o243 P) (.node (o371 P) .nil .nil) .nil)))) (.node (o27 P) (.node (o43 P) (.node gone (.node (o139 P) (.node (o267 P) .nil .nil) .nil) (.node (o203 P) (.node gone .nil .nil) .nil)) (.node (o107 P) (.node (o171 P) (.node (o299 P) .nil .nil) .nil) (.node (o235 P) (.node (o363 P) .nil .nil) .nil))) (.node (o59 P) (.node (o91 P) (.node (o155 P) (.node gone .nil .nil) .nil) (.node (o219 P) (.node (o347 P) .nil .nil) .nil)) (.node (o123 P) (.node gone (.node (o315 P) .nil .nil) .nil) (.node gone .nil .nil)))))) (.node (o5 P) (.node (o9 P) (.node (o17 P) (.node gone (.node (o65 P) (.node (o129 P) (.node (o257 P) .nil .nil) .nil) (.node (o193 P) (.node (o321 P) .nil .nil) .nil)) (.node (o97 P) (.node (o161 P) (.node gone .nil .nil) .nil) (.node (o225_x1 P) (.node (o353 P) .nil .nil) .nil))) (.node (o49 P) (.node (o81 P) (.node gone (.node (o273 P) .nil .nil) .nil) (.node (o209 P) (.node gone .nil .nil) .nil)) (.node (o113 P) (.node (o177 P) (.node (o305 P) .nil .nil) .nil) (.node (o241 P) (.node (o369 P) .nil .nil) .nil)))) (.node (o25 P) (.node (o41 P) (.node (o73 P) (.node (o137 P) (.node gone .nil .nil) .nil) (.node (o201 P) (.node (o329 P) .nil .nil) .nil)) (.node (o105 P) (.node (o169 P) (.node (o297 P) .nil .nil) .nil) (.node (o233 P) (.node gone .nil .nil) .nil))) (.node (o57 P) (.node gone (.node (o153 P) (.node (o281 P) .nil .nil) .nil) (.node (o217 P) (.node (o345 P) .nil .nil) .nil)) (.node (o121 P) (.node (o185 P) (.node gone .nil .nil) .nil) (.node (o249 P) .nil .nil))))) (.node (o13 P) (.node (o21 P) (.node (o37 P) (.node (o69 P) (.node (o133 P) (.node (o261 P) .nil .nil) .nil) (.node (o197_x0 P) (.node gone .nil .nil) .nil)) (.node (o101 P) (.node (o165 P) (.node (o293 P) .nil .nil) .nil) (.node (o229_x0 P) (.node (o357 P) .nil .nil) .nil))) (.node (o53 P) (.node (o85 P) (.node (o149 P) (.node gone .nil .nil) .nil) (.node gone (.node (o341 P) .nil .nil) .nil)) (.node gone (.node (o181 P) (.node (o309 P) .nil .nil) .nil) (.node (o245 P) .nil .nil)))) (.node (o29 P) (.node (o45 P) (.node (o77 P) (.node (o141 P) (.node (o269 P) .nil .nil) .nil) (.node (o205 P) (.node (o333 P) .nil .nil) .nil)) (.node (o109 P) (.node gone (.node gone .nil .nil) .nil) (.node gone (.node (o365 P) .nil .nil) .nil))) (.node gone (.node (o93 P) (.node (o157 P) (.node (o285 P) .nil .nil) .nil) (.node (o221 P) (.node gone .nil .nil) .nil)) (.node (o125 P) (.node (o189 P) (.node (o317 P) .nil .nil) .nil) (.node (o253 P) .nil .nil))))))) (.node (o2_0 P) (.node (o4 P) (.node (o8 P) (.node (o16 P) (.node (o32 P) (.node (o64 P) (.node (o128 P) (.node (o256 P) .nil .nil) .nil) (.node gone (.node (o320 P) .nil .nil) .nil)) (.node gone (.node (o160 P) (.node (o288 P) .nil .nil) .nil) (.node (o224 P) (.node gone .nil .nil) .nil))) (.node (o48 P) (.node (o80 P) (.node (o144 P) (.node gone .nil .nil) .nil) (.node gone (.node (o336 P) .nil .nil) .nil)) (.node (o112 P) (.node (o176 P) (.node gone .nil .nil) .nil) (.node (o240 P) (.node (o368 P) .nil .nil) .nil)))) (.node (o24 P) (.node gone (.node (o72 P) (.node (o136 P) (.node (o264 P) .nil .nil) .nil) (.node (o200 P) (.node gone .nil .nil) .nil)) (.node (o104 P) (.node (o168 P) (.node (o296 P) .nil .nil) .nil) (.node (setO d2) (.node (o360 P) .nil .nil) .nil))) (.node (o56 P) (.node (o88 P) (.node gone (.node gone .nil .nil) .nil) (.node (o216 P) (.node (o344 P) .nil .nil) .nil)) (.node (o120 P) (.node (o184 P) (.node (o312 P) .nil .nil) .nil) (.node (o248 P) .nil .nil))))) (.node (o12_1 P) (.node (o20 P) (.node (o36 P) (.node gone (.node (o132 P) (.node (o260 P) .nil .nil) .nil) (.node (o196 P) (.node (o324 P) .nil .nil) .nil)) (.node (o100 P) (.node (o164 P) (.node gone .nil .nil) .nil) (.node (o228 P) (.node (o356 P) .nil .nil) .nil))) (.node (o52 P) (.node (o84 P) (.node (o148 P) (.node (o276 P) .nil .nil) .nil) (.node (o212 P) (.node gone .nil .nil) .nil)) (.node (o116 P) (.node gone (.node (o308 P) .nil .nil) .nil) (.node gone .nil .nil)))) (.node (o28 P) (.node (o44 P) (.node (o76 P) (.node (o140 P) (.node (o268 P) .nil .nil) .nil) (.node (o204 P) (.node (o332 P) .nil .nil) .nil)) (.node (o108 P) (.node (o172 P) (.node (o300 P) .nil .nil) .nil) (.node (o236 P) (.node gone .nil .nil) .nil))) (.node (o60 P) (.node (o92 P) (.node (o156 P) (.node (o284 P) .nil .nil) .nil) (.node (o220 P) (.node (o348 P) .nil .nil) .nil)) (.node gone (.node (o188 P) (.node gone .nil .nil) .nil) (.node (o252 P) .nil .nil)))))) (.node (o6 P) (.node (o10 P) (.node (o18 P) (.node (o34 P) (.node (o66 P) (.node (o130 P) (.node gone .nil .nil) .nil) (.node (o194 P) (.node gone .nil .nil) .nil)) (.node (o98 P) (.node (o162 P) (.node (o290 P) .nil .nil) .nil) (.node (o226 P) (.node (o354 P) .nil .nil) .nil))) (.node (o50 P) (.node gone (.node (o146 P) (.node (o274 P) .nil .nil) .nil) (.node (o210 P) (.node (o338 P) .nil .nil) .nil)) (.node (o114 P) (.node (o178 P) (.node (o306 P) .nil .nil) .nil) (.node (o242 P) (.node gone .nil .nil) .nil)))) (.node (o26 P) (.node (o42 P) (.node (o74 P) (.node gone (.node (o266 P) .nil .nil) .nil) (.node (o202 P) (.node (o330 P) .nil .nil) .nil)) (.node (o106 P) (.node (o170 P) (.node gone .nil .nil) .nil) (.node (o234 P) (.node (o362 P) .nil .nil) .nil))) (.node (o58 P) (.node (o90 P) (.node (o154 P) (.node (o282 P) .nil .nil) .nil) (.node (o218 P) (.node gone .nil .nil) .nil)) (.node (o122 P) (.node (o186 P) (.node (o314 P) .nil .nil) .nil) (.node (o250 P) .nil .nil))))) (.node (o14 P) (.node (o22 P) (.node (o38 P) (.node (o70 P) (.node (o134 P) (.node (o262 P) .nil .nil) .nil) (.node (o198 P) (.node (o326 P) .nil .nil) .nil)) (.node (o102 P) (.node gone (.node (o294 P) .nil .nil) .nil) (.node (setO d0) (.node gone .nil .nil) .nil))) (.node gone (.node (o86 P) (.node (o150 P) (.node (o278 P) .nil .nil) .nil) (.node (o214 P) (.node (o342 P) .nil .nil) .nil)) (.node (o118 P) (.node (o182 P) (.node gone .nil .nil) .nil) (.node (o246 P) .nil .nil)))) (.node (o30 P) (.node (o46 P) (.node (o78 P) (.node (o142 P) (.node (o270 P) .nil .nil) .nil) (.node (o206 P) (.node gone .nil .nil) .nil)) (.node gone (.node (o174 P) (.node (o302 P) .nil .nil) .nil) (.node (o238 P) (.node (o366 P) .nil .nil) .nil))) (.node (o62 P) (.node (o94 P) (.node (o158 P) (.node gone .nil .nil) .nil) (.node (o222 P) (.node (o350 P) .nil .nil) .nil)) (.node (o126 P) (.node (o190 P) (.node (o318 P) .nil .nil) .nil) (.node (o254 P) .nil .nil))))))))
def S_m0b (P : Params) (d0 d1 d2 : SD) : ST := ⟨T_m0b P d0 d1 d2, 372, 1045⟩
def T_b1 (P : Params) (d0 d1 d2 : SD) : BT := (.node (o0 P) (.node (o1 P) (.node (o3_x1 P) (.node (o7 P) (.node (o15 P) (.node (o31 P) (.node (o63 P) (.node (o127 P) (.node (o255 P) .nil .nil) (.node gone .nil .nil)) (.node (o191 P) (.node gone .nil .nil) .nil)) (.node (o95 P) (.node gone (.node (o287 P) .nil .nil) (.node (o415 P) .nil .nil)) (.node (o223 P) (.node (o351 P) .nil .nil) .nil))) (.node gone (.node (o79 P) (.node (o143 P) (.node (o271 P) .nil .nil) (.node gone .nil .nil)) (.node (o207 P) (.node (o335 P) .nil .nil) .nil)) (.node (o111 P) (.node (o175 P) (.node (o303 P) .nil .nil) (.node (o431 P) .nil .nil)) (.node (o239 P) (.node gone .nil .nil) .nil)))) (.node (o23 P) (.node (o39 P) (.node (o71 P) (.node (o135 P) (.node (o263 P) .nil .nil) (.node (o391 P) .nil .nil)) (.node (o199 P) (.node (o327 P) .nil .nil) .nil)) (.node gone (.node (o167 P) (.node gone .nil .nil) (.node (o423 P) .nil .nil)) (.node (setO d1) (.node (o359 P) .nil .nil) .nil))) (.node (o55 P) (.node (o87 P) (.node (o151 P) (.node (o279 P) .nil .nil) (.node (o407 P) .nil .nil)) (.node (o215 P) (.node gone .nil .nil) .nil)) (.node (o119 P) (.node (o183 P) (.node (o311 P) .nil .nil) (.node (o439 P) .nil .nil)) (.node (o247 P) (.node (o375 P) .nil .nil) .nil))))) (.node (o11 P) (.node gone (.node (o35 P) (.node (o67 P) (.node gone (.node (o259 P) .nil .nil) (.node gone .nil .nil)) (.node (o195 P) (.node (o323 P) .nil .nil) .nil)) (.node (o99 P) (.node (o163 P) (.node (o291 P) .nil .nil) (.node (o419 P) .nil .nil)) (.node (o227 P) (.node gone .nil .nil) .nil))) (.node (o51 P) (.node (o83 P) (.node (o147 P) (.node (o275 P) .nil .nil) (.node (o403 P) .nil .nil)) (.node (o211 P) (.node (o339 P) .nil .nil) .nil)) (.node (o115 P) (.node (o179 P) (.node gone .nil .nil) (.node (o435 P) .nil .nil)) (.node (o243 P) (.node (o371 P) .nil .nil) .nil)))) (.node (o27 P) (.node (o43 P) (.node gone (.node (o139 P) (.node (o267 P) .nil .nil) (.node (o395 P) .nil .nil)) (.node (o203 P) (.node gone .nil .nil) .nil)) (.node (o107 P) (.node (o171 P) (.node (o299 P) .nil .nil) (.node (o427 P) .nil .nil)) (.node (o235 P) (.node (o363 P) .nil .nil) .nil))) (.node (o59 P) (.node (o91 P) (.node (o155 P) (.node gone .nil .nil) (.node (o411 P) .nil .nil)) (.node (o219 P) (.node (o347 P) .nil .nil) .nil)) (.node (o123 P) (.node gone (.node (o315 P) .nil .nil) (.node (o443 P) .nil .nil)) (.node gone (.node (o379 P) .nil .nil) .nil)))))) (.node (o5 P) (.node (o9 P) (.node (o17 P) (.node gone (.node (o65 P) (.node (o129 P) (.node (o257 P) .nil .nil) (.node (o385 P) .nil .nil)) (.node (o193 P) (.node (o321 P) .nil .nil) .nil)) (.node (o97 P) (.node (o161 P) (.node gone .nil .nil) (.node (o417 P) .nil .nil)) (.node (o225 P) (.node (o353 P) .nil .nil) .nil))) (.node (o49 P) (.node (o81 P) (.node gone (.node (o273 P) .nil .nil) (.node (o401 P) .nil .nil)) (.node (o209 P) (.node gone .nil .nil) .nil)) (.node (o113 P) (.node (o177 P) (.node (o305 P) .nil .nil) (.node (o433 P) .nil .nil)) (.node (o241 P) (.node (o369 P) .nil .nil) .nil)))) (.node (o25 P) (.node (o41 P) (.node (o73 P) (.node (o137 P) (.node gone .nil .nil) (.node gone .nil .nil)) (.node (o201 P) (.node (o329 P) .nil .nil) .nil)) (.node (o105 P) (.node (o169 P) (.node (o297 P) .nil .nil) (.node gone .nil .nil)) (.node (o233 P) (.node gone .nil .nil) .nil))) (.node (o57 P) (.node gone (.node (o153 P) (.node (o281 P) .nil .nil) (.node (o409 P) .nil .nil)) (.node (o217 P) (.node (o345 P) .nil .nil) .nil)) (.node (o121 P) (.node (o185 P) (.node gone .nil .nil) (.node (o441 P) .nil .nil)) (.node (o249 P) (.node gone .nil .nil) .nil))))) (.node (o13 P) (.node (o21 P) (.node (o37 P) (.node (o69 P) (.node (o133 P) (.node (o261 P) .nil .nil) (.node (o389 P) .nil .nil)) (.node (o197_0 P) (.node gone .nil .nil) .nil)) (.node (o101 P) (.node (o165 P) (.node (o293 P) .nil .nil) (.node (o421 P) .nil .nil)) (.node gone (.node (o357 P) .nil .nil) .nil))) (.node (o53 P) (.node (o85 P) (.node (o149 P) (.node gone .nil .nil) (.node (o405 P) .nil .nil)) (.node gone (.node (o341 P) .nil .nil) .nil)) (.node gone (.node (o181 P) (.node (o309 P) .nil .nil) (.node (o437 P) .nil .nil)) (.node (o245 P) (.node (o373 P) .nil .nil) .nil)))) (.node (o29 P) (.node (o45 P) (.node (o77 P) (.node (o141 P) (.node (o269 P) .nil .nil) (.node (o397 P) .nil .nil)) (.node (o205 P) (.node (o333 P) .nil .nil) .nil)) (.node (o109 P) (.node gone (.node gone .nil .nil) (.node (o429 P) .nil .nil)) (.node gone (.node (o365 P) .nil .nil) .nil))) (.node gone (.node (o93 P) (.node (o157 P) (.node (o285 P) .nil .nil) (.node (o413 P) .nil .nil)) (.node (o221 P) (.node gone .nil .nil) .nil)) (.node (o125 P) (.node (o189 P) (.node (o317 P) .nil .nil) .nil) (.node (o253 P) (.node (o381 P) .nil .nil) .nil))))))) (.node (o2_1 P) (.node (o4 P) (.node (o8 P) (.node (o16 P) (.node (o32 P) (.node (o64 P) (.node (o128 P) (.node (o256 P) .nil .nil) (.node (o384 P) .nil .nil)) (.node gone (.node (o320 P) .nil .nil) .nil)) (.node gone (.node (o160 P) (.node (o288 P) .nil .nil) (.node (o416 P) .nil .nil)) (.node (o224 P) (.node gone .nil .nil) .nil))) (.node (o48 P) (.node (o80 P) (.node (o144 P) (.node gone .nil .nil) (.node (o400 P) .nil .nil)) (.node gone (.node (o336 P) .nil .nil) .nil)) (.node (o112 P) (.node (o176 P) (.node gone .nil .nil) (.node (o432 P) .nil .nil)) (.node (o240 P) (.node (o368 P) .nil .nil) .nil)))) (.node (o24 P) (.node gone (.node (o72 P) (.node (o136 P) (.node (o264 P) .nil .nil) (.node (o392 P) .nil .nil)) (.node (o200 P) (.node gone .nil .nil) .nil)) (.node (o104 P) (.node (o168 P) (.node (o296 P) .nil .nil) (.node (o424 P) .nil .nil)) (.node (setO d2) (.node (o360 P) .nil .nil) .nil))) (.node (o56 P) (.node (o88 P) (.node gone (.node gone .nil .nil) (.node (o408 P) .nil .nil)) (.node (o216 P) (.node (o344 P) .nil .nil) .nil)) (.node (o120 P) (.node (o184 P) (.node (o312 P) .nil .nil) (.node (o440 P) .nil .nil)) (.node (o248 P) (.node (o376 P) .nil .nil) .nil))))) (.node (o12_x1 P) (.node (o20 P) (.node (o36 P) (.node gone (.node (o132 P) (.node (o260 P) .nil .nil) (.node (o388 P) .nil .nil)) (.node (o196 P) (.node (o324 P) .nil .nil) .nil)) (.node (o100 P) (.node (o164 P) (.node gone .nil .nil) (.node (o420 P) .nil .nil)) (.node (o228 P) (.node (o356 P) .nil .nil) .nil))) (.node (o52 P) (.node (o84 P) (.node (o148 P) (.node (o276 P) .nil .nil) (.node (o404 P) .nil .nil)) (.node (o212 P) (.node gone .nil .nil) .nil)) (.node (o116 P) (.node gone (.node (o308 P) .nil .nil) (.node (o436 P) .nil .nil)) (.node gone (.node (o372 P) .nil .nil) .nil)))) (.node (o28 P) (.node (o44 P) (.node (o76 P) (.node (o140 P) (.node (o268 P) .nil .nil) (.node gone .nil .nil)) (.node (o204 P) (.node (o332 P) .nil .nil) .nil)) (.node (o108 P) (.node (o172 P) (.node (o300 P) .nil .nil) (.node (o428 P) .nil .nil)) (.node (o236 P) (.node gone .nil .nil) .nil))) (.node (o60 P) (.node (o92 P) (.node (o156 P) (.node (o284 P) .nil .nil) (.node gone .nil .nil)) (.node (o220 P) (.node (o348 P) .nil .nil) .nil)) (.node gone (.node (o188 P) (.node gone .nil .nil) (.node (o444 P) .nil .nil)) (.node (o252 P) (.node gone .nil .nil) .nil)))))) (.node (o6 P) (.node (o10 P) (.node (o18 P) (.node (o34 P) (.node (o66 P) (.node (o130 P) (.node gone .nil .nil) (.node (o386 P) .nil .nil)) (.node (o194 P) (.node gone .nil .nil) .nil)) (.node (o98 P) (.node (o162 P) (.node (o290 P) .nil .nil) (.node (o418 P) .nil .nil)) (.node (o226 P) (.node (o354 P) .nil .nil) .nil))) (.node (o50 P) (.node gone (.node (o146 P) (.node (o274 P) .nil .nil) (.node (o402 P) .nil .nil)) (.node (o210 P) (.node (o338 P) .nil .nil) .nil)) (.node (o114 P) (.node (o178 P) (.node (o306 P) .nil .nil) (.node (o434 P) .nil .nil)) (.node (o242 P) (.node gone .nil .nil) .nil)))) (.node (o26 P) (.node (o42 P) (.node (o74 P) (.node gone (.node (o266 P) .nil .nil) (.node (o394 P) .nil .nil)) (.node (o202 P) (.node (o330 P) .nil .nil) .nil)) (.node (o106 P) (.node (o170 P) (.node gone .nil .nil) (.node (o426 P) .nil .nil)) (.node (o234 P) (.node (o362 P) .nil .nil) .nil))) (.node (o58 P) (.node (o90 P) (.node (o154 P) (.node (o282 P) .nil .nil) (.node (o410 P) .nil .nil)) (.node (o218 P) (.node gone .nil .nil) .nil)) (.node (o122 P) (.node (o186 P) (.node (o314 P) .nil .nil) (.node (o442 P) .nil .nil)) (.node (o250 P) (.node (o378 P) .nil .nil) .nil))))) (.node (o14 P) (.node (o22 P) (.node (o38 P) (.node (o70 P) (.node (o134 P) (.node (o262 P) .nil .nil) (.node gone .nil .nil)) (.node (o198 P) (.node (o326 P) .nil .nil) .nil)) (.node (o102 P) (.node gone (.node (o294 P) .nil .nil) (.node (o422 P) .nil .nil)) (.node (setO d0) (.node gone .nil .nil) .nil))) (.node gone (.node (o86 P) (.node (o150 P) (.node (o278 P) .nil .nil) (.node (o406 P) .nil .nil)) (.node (o214 P) (.node (o342 P) .nil .nil) .nil)) (.node (o118 P) (.node (o182 P) (.node gone .nil .nil) (.node gone .nil .nil)) (.node (o246 P) (.node gone .nil .nil) .nil)))) (.node (o30 P) (.node (o46 P) (.node (o78 P) (.node (o142 P) (.node (o270 P) .nil .nil) (.node (o398 P) .nil .nil)) (.node (o206 P) (.node gone .nil .nil) .nil)) (.node gone (.node (o174 P) (.node (o302 P) .nil .nil) (.node (o430 P) .nil .nil)) (.node (o238 P) (.node (o366 P) .nil .nil) .nil))) (.node (o62 P) (.node (o94 P) (.node (o158 P) (.node gone .nil .nil) (.node (o414 P) .nil .nil)) (.node (o222 P) (.node (o350 P) .nil .nil) .nil)) (.node (o126 P) (.node (o190 P) (.node (o318 P) .nil .nil) .nil) (.node (o254 P) (.node (o382 P) .nil .nil) .nil))))))))
def S_b1 (P : Params) (d0 d1 d2 : SD) : ST := ⟨T_b1 P d0 d1 d2, 445, 1249⟩
def T_m1a (P : Params) (d0 d1 d2 d3 d4 : SD) : BT := (.node (o0 P) (.node (o1 P) (.node (o3_x1 P) (.node (o7 P) (.node (o15 P) (.node (o31 P) (.node (o63 P) (.node (o127 P) (.node (o255 P) (.node (o511 P) .nil .nil) .nil) (.node gone .nil .nil)) (.node (o191 P) (.node gone .nil .nil) (.node (o447_x0 P) .nil .nil))) (.node (o95 P) (.node gone (.node (o287 P) .nil .nil) (.node (o415 P) .nil .nil)) (.node (o223 P) (.node (o351 P) .nil .nil) (.node gone .nil .nil)))) (.node gone (.node (o79 P) (.node (o143 P) (.node (o271 P) (.node gone .nil .nil) .nil) (.node gone .nil .nil)) (.node (o207 P) (.node (o335 P) .nil .nil) (.node (o463 P) .nil .nil))) (.node (o111 P) (.node (o175 P) (.node (o303 P) .nil .nil) (.node (o431 P) .nil .nil)) (.node (o239 P) (.node gone .nil .nil) (.node (o495 P) .nil .nil))))) (.node (o23 P) (.node (o39 P) (.node (o71 P) (.node (o135 P) (.node (o263 P) (.node (o519 P) .nil .nil) .nil) (.node (o391 P) .nil .nil)) (.node (o199 P) (.node (o327 P) .nil .nil) (.node (o455 P) .nil .nil))) (.node gone (.node (o167 P) (.node gone .nil .nil) (.node (o423 P) .nil .nil)) (.node (setO d1) (.node (o359 P) .nil .nil) (.node (o487 P) .nil .nil)))) (.node (o55 P) (.node (o87 P) (.node (o151 P) (.node (o279 P) .nil .nil) (.node (o407 P) .nil .nil)) (.node (o215 P) (.node gone .nil .nil) (.node (o471 P) .nil .nil))) (.node (o119 P) (.node (o183 P) (.node (o311 P) .nil .nil) (.node (o439 P) .nil .nil)) (.node (o247 P) (.node (o375 P) .nil .nil) (.node gone .nil .nil)))))) (.node (o11 P) (.node gone (.node (o35 P) (.node (o67 P) (.node gone (.node (o259 P) (.node gone .nil .nil) .nil) (.node gone .nil .nil)) (.node (o195 P) (.node (o323 P) .nil .nil) (.node (o451_x0 P) .nil .nil))) (.node (o99 P) (.node (o163 P) (.node (o291 P) .nil .nil) (.node (o419 P) .nil .nil)) (.node (o227 P) (.node gone .nil .nil) (.node (o483 P) .nil .nil)))) (.node (o51 P) (.node (o83 P) (.node (o147 P) (.node (o275 P) (.node (o531 P) .nil .nil) .nil) (.node (o403 P) .nil .nil)) (.node (o211 P) (.node (o339 P) .nil .nil) (.node (o467 P) .nil .nil))) (.node (o115 P) (.node (o179 P) (.node gone .nil .nil) (.node (o435 P) .nil .nil)) (.node (o243 P) (.node (o371 P) .nil .nil) (.node (o499 P) .nil .nil))))) (.node (o27 P) (.node (o43 P) (.node gone (.node (o139 P) (.node (o267 P) (.node (o523 P) .nil .nil) .nil) (.node (o395 P) .nil .nil)) (.node (o203 P) (.node gone .nil .nil) (.node (o459 P) .nil .nil))) (.node (o107 P) (.node (o171 P) (.node (o299 P) .nil .nil) (.node (o427 P) .nil .nil)) (.node (o235 P) (.node (o363 P) .nil .nil) (.node gone .nil .nil)))) (.node (o59 P) (.node (o91 P) (.node (o155 P) (.node gone .nil .nil) (.node (o411 P) .nil .nil)) (.node (o219 P) (.node (o347 P) .nil .nil) (.node (o475 P) .nil .nil))) (.node (o123 P) (.node gone (.node (o315 P) .nil .nil) (.node (o443 P) .nil .nil)) (.node gone (.node (o379 P) .nil .nil) (.node (o507 P) .nil .nil))))))) (.node (o5 P) (.node (o9 P) (.node (o17 P) (.node gone (.node (o65 P) (.node (o129 P) (.node (o257 P) (.node (o513 P) .nil .nil) .nil) (.node (o385 P) .nil .nil)) (.node (o193 P) (.node (o321 P) .nil .nil) (.node (o449 P) .nil .nil))) (.node (o97 P) (.node (o161 P) (.node gone .nil .nil) (.node (o417 P) .nil .nil)) (.node (o225 P) (.node (o353 P) .nil .nil) (.node (o481 P) .nil .nil)))) (.node (o49 P) (.node (o81 P) (.node gone (.node (o273 P) (.node (o529 P) .nil .nil) .nil) (.node (o401 P) .nil .nil)) (.node (o209 P) (.node gone .nil .nil) (.node gone .nil .nil))) (.node (o113 P) (.node (o177 P) (.node (o305 P) .nil .nil) (.node (o433 P) .nil .nil)) (.node (o241 P) (.node (o369 P) .nil .nil) (.node gone .nil .nil))))) (.node (o25 P) (.node (o41 P) (.node (o73 P) (.node (o137 P) (.node gone (.node gone .nil .nil) .nil) (.node gone .nil .nil)) (.node (o201 P) (.node (o329 P) .nil .nil) (.node (o457 P) .nil .nil))) (.node (o105 P) (.node (o169 P) (.node (o297 P) .nil .nil) (.node gone .nil .nil)) (.node (o233 P) (.node gone .nil .nil) (.node (o489 P) .nil .nil)))) (.node (o57 P) (.node gone (.node (o153 P) (.node (o281 P) .nil .nil) (.node (o409 P) .nil .nil)) (.node (o217 P) (.node (o345 P) .nil .nil) (.node (o473 P) .nil .nil))) (.node (o121 P) (.node (o185 P) (.node gone .nil .nil) (.node (o441 P) .nil .nil)) (.node (o249 P) (.node gone .nil .nil) (.node (o505 P) .nil .nil)))))) (.node (o13 P) (.node (o21 P) (.node (o37 P) (.node (o69 P) (.node (o133 P) (.node (o261 P) (.node (o517 P) .nil .nil) .nil) (.node (o389 P) .nil .nil)) (.node (o197_0 P) (.node gone .nil .nil) (.node (setO d4) .nil .nil))) (.node (o101 P) (.node (o165 P) (.node (o293 P) .nil .nil) (.node (o421 P) .nil .nil)) (.node gone (.node (o357 P) .nil .nil) (.node (o485 P) .nil .nil)))) (.node (o53 P) (.node (o85 P) (.node (o149 P) (.node gone (.node gone .nil .nil) .nil) (.node (o405 P) .nil .nil)) (.node gone (.node (o341 P) .nil .nil) (.node (o469 P) .nil .nil))) (.node gone (.node (o181 P) (.node (o309 P) .nil .nil) (.node (o437 P) .nil .nil)) (.node (o245 P) (.node (o373 P) .nil .nil) (.node (o501 P) .nil .nil))))) (.node (o29 P) (.node (o45 P) (.node (o77 P) (.node (o141 P) (.node (o269 P) (.node (o525 P) .nil .nil) .nil) (.node (o397 P) .nil .nil)) (.node (o205 P) (.node (o333 P) .nil .nil) (.node (o461 P) .nil .nil))) (.node (o109 P) (.node gone (.node gone .nil .nil) (.node (o429 P) .nil .nil)) (.node gone (.node (o365 P) .nil .nil) (.node (o493 P) .nil .nil)))) (.node gone (.node (o93 P) (.node (o157 P) (.node (o285 P) .nil .nil) (.node (o413 P) .nil .nil)) (.node (o221 P) (.node gone .nil .nil) (.node (o477 P) .nil .nil))) (.node (o125 P) (.node (o189 P) (.node (o317 P) .nil .nil) (.node (o445 P) .nil .nil)) (.node (o253 P) (.node (o381 P) .nil .nil) (.node gone .nil .nil)))))))) (.node (o2_1 P) (.node (o4 P) (.node (o8 P) (.node (o16 P) (.node (o32 P) (.node (o64 P) (.node (o128 P) (.node (o256 P) (.node gone .nil .nil) .nil) (.node (o384 P) .nil .nil)) (.node gone (.node (o320 P) .nil .nil) (.node (o448 P) .nil .nil))) (.node gone (.node (o160 P) (.node (o288 P) .nil .nil) (.node (o416 P) .nil .nil)) (.node (o224 P) (.node gone .nil .nil) (.node (o480 P) .nil .nil)))) (.node (o48 P) (.node (o80 P) (.node (o144 P) (.node gone (.node (o528 P) .nil .nil) .nil) (.node (o400 P) .nil .nil)) (.node gone (.node (o336 P) .nil .nil) (.node (o464 P) .nil .nil))) (.node (o112 P) (.node (o176 P) (.node gone .nil .nil) (.node (o432 P) .nil .nil)) (.node (o240 P) (.node (o368 P) .nil .nil) (.node (o496 P) .nil .nil))))) (.node (o24 P) (.node gone (.node (o72 P) (.node (o136 P) (.node (o264 P) (.node (o520 P) .nil .nil) .nil) (.node (o392 P) .nil .nil)) (.node (o200 P) (.node gone .nil .nil) (.node (o456 P) .nil .nil))) (.node (o104 P) (.node (o168 P) (.node (o296 P) .nil .nil) (.node (o424 P) .nil .nil)) (.node (setO d2) (.node (o360 P) .nil .nil) (.node (o488 P) .nil .nil)))) (.node (o56 P) (.node (o88 P) (.node gone (.node gone .nil .nil) (.node (o408 P) .nil .nil)) (.node (o216 P) (.node (o344 P) .nil .nil) (.node gone .nil .nil))) (.node (o120 P) (.node (o184 P) (.node (o312 P) .nil .nil) (.node (o440 P) .nil .nil)) (.node (o248 P) (.node (o376 P) .nil .nil) (.node (o504 P) .nil .nil)))))) (.node (o12_2 P) (.node (o20 P) (.node (o36 P) (.node gone (.node (o132 P) (.node (o260 P) (.node (o516 P) .nil .nil) .nil) (.node (o388 P) .nil .nil)) (.node (o196 P) (.node (o324 P) .nil .nil) (.node (setO d3) .nil .nil))) (.node (o100 P) (.node (o164 P) (.node gone .nil .nil) (.node (o420 P) .nil .nil)) (.node (o228 P) (.node (o356 P) .nil .nil) (.node (o484 P) .nil .nil)))) (.node (o52 P) (.node (o84 P) (.node (o148 P) (.node (o276 P) (.node (o532 P) .nil .nil) .nil) (.node (o404 P) .nil .nil)) (.node (o212 P) (.node gone .nil .nil) (.node (o468 P) .nil .nil))) (.node (o116 P) (.node gone (.node (o308 P) .nil .nil) (.node (o436 P) .nil .nil)) (.node gone (.node (o372 P) .nil .nil) (.node gone .nil .nil))))) (.node (o28 P) (.node (o44 P) (.node (o76 P) (.node (o140 P) (.node (o268 P) (.node gone .nil .nil) .nil) (.node gone .nil .nil)) (.node (o204 P) (.node (o332 P) .nil .nil) (.node (o460 P) .nil .nil))) (.node (o108 P) (.node (o172 P) (.node (o300 P) .nil .nil) (.node (o428 P) .nil .nil)) (.node (o236 P) (.node gone .nil .nil) (.node (o492 P) .nil .nil)))) (.node (o60 P) (.node (o92 P) (.node (o156 P) (.node (o284 P) .nil .nil) (.node gone .nil .nil)) (.node (o220 P) (.node (o348 P) .nil .nil) (.node (o476 P) .nil .nil))) (.node gone (.node (o188 P) (.node gone .nil .nil) (.node (o444 P) .nil .nil)) (.node (o252 P) (.node gone .nil .nil) (.node (o508 P) .nil .nil))))))) (.node (o6 P) (.node (o10 P) (.node (o18 P) (.node (o34 P) (.node (o66 P) (.node (o130 P) (.node gone (.node (o514 P) .nil .nil) .nil) (.node (o386 P) .nil .nil)) (.node (o194 P) (.node gone .nil .nil) (.node (o450 P) .nil .nil))) (.node (o98 P) (.node (o162 P) (.node (o290 P) .nil .nil) (.node (o418 P) .nil .nil)) (.node (o226 P) (.node (o354 P) .nil .nil) (.node (o482 P) .nil .nil)))) (.node (o50 P) (.node gone (.node (o146 P) (.node (o274 P) (.node gone .nil .nil) .nil) (.node (o402 P) .nil .nil)) (.node (o210 P) (.node (o338 P) .nil .nil) (.node (o466 P) .nil .nil))) (.node (o114 P) (.node (o178 P) (.node (o306 P) .nil .nil) (.node (o434 P) .nil .nil)) (.node (o242 P) (.node gone .nil .nil) (.node (o498 P) .nil .nil))))) (.node (o26 P) (.node (o42 P) (.node (o74 P) (.node gone (.node (o266 P) (.node (o522 P) .nil .nil) .nil) (.node (o394 P) .nil .nil)) (.node (o202 P) (.node (o330 P) .nil .nil) (.node gone .nil .nil))) (.node (o106 P) (.node (o170 P) (.node gone .nil .nil) (.node (o426 P) .nil .nil)) (.node (o234 P) (.node (o362 P) .nil .nil) (.node (o490 P) .nil .nil)))) (.node (o58 P) (.node (o90 P) (.node (o154 P) (.node (o282 P) .nil .nil) (.node (o410 P) .nil .nil)) (.node (o218 P) (.node gone .nil .nil) (.node (o474 P) .nil .nil))) (.node (o122 P) (.node (o186 P) (.node (o314 P) .nil .nil) (.node (o442 P) .nil .nil)) (.node (o250 P) (.node (o378 P) .nil .nil) (.node gone .nil .nil)))))) (.node (o14 P) (.node (o22 P) (.node (o38 P) (.node (o70 P) (.node (o134 P) (.node (o262 P) (.node gone .nil .nil) .nil) (.node gone .nil .nil)) (.node (o198 P) (.node (o326 P) .nil .nil) (.node (o454 P) .nil .nil))) (.node (o102 P) (.node gone (.node (o294 P) .nil .nil) (.node (o422 P) .nil .nil)) (.node (setO d0) (.node gone .nil .nil) (.node gone .nil .nil)))) (.node gone (.node (o86 P) (.node (o150 P) (.node (o278 P) (.node (o534 P) .nil .nil) .nil) (.node (o406 P) .nil .nil)) (.node (o214 P) (.node (o342 P) .nil .nil) (.node (o470 P) .nil .nil))) (.node (o118 P) (.node (o182 P) (.node gone .nil .nil) (.node gone .nil .nil)) (.node (o246 P) (.node gone .nil .nil) (.node (o502 P) .nil .nil))))) (.node (o30 P) (.node (o46 P) (.node (o78 P) (.node (o142 P) (.node (o270 P) (.node (o526 P) .nil .nil) .nil) (.node (o398 P) .nil .nil)) (.node (o206 P) (.node gone .nil .nil) (.node (o462 P) .nil .nil))) (.node gone (.node (o174 P) (.node (o302 P) .nil .nil) (.node (o430 P) .nil .nil)) (.node (o238 P) (.node (o366 P) .nil .nil) (.node gone .nil .nil)))) (.node (o62 P) (.node (o94 P) (.node (o158 P) (.node gone .nil .nil) (.node (o414 P) .nil .nil)) (.node (o222 P) (.node (o350 P) .nil .nil) (.node (o478 P) .nil .nil))) (.node (o126 P) (.node (o190 P) (.node (o318 P) .nil .nil) (.node (o446 P) .nil .nil)) (.node (o254 P) (.node (o382 P) .nil .nil) (.node (o510 P) .nil .nil)))))))))
def S_m1a (P : Params) (d0 d1 d2 d3 d4 : SD) : ST := ⟨T_m1a P d0 d1 d2 d3 d4, 535, 1578⟩
def T_m1b (P : Params) (d0 d1 d2 d3 d4 : SD) : BT := (.node (o0 P) (.node (o1 P) (.node (o3_x1 P) (.node (o7 P) (.node (o15 P) (.node (o31 P) (.node (o63 P) (.node (o127 P) (.node (o255 P) (.node (o511 P) .nil .nil) .nil) (.node gone .nil .nil)) (.node (o191 P) (.node gone (.node (o575 P) .nil .nil) .nil) (.node (o447_x1 P) .nil .nil))) (.node (o95 P) (.node gone (.node (o287 P) (.node gone .nil .nil) .nil) (.node (o415 P) .nil .nil)) (.node (o223 P) (.node (o351 P) (.node (o607 P) .nil .nil) .nil) (.node gone .nil .nil)))) (.node gone (.node (o79 P) (.node (o143 P) (.node (o271 P) (.node gone .nil .nil) .nil) (.node gone .nil .nil)) (.node (o207 P) (.node (o335 P) (.node gone .nil .nil) .nil) (.node (o463 P) .nil .nil))) (.node (o111 P) (.node (o175 P) (.node (o303 P) (.node (o559 P) .nil .nil) .nil) (.node (o431 P) .nil .nil)) (.node (o239 P) (.node gone .nil .nil) (.node (o495 P) .nil .nil))))) (.node (o23 P) (.node (o39 P) (.node (o71 P) (.node (o135 P) (.node (o263 P) (.node (o519 P) .nil .nil) .nil) (.node (o391 P) .nil .nil)) (.node (o199 P) (.node (o327 P) (.node (o583 P) .nil .nil) .nil) (.node (o455 P) .nil .nil))) (.node gone (.node (o167 P) (.node gone (.node (o551 P) .nil .nil) .nil) (.node (o423 P) .nil .nil)) (.node (setO d1) (.node (o359 P) (.node gone .nil .nil) .nil) (.node (o487 P) .nil .nil)))) (.node (o55 P) (.node (o87 P) (.node (o151 P) (.node (o279 P) (.node (o535 P) .nil .nil) .nil) (.node (o407 P) .nil .nil)) (.node (o215 P) (.node gone (.node (o599 P) .nil .nil) .nil) (.node (o471 P) .nil .nil))) (.node (o119 P) (.node (o183 P) (.node (o311 P) (.node gone .nil .nil) .nil) (.node (o439 P) .nil .nil)) (.node (o247 P) (.node (o375 P) .nil .nil) (.node gone .nil .nil)))))) (.node (o11 P) (.node gone (.node (o35 P) (.node (o67 P) (.node gone (.node (o259 P) (.node gone .nil .nil) .nil) (.node gone .nil .nil)) (.node (o195 P) (.node (o323 P) (.node gone .nil .nil) .nil) (.node (o451_x0 P) .nil .nil))) (.node (o99 P) (.node (o163 P) (.node (o291 P) (.node (o547 P) .nil .nil) .nil) (.node (o419 P) .nil .nil)) (.node (o227 P) (.node gone (.node (o611 P) .nil .nil) .nil) (.node (o483 P) .nil .nil)))) (.node (o51 P) (.node (o83 P) (.node (o147 P) (.node (o275 P) (.node (o531 P) .nil .nil) .nil) (.node (o403 P) .nil .nil)) (.node (o211 P) (.node (o339 P) (.node (o595 P) .nil .nil) .nil) (.node (o467 P) .nil .nil))) (.node (o115 P) (.node (o179 P) (.node gone (.node (o563 P) .nil .nil) .nil) (.node (o435 P) .nil .nil)) (.node (o243 P) (.node (o371 P) .nil .nil) (.node (o499 P) .nil .nil))))) (.node (o27 P) (.node (o43 P) (.node gone (.node (o139 P) (.node (o267 P) (.node (o523 P) .nil .nil) .nil) (.node (o395 P) .nil .nil)) (.node (o203 P) (.node gone (.node (o587 P) .nil .nil) .nil) (.node (o459 P) .nil .nil))) (.node (o107 P) (.node (o171 P) (.node (o299 P) (.node gone .nil .nil) .nil) (.node (o427 P) .nil .nil)) (.node (o235 P) (.node (o363 P) (.node (o619 P) .nil .nil) .nil) (.node gone .nil .nil)))) (.node (o59 P) (.node (o91 P) (.node (o155 P) (.node gone (.node (o539 P) .nil .nil) .nil) (.node (o411 P) .nil .nil)) (.node (o219 P) (.node (o347 P) (.node gone .nil .nil) .nil) (.node (o475 P) .nil .nil))) (.node (o123 P) (.node gone (.node (o315 P) (.node (o571 P) .nil .nil) .nil) (.node (o443 P) .nil .nil)) (.node gone (.node (o379 P) .nil .nil) (.node (o507 P) .nil .nil))))))) (.node (o5 P) (.node (o9 P) (.node (o17 P) (.node gone (.node (o65 P) (.node (o129 P) (.node (o257 P) (.node (o513 P) .nil .nil) .nil) (.node (o385 P) .nil .nil)) (.node (o193 P) (.node (o321 P) (.node (o577 P) .nil .nil) .nil) (.node (o449 P) .nil .nil))) (.node (o97 P) (.node (o161 P) (.node gone (.node (o545 P) .nil .nil) .nil) (.node (o417 P) .nil .nil)) (.node (o225 P) (.node (o353 P) (.node gone .nil .nil) .nil) (.node (o481 P) .nil .nil)))) (.node (o49 P) (.node (o81 P) (.node gone (.node (o273 P) (.node (o529 P) .nil .nil) .nil) (.node (o401 P) .nil .nil)) (.node (o209 P) (.node gone (.node (o593 P) .nil .nil) .nil) (.node gone .nil .nil))) (.node (o113 P) (.node (o177 P) (.node (o305 P) (.node gone .nil .nil) .nil) (.node (o433 P) .nil .nil)) (.node (o241 P) (.node (o369 P) .nil .nil) (.node gone .nil .nil))))) (.node (o25 P) (.node (o41 P) (.node (o73 P) (.node (o137 P) (.node gone (.node gone .nil .nil) .nil) (.node gone .nil .nil)) (.node (o201 P) (.node (o329 P) (.node gone .nil .nil) .nil) (.node (o457 P) .nil .nil))) (.node (o105 P) (.node (o169 P) (.node (o297 P) (.node (o553 P) .nil .nil) .nil) (.node gone .nil .nil)) (.node (o233 P) (.node gone (.node (o617 P) .nil .nil) .nil) (.node (o489 P) .nil .nil)))) (.node (o57 P) (.node gone (.node (o153 P) (.node (o281 P) (.node gone .nil .nil) .nil) (.node (o409 P) .nil .nil)) (.node (o217 P) (.node (o345 P) (.node (o601 P) .nil .nil) .nil) (.node (o473 P) .nil .nil))) (.node (o121 P) (.node (o185 P) (.node gone (.node (o569 P) .nil .nil) .nil) (.node (o441 P) .nil .nil)) (.node (o249 P) (.node gone .nil .nil) (.node (o505 P) .nil .nil)))))) (.node (o13 P) (.node (o21 P) (.node (o37 P) (.node (o69 P) (.node (o133 P) (.node (o261 P) (.node (o517 P) .nil .nil) .nil) (.node (o389 P) .nil .nil)) (.node (o197_0 P) (.node gone (.node (o581 P) .nil .nil) .nil) (.node (setO d4) .nil .nil))) (.node (o101 P) (.node (o165 P) (.node (o293 P) (.node gone .nil .nil) .nil) (.node (o421 P) .nil .nil)) (.node gone (.node (o357 P) (.node (o613 P) .nil .nil) .nil) (.node (o485 P) .nil .nil)))) (.node (o53 P) (.node (o85 P) (.node (o149 P) (.node gone (.node gone .nil .nil) .nil) (.node (o405 P) .nil .nil)) (.node gone (.node (o341 P) (.node gone .nil .nil) .nil) (.node (o469 P) .nil .nil))) (.node gone (.node (o181 P) (.node (o309 P) (.node (o565 P) .nil .nil) .nil) (.node (o437 P) .nil .nil)) (.node (o245 P) (.node (o373 P) .nil .nil) (.node (o501 P) .nil .nil))))) (.node (o29 P) (.node (o45 P) (.node (o77 P) (.node (o141 P) (.node (o269 P) (.node (o525 P) .nil .nil) .nil) (.node (o397 P) .nil .nil)) (.node (o205 P) (.node (o333 P) (.node (o589 P) .nil .nil) .nil) (.node (o461 P) .nil .nil))) (.node (o109 P) (.node gone (.node gone (.node (o557 P) .nil .nil) .nil) (.node (o429 P) .nil .nil)) (.node gone (.node (o365 P) (.node gone .nil .nil) .nil) (.node (o493 P) .nil .nil)))) (.node gone (.node (o93 P) (.node (o157 P) (.node (o285 P) (.node (o541 P) .nil .nil) .nil) (.node (o413 P) .nil .nil)) (.node (o221 P) (.node gone (.node (o605 P) .nil .nil) .nil) (.node (o477 P) .nil .nil))) (.node (o125 P) (.node (o189 P) (.node (o317 P) (.node gone .nil .nil) .nil) (.node (o445 P) .nil .nil)) (.node (o253 P) (.node (o381 P) .nil .nil) (.node gone .nil .nil)))))))) (.node (o2_1 P) (.node (o4 P) (.node (o8 P) (.node (o16 P) (.node (o32 P) (.node (o64 P) (.node (o128 P) (.node (o256 P) (.node gone .nil .nil) .nil) (.node (o384 P) .nil .nil)) (.node gone (.node (o320 P) (.node gone .nil .nil) .nil) (.node (o448 P) .nil .nil))) (.node gone (.node (o160 P) (.node (o288 P) (.node (o544 P) .nil .nil) .nil) (.node (o416 P) .nil .nil)) (.node (o224 P) (.node gone (.node (o608 P) .nil .nil) .nil) (.node (o480 P) .nil .nil)))) (.node (o48 P) (.node (o80 P) (.node (o144 P) (.node gone (.node (o528 P) .nil .nil) .nil) (.node (o400 P) .nil .nil)) (.node gone (.node (o336 P) (.node (o592 P) .nil .nil) .nil) (.node (o464 P) .nil .nil))) (.node (o112 P) (.node (o176 P) (.node gone (.node (o560 P) .nil .nil) .nil) (.node (o432 P) .nil .nil)) (.node (o240 P) (.node (o368 P) .nil .nil) (.node (o496 P) .nil .nil))))) (.node (o24 P) (.node gone (.node (o72 P) (.node (o136 P) (.node (o264 P) (.node (o520 P) .nil .nil) .nil) (.node (o392 P) .nil .nil)) (.node (o200 P) (.node gone (.node (o584 P) .nil .nil) .nil) (.node (o456 P) .nil .nil))) (.node (o104 P) (.node (o168 P) (.node (o296 P) (.node gone .nil .nil) .nil) (.node (o424 P) .nil .nil)) (.node (setO d2) (.node (o360 P) (.node (o616 P) .nil .nil) .nil) (.node (o488 P) .nil .nil)))) (.node (o56 P) (.node (o88 P) (.node gone (.node gone (.node (o536 P) .nil .nil) .nil) (.node (o408 P) .nil .nil)) (.node (o216 P) (.node (o344 P) (.node gone .nil .nil) .nil) (.node gone .nil .nil))) (.node (o120 P) (.node (o184 P) (.node (o312 P) (.node (o568 P) .nil .nil) .nil) (.node (o440 P) .nil .nil)) (.node (o248 P) (.node (o376 P) .nil .nil) (.node (o504 P) .nil .nil)))))) (.node (o12_2 P) (.node (o20 P) (.node (o36 P) (.node gone (.node (o132 P) (.node (o260 P) (.node (o516 P) .nil .nil) .nil) (.node (o388 P) .nil .nil)) (.node (o196 P) (.node (o324 P) (.node (o580 P) .nil .nil) .nil) (.node (setO d3) .nil .nil))) (.node (o100 P) (.node (o164 P) (.node gone (.node (o548 P) .nil .nil) .nil) (.node (o420 P) .nil .nil)) (.node (o228 P) (.node (o356 P) (.node gone .nil .nil) .nil) (.node (o484 P) .nil .nil)))) (.node (o52 P) (.node (o84 P) (.node (o148 P) (.node (o276 P) (.node (o532 P) .nil .nil) .nil) (.node (o404 P) .nil .nil)) (.node (o212 P) (.node gone (.node (o596 P) .nil .nil) .nil) (.node (o468 P) .nil .nil))) (.node (o116 P) (.node gone (.node (o308 P) (.node gone .nil .nil) .nil) (.node (o436 P) .nil .nil)) (.node gone (.node (o372 P) .nil .nil) (.node gone .nil .nil))))) (.node (o28 P) (.node (o44 P) (.node (o76 P) (.node (o140 P) (.node (o268 P) (.node gone .nil .nil) .nil) (.node gone .nil .nil)) (.node (o204 P) (.node (o332 P) (.node gone .nil .nil) .nil) (.node (o460 P) .nil .nil))) (.node (o108 P) (.node (o172 P) (.node (o300 P) (.node (o556 P) .nil .nil) .nil) (.node (o428 P) .nil .nil)) (.node (o236 P) (.node gone (.node (o620 P) .nil .nil) .nil) (.node (o492 P) .nil .nil)))) (.node (o60 P) (.node (o92 P) (.node (o156 P) (.node (o284 P) (.node gone .nil .nil) .nil) (.node gone .nil .nil)) (.node (o220 P) (.node (o348 P) (.node (o604 P) .nil .nil) .nil) (.node (o476 P) .nil .nil))) (.node gone (.node (o188 P) (.node gone (.node (o572 P) .nil .nil) .nil) (.node (o444 P) .nil .nil)) (.node (o252 P) (.node gone .nil .nil) (.node (o508 P) .nil .nil))))))) (.node (o6 P) (.node (o10 P) (.node (o18 P) (.node (o34 P) (.node (o66 P) (.node (o130 P) (.node gone (.node (o514 P) .nil .nil) .nil) (.node (o386 P) .nil .nil)) (.node (o194 P) (.node gone (.node (o578 P) .nil .nil) .nil) (.node (o450 P) .nil .nil))) (.node (o98 P) (.node (o162 P) (.node (o290 P) (.node gone .nil .nil) .nil) (.node (o418 P) .nil .nil)) (.node (o226 P) (.node (o354 P) (.node (o610 P) .nil .nil) .nil) (.node (o482 P) .nil .nil)))) (.node (o50 P) (.node gone (.node (o146 P) (.node (o274 P) (.node gone .nil .nil) .nil) (.node (o402 P) .nil .nil)) (.node (o210 P) (.node (o338 P) (.node gone .nil .nil) .nil) (.node (o466 P) .nil .nil))) (.node (o114 P) (.node (o178 P) (.node (o306 P) (.node (o562 P) .nil .nil) .nil) (.node (o434 P) .nil .nil)) (.node (o242 P) (.node gone .nil .nil) (.node (o498 P) .nil .nil))))) (.node (o26 P) (.node (o42 P) (.node (o74 P) (.node gone (.node (o266 P) (.node (o522 P) .nil .nil) .nil) (.node (o394 P) .nil .nil)) (.node (o202 P) (.node (o330 P) (.node (o586 P) .nil .nil) .nil) (.node gone .nil .nil))) (.node (o106 P) (.node (o170 P) (.node gone (.node (o554 P) .nil .nil) .nil) (.node (o426 P) .nil .nil)) (.node (o234 P) (.node (o362 P) (.node gone .nil .nil) .nil) (.node (o490 P) .nil .nil)))) (.node (o58 P) (.node (o90 P) (.node (o154 P) (.node (o282 P) (.node (o538 P) .nil .nil) .nil) (.node (o410 P) .nil .nil)) (.node (o218 P) (.node gone (.node (o602 P) .nil .nil) .nil) (.node (o474 P) .nil .nil))) (.node (o122 P) (.node (o186 P) (.node (o314 P) (.node gone .nil .nil) .nil) (.node (o442 P) .nil .nil)) (.node (o250 P) (.node (o378 P) .nil .nil) (.node gone .nil .nil)))))) (.node (o14 P) (.node (o22 P) (.node (o38 P) (.node (o70 P) (.node (o134 P) (.node (o262 P) (.node gone .nil .nil) .nil) (.node gone .nil .nil)) (.node (o198 P) (.node (o326 P) (.node gone .nil .nil) .nil) (.node (o454 P) .nil .nil))) (.node (o102 P) (.node gone (.node (o294 P) (.node (o550 P) .nil .nil) .nil) (.node (o422 P) .nil .nil)) (.node (setO d0) (.node gone (.node (o614 P) .nil .nil) .nil) (.node gone .nil .nil)))) (.node gone (.node (o86 P) (.node (o150 P) (.node (o278 P) (.node (o534 P) .nil .nil) .nil) (.node (o406 P) .nil .nil)) (.node (o214 P) (.node (o342 P) (.node (o598 P) .nil .nil) .nil) (.node (o470 P) .nil .nil))) (.node (o118 P) (.node (o182 P) (.node gone (.node (o566 P) .nil .nil) .nil) (.node gone .nil .nil)) (.node (o246 P) (.node gone .nil .nil) (.node (o502 P) .nil .nil))))) (.node (o30 P) (.node (o46 P) (.node (o78 P) (.node (o142 P) (.node (o270 P) (.node (o526 P) .nil .nil) .nil) (.node (o398 P) .nil .nil)) (.node (o206 P) (.node gone (.node (o590 P) .nil .nil) .nil) (.node (o462 P) .nil .nil))) (.node gone (.node (o174 P) (.node (o302 P) (.node gone .nil .nil) .nil) (.node (o430 P) .nil .nil)) (.node (o238 P) (.node (o366 P) (.node (o622 P) .nil .nil) .nil) (.node gone .nil .nil)))) (.node (o62 P) (.node (o94 P) (.node (o158 P) (.node gone (.node (o542 P) .nil .nil) .nil) (.node (o414 P) .nil .nil)) (.node (o222 P) (.node (o350 P) (.node gone .nil .nil) .nil) (.node (o478 P) .nil .nil))) (.node (o126 P) (.node (o190 P) (.node (o318 P) (.node (o574 P) .nil .nil) .nil) (.node (o446 P) .nil .nil)) (.node (o254 P) (.node (o382 P) .nil .nil) (.node (o510 P) .nil .nil)))))))))
def S_m1b (P : Params) (d0 d1 d2 d3 d4 : SD) : ST := ⟨T_m1b P d0 d1 d2 d3 d4, 623, 1965⟩
def T_b2 (P : Params) (d0 d1 d2 d3 d4 : SD) : BT := (.node (o0 P) (.node (o1 P) (.node (o3_x2 P) (.node (o7 P) (.node (o15 P) (.node (o31 P) (.node (o63 P) (.node (o127 P) (.node (o255 P) (.node (o511 P) .nil .nil) .nil) (.node gone (.node (o639 P) .nil .nil) .nil)) (.node (o191 P) (.node gone (.node (o575 P) .nil .nil) .nil) (.node (o447 P) (.node (o703 P) .nil .nil) .nil))) (.node (o95 P) (.node gone (.node (o287 P) (.node gone .nil .nil) .nil) (.node (o415 P) (.node (o671 P) .nil .nil) .nil)) (.node (o223 P) (.node (o351 P) (.node (o607 P) .nil .nil) .nil) (.node gone .nil .nil)))) (.node gone (.node (o79 P) (.node (o143 P) (.node (o271 P) (.node gone .nil .nil) .nil) (.node gone (.node (o655 P) .nil .nil) .nil)) (.node (o207 P) (.node (o335 P) (.node gone .nil .nil) .nil) (.node (o463 P) .nil .nil))) (.node (o111 P) (.node (o175 P) (.node (o303 P) (.node (o559 P) .nil .nil) .nil) (.node (o431 P) (.node (o687 P) .nil .nil) .nil)) (.node (o239 P) (.node gone (.node (o623 P) .nil .nil) .nil) (.node (o495 P) .nil .nil))))) (.node (o23 P) (.node (o39 P) (.node (o71 P) (.node (o135 P) (.node (o263 P) (.node (o519 P) .nil .nil) .nil) (.node (o391 P) (.node gone .nil .nil) .nil)) (.node (o199 P) (.node (o327 P) (.node (o583 P) .nil .nil) .nil) (.node (o455 P) .nil .nil))) (.node gone (.node (o167 P) (.node gone (.node (o551 P) .nil .nil) .nil) (.node (o423 P) (.node (o679 P) .nil .nil) .nil)) (.node (setO d1) (.node (o359 P) (.node gone .nil .nil) .nil) (.node (o487 P) .nil .nil)))) (.node (o55 P) (.node (o87 P) (.node (o151 P) (.node (o279 P) (.node (o535 P) .nil .nil) .nil) (.node (o407 P) (.node (o663 P) .nil .nil) .nil)) (.node (o215 P) (.node gone (.node (o599 P) .nil .nil) .nil) (.node (o471 P) .nil .nil))) (.node (o119 P) (.node (o183 P) (.node (o311 P) (.node gone .nil .nil) .nil) (.node (o439 P) (.node (o695 P) .nil .nil) .nil)) (.node (o247 P) (.node (o375 P) (.node (o631 P) .nil .nil) .nil) (.node gone .nil .nil)))))) (.node (o11 P) (.node gone (.node (o35 P) (.node (o67 P) (.node gone (.node (o259 P) (.node gone .nil .nil) .nil) (.node gone (.node (o643 P) .nil .nil) .nil)) (.node (o195 P) (.node (o323 P) (.node gone .nil .nil) .nil) (.node gone (.node (o707 P) .nil .nil) .nil))) (.node (o99 P) (.node (o163 P) (.node (o291 P) (.node (o547 P) .nil .nil) .nil) (.node (o419 P) (.node gone .nil .nil) .nil)) (.node (o227 P) (.node gone (.node (o611 P) .nil .nil) .nil) (.node (o483 P) .nil .nil)))) (.node (o51 P) (.node (o83 P) (.node (o147 P) (.node (o275 P) (.node (o531 P) .nil .nil) .nil) (.node (o403 P) (.node gone .nil .nil) .nil)) (.node (o211 P) (.node (o339 P) (.node (o595 P) .nil .nil) .nil) (.node (o467 P) .nil .nil))) (.node (o115 P) (.node (o179 P) (.node gone (.node (o563 P) .nil .nil) .nil) (.node (o435 P) (.node (o691 P) .nil .nil) .nil)) (.node (o243 P) (.node (o371 P) (.node (o627 P) .nil .nil) .nil) (.node (o499 P) .nil .nil))))) (.node (o27 P) (.node (o43 P) (.node gone (.node (o139 P) (.node (o267 P) (.node (o523 P) .nil .nil) .nil) (.node (o395 P) (.node (o651 P) .nil .nil) .nil)) (.node (o203 P) (.node gone (.node (o587 P) .nil .nil) .nil) (.node (o459 P) .nil .nil))) (.node (o107 P) (.node (o171 P) (.node (o299 P) (.node gone .nil .nil) .nil) (.node (o427 P) (.node (o683 P) .nil .nil) .nil)) (.node (o235 P) (.node (o363 P) (.node (o619 P) .nil .nil) .nil) (.node gone .nil .nil)))) (.node (o59 P) (.node (o91 P) (.node (o155 P) (.node gone (.node (o539 P) .nil .nil) .nil) (.node (o411 P) (.node (o667 P) .nil .nil) .nil)) (.node (o219 P) (.node (o347 P) (.node gone .nil .nil) .nil) (.node (o475 P) .nil .nil))) (.node (o123 P) (.node gone (.node (o315 P) (.node (o571 P) .nil .nil) .nil) (.node (o443 P) (.node (o699 P) .nil .nil) .nil)) (.node gone (.node (o379 P) (.node gone .nil .nil) .nil) (.node (o507 P) .nil .nil))))))) (.node (o5 P) (.node (o9 P) (.node (o17 P) (.node gone (.node (o65 P) (.node (o129 P) (.node (o257 P) (.node (o513 P) .nil .nil) .nil) (.node (o385 P) (.node gone .nil .nil) .nil)) (.node (o193 P) (.node (o321 P) (.node (o577 P) .nil .nil) .nil) (.node (o449 P) (.node (o705 P) .nil .nil) .nil))) (.node (o97 P) (.node (o161 P) (.node gone (.node (o545 P) .nil .nil) .nil) (.node (o417 P) (.node (o673 P) .nil .nil) .nil)) (.node (o225 P) (.node (o353 P) (.node gone .nil .nil) .nil) (.node (o481 P) .nil .nil)))) (.node (o49 P) (.node (o81 P) (.node gone (.node (o273 P) (.node (o529 P) .nil .nil) .nil) (.node (o401 P) (.node (o657 P) .nil .nil) .nil)) (.node (o209 P) (.node gone (.node (o593 P) .nil .nil) .nil) (.node gone .nil .nil))) (.node (o113 P) (.node (o177 P) (.node (o305 P) (.node gone .nil .nil) .nil) (.node (o433 P) (.node (o689 P) .nil .nil) .nil)) (.node (o241 P) (.node (o369 P) (.node gone .nil .nil) .nil) (.node gone .nil .nil))))) (.node (o25 P) (.node (o41 P) (.node (o73 P) (.node (o137 P) (.node gone (.node gone .nil .nil) .nil) (.node gone (.node (o649 P) .nil .nil) .nil)) (.node (o201 P) (.node (o329 P) (.node gone .nil .nil) .nil) (.node (o457 P) .nil .nil))) (.node (o105 P) (.node (o169 P) (.node (o297 P) (.node (o553 P) .nil .nil) .nil) (.node gone (.node (o681 P) .nil .nil) .nil)) (.node (o233 P) (.node gone (.node (o617 P) .nil .nil) .nil) (.node (o489 P) .nil .nil)))) (.node (o57 P) (.node gone (.node (o153 P) (.node (o281 P) (.node gone .nil .nil) .nil) (.node (o409 P) (.node (o665 P) .nil .nil) .nil)) (.node (o217 P) (.node (o345 P) (.node (o601 P) .nil .nil) .nil) (.node (o473 P) .nil .nil))) (.node (o121 P) (.node (o185 P) (.node gone (.node (o569 P) .nil .nil) .nil) (.node (o441 P) (.node (o697 P) .nil .nil) .nil)) (.node (o249 P) (.node gone (.node (o633 P) .nil .nil) .nil) (.node (o505 P) .nil .nil)))))) (.node (o13 P) (.node (o21 P) (.node (o37 P) (.node (o69 P) (.node (o133 P) (.node (o261 P) (.node (o517 P) .nil .nil) .nil) (.node (o389 P) (.node (o645 P) .nil .nil) .nil)) (.node (o197_1 P) (.node gone (.node (o581 P) .nil .nil) .nil) (.node (setO d4) .nil .nil))) (.node (o101 P) (.node (o165 P) (.node (o293 P) (.node gone .nil .nil) .nil) (.node (o421 P) (.node (o677 P) .nil .nil) .nil)) (.node gone (.node (o357 P) (.node (o613 P) .nil .nil) .nil) (.node (o485 P) .nil .nil)))) (.node (o53 P) (.node (o85 P) (.node (o149 P) (.node gone (.node gone .nil .nil) .nil) (.node (o405 P) (.node (o661 P) .nil .nil) .nil)) (.node gone (.node (o341 P) (.node gone .nil .nil) .nil) (.node (o469 P) .nil .nil))) (.node gone (.node (o181 P) (.node (o309 P) (.node (o565 P) .nil .nil) .nil) (.node (o437 P) (.node (o693 P) .nil .nil) .nil)) (.node (o245 P) (.node (o373 P) (.node (o629 P) .nil .nil) .nil) (.node (o501 P) .nil .nil))))) (.node (o29 P) (.node (o45 P) (.node (o77 P) (.node (o141 P) (.node (o269 P) (.node (o525 P) .nil .nil) .nil) (.node (o397 P) (.node gone .nil .nil) .nil)) (.node (o205 P) (.node (o333 P) (.node (o589 P) .nil .nil) .nil) (.node (o461 P) .nil .nil))) (.node (o109 P) (.node gone (.node gone (.node (o557 P) .nil .nil) .nil) (.node (o429 P) (.node (o685 P) .nil .nil) .nil)) (.node gone (.node (o365 P) (.node gone .nil .nil) .nil) (.node (o493 P) .nil .nil)))) (.node gone (.node (o93 P) (.node (o157 P) (.node (o285 P) (.node (o541 P) .nil .nil) .nil) (.node (o413 P) (.node (o669 P) .nil .nil) .nil)) (.node (o221 P) (.node gone (.node (o605 P) .nil .nil) .nil) (.node (o477 P) .nil .nil))) (.node (o125 P) (.node (o189 P) (.node (o317 P) (.node gone .nil .nil) .nil) (.node (o445 P) (.node gone .nil .nil) .nil)) (.node (o253 P) (.node (o381 P) (.node (o637 P) .nil .nil) .nil) (.node gone .nil .nil)))))))) (.node (o2_2 P) (.node (o4 P) (.node (o8 P) (.node (o16 P) (.node (o32 P) (.node (o64 P) (.node (o128 P) (.node (o256 P) (.node gone .nil .nil) .nil) (.node (o384 P) (.node (o640 P) .nil .nil) .nil)) (.node gone (.node (o320 P) (.node gone .nil .nil) .nil) (.node (o448 P) (.node (o704 P) .nil .nil) .nil))) (.node gone (.node (o160 P) (.node (o288 P) (.node (o544 P) .nil .nil) .nil) (.node (o416 P) (.node (o672 P) .nil .nil) .nil)) (.node (o224 P) (.node gone (.node (o608 P) .nil .nil) .nil) (.node (o480 P) .nil .nil)))) (.node (o48 P) (.node (o80 P) (.node (o144 P) (.node gone (.node (o528 P) .nil .nil) .nil) (.node (o400 P) (.node gone .nil .nil) .nil)) (.node gone (.node (o336 P) (.node (o592 P) .nil .nil) .nil) (.node (o464 P) .nil .nil))) (.node (o112 P) (.node (o176 P) (.node gone (.node (o560 P) .nil .nil) .nil) (.node (o432 P) (.node gone .nil .nil) .nil)) (.node (o240 P) (.node (o368 P) (.node (o624 P) .nil .nil) .nil) (.node (o496 P) .nil .nil))))) (.node (o24 P) (.node gone (.node (o72 P) (.node (o136 P) (.node (o264 P) (.node (o520 P) .nil .nil) .nil) (.node (o392 P) (.node (o648 P) .nil .nil) .nil)) (.node (o200 P) (.node gone (.node (o584 P) .nil .nil) .nil) (.node (o456 P) .nil .nil))) (.node (o104 P) (.node (o168 P) (.node (o296 P) (.node gone .nil .nil) .nil) (.node (o424 P) (.node (o680 P) .nil .nil) .nil)) (.node (setO d2) (.node (o360 P) (.node (o616 P) .nil .nil) .nil) (.node (o488 P) .nil .nil)))) (.node (o56 P) (.node (o88 P) (.node gone (.node gone (.node (o536 P) .nil .nil) .nil) (.node (o408 P) (.node (o664 P) .nil .nil) .nil)) (.node (o216 P) (.node (o344 P) (.node gone .nil .nil) .nil) (.node gone .nil .nil))) (.node (o120 P) (.node (o184 P) (.node (o312 P) (.node (o568 P) .nil .nil) .nil) (.node (o440 P) (.node (o696 P) .nil .nil) .nil)) (.node (o248 P) (.node (o376 P) (.node gone .nil .nil) .nil) (.node (o504 P) .nil .nil)))))) (.node (o12_x2 P) (.node (o20 P) (.node (o36 P) (.node gone (.node (o132 P) (.node (o260 P) (.node (o516 P) .nil .nil) .nil) (.node (o388 P) (.node gone .nil .nil) .nil)) (.node (o196 P) (.node (o324 P) (.node (o580 P) .nil .nil) .nil) (.node (setO d3) .nil .nil))) (.node (o100 P) (.node (o164 P) (.node gone (.node (o548 P) .nil .nil) .nil) (.node (o420 P) (.node (o676 P) .nil .nil) .nil)) (.node (o228 P) (.node (o356 P) (.node gone .nil .nil) .nil) (.node (o484 P) .nil .nil)))) (.node (o52 P) (.node (o84 P) (.node (o148 P) (.node (o276 P) (.node (o532 P) .nil .nil) .nil) (.node (o404 P) (.node (o660 P) .nil .nil) .nil)) (.node (o212 P) (.node gone (.node (o596 P) .nil .nil) .nil) (.node (o468 P) .nil .nil))) (.node (o116 P) (.node gone (.node (o308 P) (.node gone .nil .nil) .nil) (.node (o436 P) (.node (o692 P) .nil .nil) .nil)) (.node gone (.node (o372 P) (.node gone .nil .nil) .nil) (.node gone .nil .nil))))) (.node (o28 P) (.node (o44 P) (.node (o76 P) (.node (o140 P) (.node (o268 P) (.node gone .nil .nil) .nil) (.node gone (.node (o652 P) .nil .nil) .nil)) (.node (o204 P) (.node (o332 P) (.node gone .nil .nil) .nil) (.node (o460 P) .nil .nil))) (.node (o108 P) (.node (o172 P) (.node (o300 P) (.node (o556 P) .nil .nil) .nil) (.node (o428 P) (.node (o684 P) .nil .nil) .nil)) (.node (o236 P) (.node gone (.node (o620 P) .nil .nil) .nil) (.node (o492 P) .nil .nil)))) (.node (o60 P) (.node (o92 P) (.node (o156 P) (.node (o284 P) (.node gone .nil .nil) .nil) (.node gone (.node (o668 P) .nil .nil) .nil)) (.node (o220 P) (.node (o348 P) (.node (o604 P) .nil .nil) .nil) (.node (o476 P) .nil .nil))) (.node gone (.node (o188 P) (.node gone (.node (o572 P) .nil .nil) .nil) (.node (o444 P) (.node (o700 P) .nil .nil) .nil)) (.node (o252 P) (.node gone (.node (o636 P) .nil .nil) .nil) (.node (o508 P) .nil .nil))))))) (.node (o6 P) (.node (o10 P) (.node (o18 P) (.node (o34 P) (.node (o66 P) (.node (o130 P) (.node gone (.node (o514 P) .nil .nil) .nil) (.node (o386 P) (.node (o642 P) .nil .nil) .nil)) (.node (o194 P) (.node gone (.node (o578 P) .nil .nil) .nil) (.node (o450 P) (.node (o706 P) .nil .nil) .nil))) (.node (o98 P) (.node (o162 P) (.node (o290 P) (.node gone .nil .nil) .nil) (.node (o418 P) (.node (o674 P) .nil .nil) .nil)) (.node (o226 P) (.node (o354 P) (.node (o610 P) .nil .nil) .nil) (.node (o482 P) .nil .nil)))) (.node (o50 P) (.node gone (.node (o146 P) (.node (o274 P) (.node gone .nil .nil) .nil) (.node (o402 P) (.node (o658 P) .nil .nil) .nil)) (.node (o210 P) (.node (o338 P) (.node gone .nil .nil) .nil) (.node (o466 P) .nil .nil))) (.node (o114 P) (.node (o178 P) (.node (o306 P) (.node (o562 P) .nil .nil) .nil) (.node (o434 P) (.node (o690 P) .nil .nil) .nil)) (.node (o242 P) (.node gone (.node (o626 P) .nil .nil) .nil) (.node (o498 P) .nil .nil))))) (.node (o26 P) (.node (o42 P) (.node (o74 P) (.node gone (.node (o266 P) (.node (o522 P) .nil .nil) .nil) (.node (o394 P) (.node gone .nil .nil) .nil)) (.node (o202 P) (.node (o330 P) (.node (o586 P) .nil .nil) .nil) (.node gone .nil .nil))) (.node (o106 P) (.node (o170 P) (.node gone (.node (o554 P) .nil .nil) .nil) (.node (o426 P) (.node (o682 P) .nil .nil) .nil)) (.node (o234 P) (.node (o362 P) (.node gone .nil .nil) .nil) (.node (o490 P) .nil .nil)))) (.node (o58 P) (.node (o90 P) (.node (o154 P) (.node (o282 P) (.node (o538 P) .nil .nil) .nil) (.node (o410 P) (.node (o666 P) .nil .nil) .nil)) (.node (o218 P) (.node gone (.node (o602 P) .nil .nil) .nil) (.node (o474 P) .nil .nil))) (.node (o122 P) (.node (o186 P) (.node (o314 P) (.node gone .nil .nil) .nil) (.node (o442 P) (.node (o698 P) .nil .nil) .nil)) (.node (o250 P) (.node (o378 P) (.node (o634 P) .nil .nil) .nil) (.node gone .nil .nil)))))) (.node (o14 P) (.node (o22 P) (.node (o38 P) (.node (o70 P) (.node (o134 P) (.node (o262 P) (.node gone .nil .nil) .nil) (.node gone (.node (o646 P) .nil .nil) .nil)) (.node (o198 P) (.node (o326 P) (.node gone .nil .nil) .nil) (.node (o454 P) .nil .nil))) (.node (o102 P) (.node gone (.node (o294 P) (.node (o550 P) .nil .nil) .nil) (.node (o422 P) (.node (o678 P) .nil .nil) .nil)) (.node (setO d0) (.node gone (.node (o614 P) .nil .nil) .nil) (.node gone .nil .nil)))) (.node gone (.node (o86 P) (.node (o150 P) (.node (o278 P) (.node (o534 P) .nil .nil) .nil) (.node (o406 P) (.node gone .nil .nil) .nil)) (.node (o214 P) (.node (o342 P) (.node (o598 P) .nil .nil) .nil) (.node (o470 P) .nil .nil))) (.node (o118 P) (.node (o182 P) (.node gone (.node (o566 P) .nil .nil) .nil) (.node gone (.node (o694 P) .nil .nil) .nil)) (.node (o246 P) (.node gone (.node (o630 P) .nil .nil) .nil) (.node (o502 P) .nil .nil))))) (.node (o30 P) (.node (o46 P) (.node (o78 P) (.node (o142 P) (.node (o270 P) (.node (o526 P) .nil .nil) .nil) (.node (o398 P) (.node (o654 P) .nil .nil) .nil)) (.node (o206 P) (.node gone (.node (o590 P) .nil .nil) .nil) (.node (o462 P) .nil .nil))) (.node gone (.node (o174 P) (.node (o302 P) (.node gone .nil .nil) .nil) (.node (o430 P) (.node (o686 P) .nil .nil) .nil)) (.node (o238 P) (.node (o366 P) (.node (o622 P) .nil .nil) .nil) (.node gone .nil .nil)))) (.node (o62 P) (.node (o94 P) (.node (o158 P) (.node gone (.node (o542 P) .nil .nil) .nil) (.node (o414 P) (.node (o670 P) .nil .nil) .nil)) (.node (o222 P) (.node (o350 P) (.node gone .nil .nil) .nil) (.node (o478 P) .nil .nil))) (.node (o126 P) (.node (o190 P) (.node (o318 P) (.node (o574 P) .nil .nil) .nil) (.node (o446 P) (.node (o702 P) .nil .nil) .nil)) (.node (o254 P) (.node (o382 P) (.node gone .nil .nil) .nil) (.node (o510 P) .nil .nil)))))))))
def S_b2 (P : Params) (d0 d1 d2 d3 d4 : SD) : ST := ⟨T_b2 P d0 d1 d2 d3 d4, 708, 2218⟩
def T_m2a (P : Params) (d0 d1 d2 d3 d4 d5 d6 d7 : SD) : BT := (.node (o0 P) (.node (o1 P) (.node (o3_x2 P) (.node (o7 P) (.node (o15 P) (.node (o31 P) (.node (o63 P) (.node (o127 P) (.node (o255 P) (.node (o511 P) .nil .nil) (.node (o767 P) .nil .nil)) (.node gone (.node (o639 P) .nil .nil) .nil)) (.node (o191 P) (.node gone (.node (o575 P) .nil .nil) .nil) (.node (o447 P) (.node (o703 P) .nil .nil) .nil))) (.node (o95 P) (.node gone (.node (o287 P) (.node gone .nil .nil) (.node (o799 P) .nil .nil)) (.node (o415 P) (.node (o671 P) .nil .nil) .nil)) (.node (o223 P) (.node (o351 P) (.node (o607 P) .nil .nil) .nil) (.node gone (.node (o735 P) .nil .nil) .nil)))) (.node gone (.node (o79 P) (.node (o143 P) (.node (o271 P) (.node gone .nil .nil) (.node gone .nil .nil)) (.node gone (.node (o655 P) .nil .nil) .nil)) (.node (o207 P) (.node (o335 P) (.node gone .nil .nil) .nil) (.node (o463 P) (.node (o719 P) .nil .nil) .nil))) (.node (o111 P) (.node (o175 P) (.node (o303 P) (.node (o559 P) .nil .nil) (.node (o815 P) .nil .nil)) (.node (o431 P) (.node (o687 P) .nil .nil) .nil)) (.node (o239 P) (.node gone (.node (o623 P) .nil .nil) .nil) (.node (o495 P) (.node (o751 P) .nil .nil) .nil))))) (.node (o23 P) (.node (o39 P) (.node (o71 P) (.node (o135 P) (.node (o263 P) (.node (o519 P) .nil .nil) (.node (o775 P) .nil .nil)) (.node (o391 P) (.node gone .nil .nil) .nil)) (.node (o199 P) (.node (o327 P) (.node (o583 P) .nil .nil) .nil) (.node (o455 P) (.node (o711 P) .nil .nil) .nil))) (.node gone (.node (o167 P) (.node gone (.node (o551 P) .nil .nil) (.node gone .nil .nil)) (.node (o423 P) (.node (o679 P) .nil .nil) .nil)) (.node (setO d1) (.node (o359 P) (.node gone .nil .nil) .nil) (.node (o487 P) (.node gone .nil .nil) .nil)))) (.node (o55 P) (.node (o87 P) (.node (o151 P) (.node (o279 P) (.node (o535 P) .nil .nil) (.node (o791 P) .nil .nil)) (.node (o407 P) (.node (o663 P) .nil .nil) .nil)) (.node (o215 P) (.node gone (.node (o599 P) .nil .nil) .nil) (.node (o471 P) (.node (o727 P) .nil .nil) .nil))) (.node (o119 P) (.node (o183 P) (.node (o311 P) (.node gone .nil .nil) (.node (o823 P) .nil .nil)) (.node (o439 P) (.node (o695 P) .nil .nil) .nil)) (.node (o247 P) (.node (o375 P) (.node (o631 P) .nil .nil) .nil) (.node gone (.node (o759 P) .nil .nil) .nil)))))) (.node (o11 P) (.node gone (.node (o35 P) (.node (o67 P) (.node gone (.node (o259 P) (.node gone .nil .nil) (.node gone .nil .nil)) (.node gone (.node (o643 P) .nil .nil) .nil)) (.node (o195 P) (.node (o323 P) (.node gone .nil .nil) .nil) (.node gone (.node (o707 P) .nil .nil) .nil))) (.node (o99 P) (.node (o163 P) (.node (o291 P) (.node (o547 P) .nil .nil) (.node (o803 P) .nil .nil)) (.node (o419 P) (.node gone .nil .nil) .nil)) (.node (o227 P) (.node gone (.node (o611 P) .nil .nil) .nil) (.node (o483 P) (.node (o739 P) .nil .nil) .nil)))) (.node (o51 P) (.node (o83 P) (.node (o147 P) (.node (o275 P) (.node (o531 P) .nil .nil) (.node (o787 P) .nil .nil)) (.node (o403 P) (.node gone .nil .nil) .nil)) (.node (o211 P) (.node (o339 P) (.node (o595 P) .nil .nil) .nil) (.node (o467 P) (.node (o723 P) .nil .nil) .nil))) (.node (o115 P) (.node (o179 P) (.node gone (.node (o563 P) .nil .nil) (.node gone .nil .nil)) (.node (o435 P) (.node (o691 P) .nil .nil) .nil)) (.node (o243 P) (.node (o371 P) (.node (o627 P) .nil .nil) .nil) (.node (o499 P) (.node (o755 P) .nil .nil) .nil))))) (.node (o27 P) (.node (o43 P) (.node gone (.node (o139 P) (.node (o267 P) (.node (o523 P) .nil .nil) (.node (o779 P) .nil .nil)) (.node (o395 P) (.node (o651 P) .nil .nil) .nil)) (.node (o203 P) (.node gone (.node (o587 P) .nil .nil) .nil) (.node (o459 P) (.node (setO d5) .nil .nil) .nil))) (.node (o107 P) (.node (o171 P) (.node (o299 P) (.node gone .nil .nil) (.node (o811 P) .nil .nil)) (.node (o427 P) (.node (o683 P) .nil .nil) .nil)) (.node (o235 P) (.node (o363 P) (.node (o619 P) .nil .nil) .nil) (.node gone (.node (o747 P) .nil .nil) .nil)))) (.node (o59 P) (.node (o91 P) (.node (o155 P) (.node gone (.node (o539 P) .nil .nil) (.node gone .nil .nil)) (.node (o411 P) (.node (o667 P) .nil .nil) .nil)) (.node (o219 P) (.node (o347 P) (.node gone .nil .nil) .nil) (.node (o475 P) (.node (o731 P) .nil .nil) .nil))) (.node (o123 P) (.node gone (.node (o315 P) (.node (o571 P) .nil .nil) .nil) (.node (o443 P) (.node (o699 P) .nil .nil) .nil)) (.node gone (.node (o379 P) (.node gone .nil .nil) .nil) (.node (o507 P) (.node (o763 P) .nil .nil) .nil))))))) (.node (o5 P) (.node (o9 P) (.node (o17 P) (.node gone (.node (o65 P) (.node (o129 P) (.node (o257 P) (.node (o513 P) .nil .nil) (.node (o769 P) .nil .nil)) (.node (o385 P) (.node gone .nil .nil) .nil)) (.node (o193 P) (.node (o321 P) (.node (o577 P) .nil .nil) .nil) (.node (o449 P) (.node (o705 P) .nil .nil) .nil))) (.node (o97 P) (.node (o161 P) (.node gone (.node (o545 P) .nil .nil) (.node gone .nil .nil)) (.node (o417 P) (.node (o673 P) .nil .nil) .nil)) (.node (o225 P) (.node (o353 P) (.node gone .nil .nil) .nil) (.node (o481 P) (.node (o737 P) .nil .nil) .nil)))) (.node (o49 P) (.node (o81 P) (.node gone (.node (o273 P) (.node (o529 P) .nil .nil) (.node (o785 P) .nil .nil)) (.node (o401 P) (.node (o657 P) .nil .nil) .nil)) (.node (o209 P) (.node gone (.node (o593 P) .nil .nil) .nil) (.node gone (.node (o721 P) .nil .nil) .nil))) (.node (o113 P) (.node (o177 P) (.node (o305 P) (.node gone .nil .nil) (.node (o817 P) .nil .nil)) (.node (o433 P) (.node (o689 P) .nil .nil) .nil)) (.node (o241 P) (.node (o369 P) (.node gone .nil .nil) .nil) (.node gone (.node (o753 P) .nil .nil) .nil))))) (.node (o25 P) (.node (o41 P) (.node (o73 P) (.node (o137 P) (.node gone (.node gone .nil .nil) (.node gone .nil .nil)) (.node gone (.node (o649 P) .nil .nil) .nil)) (.node (o201 P) (.node (o329 P) (.node gone .nil .nil) .nil) (.node (o457 P) (.node (o713 P) .nil .nil) .nil))) (.node (o105 P) (.node (o169 P) (.node (o297 P) (.node (o553 P) .nil .nil) (.node (o809 P) .nil .nil)) (.node gone (.node (o681 P) .nil .nil) .nil)) (.node (o233 P) (.node gone (.node (o617 P) .nil .nil) .nil) (.node (o489 P) (.node (o745 P) .nil .nil) .nil)))) (.node (o57 P) (.node gone (.node (o153 P) (.node (o281 P) (.node gone .nil .nil) (.node (o793 P) .nil .nil)) (.node (o409 P) (.node (o665 P) .nil .nil) .nil)) (.node (o217 P) (.node (o345 P) (.node (o601 P) .nil .nil) .nil) (.node (o473 P) (.node gone .nil .nil) .nil))) (.node (o121 P) (.node (o185 P) (.node gone (.node (o569 P) .nil .nil) .nil) (.node (o441 P) (.node (o697 P) .nil .nil) .nil)) (.node (o249 P) (.node gone (.node (o633 P) .nil .nil) .nil) (.node (o505 P) (.node (o761 P) .nil .nil) .nil)))))) (.node (o13 P) (.node (o21 P) (.node (o37 P) (.node (o69 P) (.node (o133 P) (.node (o261 P) (.node (o517 P) .nil .nil) (.node (o773 P) .nil .nil)) (.node (o389 P) (.node (o645 P) .nil .nil) .nil)) (.node (o197_1 P) (.node gone (.node (o581 P) .nil .nil) .nil) (.node (setO d4) (.node (o709 P) .nil .nil) .nil))) (.node (o101 P) (.node (o165 P) (.node (o293 P) (.node gone .nil .nil) (.node (o805 P) .nil .nil)) (.node (o421 P) (.node (o677 P) .nil .nil) .nil)) (.node gone (.node (o357 P) (.node (o613 P) .nil .nil) .nil) (.node (o485 P) (.node (o741 P) .nil .nil) .nil)))) (.node (o53 P) (.node (o85 P) (.node (o149 P) (.node gone (.node gone .nil .nil) (.node gone .nil .nil)) (.node (o405 P) (.node (o661 P) .nil .nil) .nil)) (.node gone (.node (o341 P) (.node gone .nil .nil) .nil) (.node (o469 P) (.node (o725 P) .nil .nil) .nil))) (.node gone (.node (o181 P) (.node (o309 P) (.node (o565 P) .nil .nil) (.node (o821 P) .nil .nil)) (.node (o437 P) (.node (o693 P) .nil .nil) .nil)) (.node (o245 P) (.node (o373 P) (.node (o629 P) .nil .nil) .nil) (.node (o501 P) (.node gone .nil .nil) .nil))))) (.node (o29 P) (.node (o45 P) (.node (o77 P) (.node (o141 P) (.node (o269 P) (.node (o525 P) .nil .nil) (.node (o781 P) .nil .nil)) (.node (o397 P) (.node gone .nil .nil) .nil)) (.node (o205 P) (.node (o333 P) (.node (o589 P) .nil .nil) .nil) (.node (o461 P) (.node (setO d7) .nil .nil) .nil))) (.node (o109 P) (.node gone (.node gone (.node (o557 P) .nil .nil) (.node gone .nil .nil)) (.node (o429 P) (.node (o685 P) .nil .nil) .nil)) (.node gone (.node (o365 P) (.node gone .nil .nil) .nil) (.node (o493 P) (.node (o749 P) .nil .nil) .nil)))) (.node gone (.node (o93 P) (.node (o157 P) (.node (o285 P) (.node (o541 P) .nil .nil) (.node (o797 P) .nil .nil)) (.node (o413 P) (.node (o669 P) .nil .nil) .nil)) (.node (o221 P) (.node gone (.node (o605 P) .nil .nil) .nil) (.node (o477 P) (.node (o733 P) .nil .nil) .nil))) (.node (o125 P) (.node (o189 P) (.node (o317 P) (.node gone .nil .nil) .nil) (.node (o445 P) (.node gone .nil .nil) .nil)) (.node (o253 P) (.node (o381 P) (.node (o637 P) .nil .nil) .nil) (.node gone (.node gone .nil .nil) .nil)))))))) (.node (o2_2 P) (.node (o4 P) (.node (o8 P) (.node (o16 P) (.node (o32 P) (.node (o64 P) (.node (o128 P) (.node (o256 P) (.node gone .nil .nil) (.node gone .nil .nil)) (.node (o384 P) (.node (o640 P) .nil .nil) .nil)) (.node gone (.node (o320 P) (.node gone .nil .nil) .nil) (.node (o448 P) (.node (o704 P) .nil .nil) .nil))) (.node gone (.node (o160 P) (.node (o288 P) (.node (o544 P) .nil .nil) (.node (o800 P) .nil .nil)) (.node (o416 P) (.node (o672 P) .nil .nil) .nil)) (.node (o224 P) (.node gone (.node (o608 P) .nil .nil) .nil) (.node (o480 P) (.node gone .nil .nil) .nil)))) (.node (o48 P) (.node (o80 P) (.node (o144 P) (.node gone (.node (o528 P) .nil .nil) (.node (o784 P) .nil .nil)) (.node (o400 P) (.node gone .nil .nil) .nil)) (.node gone (.node (o336 P) (.node (o592 P) .nil .nil) .nil) (.node (o464 P) (.node (o720 P) .nil .nil) .nil))) (.node (o112 P) (.node (o176 P) (.node gone (.node (o560 P) .nil .nil) (.node gone .nil .nil)) (.node (o432 P) (.node gone .nil .nil) .nil)) (.node (o240 P) (.node (o368 P) (.node (o624 P) .nil .nil) .nil) (.node (o496 P) (.node (o752 P) .nil .nil) .nil))))) (.node (o24 P) (.node gone (.node (o72 P) (.node (o136 P) (.node (o264 P) (.node (o520 P) .nil .nil) (.node (o776 P) .nil .nil)) (.node (o392 P) (.node (o648 P) .nil .nil) .nil)) (.node (o200 P) (.node gone (.node (o584 P) .nil .nil) .nil) (.node (o456 P) (.node (o712 P) .nil .nil) .nil))) (.node (o104 P) (.node (o168 P) (.node (o296 P) (.node gone .nil .nil) (.node (o808 P) .nil .nil)) (.node (o424 P) (.node (o680 P) .nil .nil) .nil)) (.node (setO d2) (.node (o360 P) (.node (o616 P) .nil .nil) .nil) (.node (o488 P) (.node (o744 P) .nil .nil) .nil)))) (.node (o56 P) (.node (o88 P) (.node gone (.node gone (.node (o536 P) .nil .nil) (.node gone .nil .nil)) (.node (o408 P) (.node (o664 P) .nil .nil) .nil)) (.node (o216 P) (.node (o344 P) (.node gone .nil .nil) .nil) (.node gone (.node (o728 P) .nil .nil) .nil))) (.node (o120 P) (.node (o184 P) (.node (o312 P) (.node (o568 P) .nil .nil) .nil) (.node (o440 P) (.node (o696 P) .nil .nil) .nil)) (.node (o248 P) (.node (o376 P) (.node gone .nil .nil) .nil) (.node (o504 P) (.node (o760 P) .nil .nil) .nil)))))) (.node (o12_3 P) (.node (o20 P) (.node (o36 P) (.node gone (.node (o132 P) (.node (o260 P) (.node (o516 P) .nil .nil) (.node (o772 P) .nil .nil)) (.node (o388 P) (.node gone .nil .nil) .nil)) (.node (o196 P) (.node (o324 P) (.node (o580 P) .nil .nil) .nil) (.node (setO d3) (.node (o708 P) .nil .nil) .nil))) (.node (o100 P) (.node (o164 P) (.node gone (.node (o548 P) .nil .nil) (.node gone .nil .nil)) (.node (o420 P) (.node (o676 P) .nil .nil) .nil)) (.node (o228 P) (.node (o356 P) (.node gone .nil .nil) .nil) (.node (o484 P) (.node (o740 P) .nil .nil) .nil)))) (.node (o52 P) (.node (o84 P) (.node (o148 P) (.node (o276 P) (.node (o532 P) .nil .nil) (.node (o788 P) .nil .nil)) (.node (o404 P) (.node (o660 P) .nil .nil) .nil)) (.node (o212 P) (.node gone (.node (o596 P) .nil .nil) .nil) (.node (o468 P) (.node (o724 P) .nil .nil) .nil))) (.node (o116 P) (.node gone (.node (o308 P) (.node gone .nil .nil) (.node (o820 P) .nil .nil)) (.node (o436 P) (.node (o692 P) .nil .nil) .nil)) (.node gone (.node (o372 P) (.node gone .nil .nil) .nil) (.node gone (.node (o756 P) .nil .nil) .nil))))) (.node (o28 P) (.node (o44 P) (.node (o76 P) (.node (o140 P) (.node (o268 P) (.node gone .nil .nil) (.node gone .nil .nil)) (.node gone (.node (o652 P) .nil .nil) .nil)) (.node (o204 P) (.node (o332 P) (.node gone .nil .nil) .nil) (.node (o460 P) (.node (setO d6) .nil .nil) .nil))) (.node (o108 P) (.node (o172 P) (.node (o300 P) (.node (o556 P) .nil .nil) (.node (o812 P) .nil .nil)) (.node (o428 P) (.node (o684 P) .nil .nil) .nil)) (.node (o236 P) (.node gone (.node (o620 P) .nil .nil) .nil) (.node (o492 P) (.node (o748 P) .nil .nil) .nil)))) (.node (o60 P) (.node (o92 P) (.node (o156 P) (.node (o284 P) (.node gone .nil .nil) (.node (o796 P) .nil .nil)) (.node gone (.node (o668 P) .nil .nil) .nil)) (.node (o220 P) (.node (o348 P) (.node (o604 P) .nil .nil) .nil) (.node (o476 P) (.node (o732 P) .nil .nil) .nil))) (.node gone (.node (o188 P) (.node gone (.node (o572 P) .nil .nil) .nil) (.node (o444 P) (.node (o700 P) .nil .nil) .nil)) (.node (o252 P) (.node gone (.node (o636 P) .nil .nil) .nil) (.node (o508 P) (.node (o764 P) .nil .nil) .nil))))))) (.node (o6 P) (.node (o10 P) (.node (o18 P) (.node (o34 P) (.node (o66 P) (.node (o130 P) (.node gone (.node (o514 P) .nil .nil) (.node (o770 P) .nil .nil)) (.node (o386 P) (.node (o642 P) .nil .nil) .nil)) (.node (o194 P) (.node gone (.node (o578 P) .nil .nil) .nil) (.node (o450 P) (.node (o706 P) .nil .nil) .nil))) (.node (o98 P) (.node (o162 P) (.node (o290 P) (.node gone .nil .nil) (.node (o802 P) .nil .nil)) (.node (o418 P) (.node (o674 P) .nil .nil) .nil)) (.node (o226 P) (.node (o354 P) (.node (o610 P) .nil .nil) .nil) (.node (o482 P) (.node (o738 P) .nil .nil) .nil)))) (.node (o50 P) (.node gone (.node (o146 P) (.node (o274 P) (.node gone .nil .nil) (.node gone .nil .nil)) (.node (o402 P) (.node (o658 P) .nil .nil) .nil)) (.node (o210 P) (.node (o338 P) (.node gone .nil .nil) .nil) (.node (o466 P) (.node gone .nil .nil) .nil))) (.node (o114 P) (.node (o178 P) (.node (o306 P) (.node (o562 P) .nil .nil) (.node (o818 P) .nil .nil)) (.node (o434 P) (.node (o690 P) .nil .nil) .nil)) (.node (o242 P) (.node gone (.node (o626 P) .nil .nil) .nil) (.node (o498 P) (.node (o754 P) .nil .nil) .nil))))) (.node (o26 P) (.node (o42 P) (.node (o74 P) (.node gone (.node (o266 P) (.node (o522 P) .nil .nil) (.node (o778 P) .nil .nil)) (.node (o394 P) (.node gone .nil .nil) .nil)) (.node (o202 P) (.node (o330 P) (.node (o586 P) .nil .nil) .nil) (.node gone (.node (o714_x0 P) .nil .nil) .nil))) (.node (o106 P) (.node (o170 P) (.node gone (.node (o554 P) .nil .nil) (.node gone .nil .nil)) (.node (o426 P) (.node (o682 P) .nil .nil) .nil)) (.node (o234 P) (.node (o362 P) (.node gone .nil .nil) .nil) (.node (o490 P) (.node (o746 P) .nil .nil) .nil)))) (.node (o58 P) (.node (o90 P) (.node (o154 P) (.node (o282 P) (.node (o538 P) .nil .nil) (.node (o794 P) .nil .nil)) (.node (o410 P) (.node (o666 P) .nil .nil) .nil)) (.node (o218 P) (.node gone (.node (o602 P) .nil .nil) .nil) (.node (o474 P) (.node (o730 P) .nil .nil) .nil))) (.node (o122 P) (.node (o186 P) (.node (o314 P) (.node gone .nil .nil) .nil) (.node (o442 P) (.node (o698 P) .nil .nil) .nil)) (.node (o250 P) (.node (o378 P) (.node (o634 P) .nil .nil) .nil) (.node gone (.node gone .nil .nil) .nil)))))) (.node (o14 P) (.node (o22 P) (.node (o38 P) (.node (o70 P) (.node (o134 P) (.node (o262 P) (.node gone .nil .nil) (.node gone .nil .nil)) (.node gone (.node (o646 P) .nil .nil) .nil)) (.node (o198 P) (.node (o326 P) (.node gone .nil .nil) .nil) (.node (o454 P) (.node (o710_x0 P) .nil .nil) .nil))) (.node (o102 P) (.node gone (.node (o294 P) (.node (o550 P) .nil .nil) (.node (o806 P) .nil .nil)) (.node (o422 P) (.node (o678 P) .nil .nil) .nil)) (.node (setO d0) (.node gone (.node (o614 P) .nil .nil) .nil) (.node gone (.node (o742 P) .nil .nil) .nil)))) (.node gone (.node (o86 P) (.node (o150 P) (.node (o278 P) (.node (o534 P) .nil .nil) (.node (o790 P) .nil .nil)) (.node (o406 P) (.node gone .nil .nil) .nil)) (.node (o214 P) (.node (o342 P) (.node (o598 P) .nil .nil) .nil) (.node (o470 P) (.node (o726 P) .nil .nil) .nil))) (.node (o118 P) (.node (o182 P) (.node gone (.node (o566 P) .nil .nil) (.node gone .nil .nil)) (.node gone (.node (o694 P) .nil .nil) .nil)) (.node (o246 P) (.node gone (.node (o630 P) .nil .nil) .nil) (.node (o502 P) (.node (o758 P) .nil .nil) .nil))))) (.node (o30 P) (.node (o46 P) (.node (o78 P) (.node (o142 P) (.node (o270 P) (.node (o526 P) .nil .nil) (.node (o782 P) .nil .nil)) (.node (o398 P) (.node (o654 P) .nil .nil) .nil)) (.node (o206 P) (.node gone (.node (o590 P) .nil .nil) .nil) (.node (o462 P) (.node (o718 P) .nil .nil) .nil))) (.node gone (.node (o174 P) (.node (o302 P) (.node gone .nil .nil) (.node (o814 P) .nil .nil)) (.node (o430 P) (.node (o686 P) .nil .nil) .nil)) (.node (o238 P) (.node (o366 P) (.node (o622 P) .nil .nil) .nil) (.node gone (.node gone .nil .nil) .nil)))) (.node (o62 P) (.node (o94 P) (.node (o158 P) (.node gone (.node (o542 P) .nil .nil) (.node gone .nil .nil)) (.node (o414 P) (.node (o670 P) .nil .nil) .nil)) (.node (o222 P) (.node (o350 P) (.node gone .nil .nil) .nil) (.node (o478 P) (.node (o734 P) .nil .nil) .nil))) (.node (o126 P) (.node (o190 P) (.node (o318 P) (.node (o574 P) .nil .nil) .nil) (.node (o446 P) (.node (o702 P) .nil .nil) .nil)) (.node (o254 P) (.node (o382 P) (.node gone .nil .nil) .nil) (.node (o510 P) (.node (o766 P) .nil .nil) .nil)))))))))
def S_m2a (P : Params) (d0 d1 d2 d3 d4 d5 d6 d7 : SD) : ST := ⟨T_m2a P d0 d1 d2 d3 d4 d5 d6 d7, 824, 2678⟩
def T_m2b (P : Params) (d0 d1 d2 d3 d4 d5 d6 d7 : SD) : BT := (.node (o0 P) (.node (o1 P) (.node (o3_x2 P) (.node (o7 P) (.node (o15 P) (.node (o31 P) (.node (o63 P) (.node (o127 P) (.node (o255 P) (.node (o511 P) .nil .nil) (.node (o767 P) .nil .nil)) (.node gone (.node (o639 P) .nil .nil) (.node gone .nil .nil))) (.node (o191 P) (.node gone (.node (o575 P) .nil .nil) (.node (o831 P) .nil .nil)) (.node (o447 P) (.node (o703 P) .nil .nil) .nil))) (.node (o95 P) (.node gone (.node (o287 P) (.node gone .nil .nil) (.node (o799 P) .nil .nil)) (.node (o415 P) (.node (o671 P) .nil .nil) (.node (o927 P) .nil .nil))) (.node (o223 P) (.node (o351 P) (.node (o607 P) .nil .nil) (.node (o863 P) .nil .nil)) (.node gone (.node (o735 P) .nil .nil) .nil)))) (.node gone (.node (o79 P) (.node (o143 P) (.node (o271 P) (.node gone .nil .nil) (.node gone .nil .nil)) (.node gone (.node (o655 P) .nil .nil) (.node (o911 P) .nil .nil))) (.node (o207 P) (.node (o335 P) (.node gone .nil .nil) (.node gone .nil .nil)) (.node (o463 P) (.node (o719 P) .nil .nil) .nil))) (.node (o111 P) (.node (o175 P) (.node (o303 P) (.node (o559 P) .nil .nil) (.node (o815 P) .nil .nil)) (.node (o431 P) (.node (o687 P) .nil .nil) .nil)) (.node (o239 P) (.node gone (.node (o623 P) .nil .nil) (.node (o879 P) .nil .nil)) (.node (o495 P) (.node (o751 P) .nil .nil) .nil))))) (.node (o23 P) (.node (o39 P) (.node (o71 P) (.node (o135 P) (.node (o263 P) (.node (o519 P) .nil .nil) (.node (o775 P) .nil .nil)) (.node (o391 P) (.node gone .nil .nil) (.node (o903 P) .nil .nil))) (.node (o199 P) (.node (o327 P) (.node (o583 P) .nil .nil) (.node (o839 P) .nil .nil)) (.node (o455 P) (.node (o711 P) .nil .nil) .nil))) (.node gone (.node (o167 P) (.node gone (.node (o551 P) .nil .nil) (.node gone .nil .nil)) (.node (o423 P) (.node (o679 P) .nil .nil) (.node (o935 P) .nil .nil))) (.node (setO d1) (.node (o359 P) (.node gone .nil .nil) (.node gone .nil .nil)) (.node (o487 P) (.node gone .nil .nil) .nil)))) (.node (o55 P) (.node (o87 P) (.node (o151 P) (.node (o279 P) (.node (o535 P) .nil .nil) (.node (o791 P) .nil .nil)) (.node (o407 P) (.node (o663 P) .nil .nil) (.node gone .nil .nil))) (.node (o215 P) (.node gone (.node (o599 P) .nil .nil) (.node (o855 P) .nil .nil)) (.node (o471 P) (.node (o727 P) .nil .nil) .nil))) (.node (o119 P) (.node (o183 P) (.node (o311 P) (.node gone .nil .nil) (.node (o823 P) .nil .nil)) (.node (o439 P) (.node (o695 P) .nil .nil) .nil)) (.node (o247 P) (.node (o375 P) (.node (o631 P) .nil .nil) (.node (o887 P) .nil .nil)) (.node gone (.node (o759 P) .nil .nil) .nil)))))) (.node (o11 P) (.node gone (.node (o35 P) (.node (o67 P) (.node gone (.node (o259 P) (.node gone .nil .nil) (.node gone .nil .nil)) (.node gone (.node (o643 P) .nil .nil) (.node (o899 P) .nil .nil))) (.node (o195 P) (.node (o323 P) (.node gone .nil .nil) (.node gone .nil .nil)) (.node gone (.node (o707 P) .nil .nil) .nil))) (.node (o99 P) (.node (o163 P) (.node (o291 P) (.node (o547 P) .nil .nil) (.node (o803 P) .nil .nil)) (.node (o419 P) (.node gone .nil .nil) (.node gone .nil .nil))) (.node (o227 P) (.node gone (.node (o611 P) .nil .nil) (.node (o867 P) .nil .nil)) (.node (o483 P) (.node (o739 P) .nil .nil) .nil)))) (.node (o51 P) (.node (o83 P) (.node (o147 P) (.node (o275 P) (.node (o531 P) .nil .nil) (.node (o787 P) .nil .nil)) (.node (o403 P) (.node gone .nil .nil) (.node (o915 P) .nil .nil))) (.node (o211 P) (.node (o339 P) (.node (o595 P) .nil .nil) (.node (o851 P) .nil .nil)) (.node (o467 P) (.node (o723 P) .nil .nil) .nil))) (.node (o115 P) (.node (o179 P) (.node gone (.node (o563 P) .nil .nil) (.node gone .nil .nil)) (.node (o435 P) (.node (o691 P) .nil .nil) .nil)) (.node (o243 P) (.node (o371 P) (.node (o627 P) .nil .nil) (.node gone .nil .nil)) (.node (o499 P) (.node (o755 P) .nil .nil) .nil))))) (.node (o27 P) (.node (o43 P) (.node gone (.node (o139 P) (.node (o267 P) (.node (o523 P) .nil .nil) (.node (o779 P) .nil .nil)) (.node (o395 P) (.node (o651 P) .nil .nil) (.node gone .nil .nil))) (.node (o203 P) (.node gone (.node (o587 P) .nil .nil) (.node (o843 P) .nil .nil)) (.node (o459 P) (.node (setO d5) .nil .nil) .nil))) (.node (o107 P) (.node (o171 P) (.node (o299 P) (.node gone .nil .nil) (.node (o811 P) .nil .nil)) (.node (o427 P) (.node (o683 P) .nil .nil) .nil)) (.node (o235 P) (.node (o363 P) (.node (o619 P) .nil .nil) (.node (o875 P) .nil .nil)) (.node gone (.node (o747 P) .nil .nil) .nil)))) (.node (o59 P) (.node (o91 P) (.node (o155 P) (.node gone (.node (o539 P) .nil .nil) (.node gone .nil .nil)) (.node (o411 P) (.node (o667 P) .nil .nil) (.node (o923 P) .nil .nil))) (.node (o219 P) (.node (o347 P) (.node gone .nil .nil) (.node gone .nil .nil)) (.node (o475 P) (.node (o731 P) .nil .nil) .nil))) (.node (o123 P) (.node gone (.node (o315 P) (.node (o571 P) .nil .nil) (.node (o827 P) .nil .nil)) (.node (o443 P) (.node (o699 P) .nil .nil) .nil)) (.node gone (.node (o379 P) (.node gone .nil .nil) (.node (o891 P) .nil .nil)) (.node (o507 P) (.node (o763 P) .nil .nil) .nil))))))) (.node (o5 P) (.node (o9 P) (.node (o17 P) (.node gone (.node (o65 P) (.node (o129 P) (.node (o257 P) (.node (o513 P) .nil .nil) (.node (o769 P) .nil .nil)) (.node (o385 P) (.node gone .nil .nil) (.node (o897 P) .nil .nil))) (.node (o193 P) (.node (o321 P) (.node (o577 P) .nil .nil) (.node (o833 P) .nil .nil)) (.node (o449 P) (.node (o705 P) .nil .nil) .nil))) (.node (o97 P) (.node (o161 P) (.node gone (.node (o545 P) .nil .nil) (.node gone .nil .nil)) (.node (o417 P) (.node (o673 P) .nil .nil) (.node (o929 P) .nil .nil))) (.node (o225 P) (.node (o353 P) (.node gone .nil .nil) (.node gone .nil .nil)) (.node (o481 P) (.node (o737 P) .nil .nil) .nil)))) (.node (o49 P) (.node (o81 P) (.node gone (.node (o273 P) (.node (o529 P) .nil .nil) (.node (o785 P) .nil .nil)) (.node (o401 P) (.node (o657 P) .nil .nil) (.node gone .nil .nil))) (.node (o209 P) (.node gone (.node (o593 P) .nil .nil) (.node (o849 P) .nil .nil)) (.node gone (.node (o721 P) .nil .nil) .nil))) (.node (o113 P) (.node (o177 P) (.node (o305 P) (.node gone .nil .nil) (.node (o817 P) .nil .nil)) (.node (o433 P) (.node (o689 P) .nil .nil) .nil)) (.node (o241 P) (.node (o369 P) (.node gone .nil .nil) (.node (o881 P) .nil .nil)) (.node gone (.node (o753 P) .nil .nil) .nil))))) (.node (o25 P) (.node (o41 P) (.node (o73 P) (.node (o137 P) (.node gone (.node gone .nil .nil) (.node gone .nil .nil)) (.node gone (.node (o649 P) .nil .nil) (.node (o905 P) .nil .nil))) (.node (o201 P) (.node (o329 P) (.node gone .nil .nil) (.node gone .nil .nil)) (.node (o457 P) (.node (o713 P) .nil .nil) .nil))) (.node (o105 P) (.node (o169 P) (.node (o297 P) (.node (o553 P) .nil .nil) (.node (o809 P) .nil .nil)) (.node gone (.node (o681 P) .nil .nil) (.node gone .nil .nil))) (.node (o233 P) (.node gone (.node (o617 P) .nil .nil) (.node (o873 P) .nil .nil)) (.node (o489 P) (.node (o745 P) .nil .nil) .nil)))) (.node (o57 P) (.node gone (.node (o153 P) (.node (o281 P) (.node gone .nil .nil) (.node (o793 P) .nil .nil)) (.node (o409 P) (.node (o665 P) .nil .nil) (.node (o921 P) .nil .nil))) (.node (o217 P) (.node (o345 P) (.node (o601 P) .nil .nil) (.node (o857 P) .nil .nil)) (.node (o473 P) (.node gone .nil .nil) .nil))) (.node (o121 P) (.node (o185 P) (.node gone (.node (o569 P) .nil .nil) (.node (o825 P) .nil .nil)) (.node (o441 P) (.node (o697 P) .nil .nil) .nil)) (.node (o249 P) (.node gone (.node (o633 P) .nil .nil) (.node gone .nil .nil)) (.node (o505 P) (.node (o761 P) .nil .nil) .nil)))))) (.node (o13 P) (.node (o21 P) (.node (o37 P) (.node (o69 P) (.node (o133 P) (.node (o261 P) (.node (o517 P) .nil .nil) (.node (o773 P) .nil .nil)) (.node (o389 P) (.node (o645 P) .nil .nil) (.node gone .nil .nil))) (.node (o197_1 P) (.node gone (.node (o581 P) .nil .nil) (.node (o837 P) .nil .nil)) (.node (setO d4) (.node (o709 P) .nil .nil) .nil))) (.node (o101 P) (.node (o165 P) (.node (o293 P) (.node gone .nil .nil) (.node (o805 P) .nil .nil)) (.node (o421 P) (.node (o677 P) .nil .nil) (.node (o933 P) .nil .nil))) (.node gone (.node (o357 P) (.node (o613 P) .nil .nil) (.node (o869 P) .nil .nil)) (.node (o485 P) (.node (o741 P) .nil .nil) .nil)))) (.node (o53 P) (.node (o85 P) (.node (o149 P) (.node gone (.node gone .nil .nil) (.node gone .nil .nil)) (.node (o405 P) (.node (o661 P) .nil .nil) (.node (o917 P) .nil .nil))) (.node gone (.node (o341 P) (.node gone .nil .nil) (.node gone .nil .nil)) (.node (o469 P) (.node (o725 P) .nil .nil) .nil))) (.node gone (.node (o181 P) (.node (o309 P) (.node (o565 P) .nil .nil) (.node (o821 P) .nil .nil)) (.node (o437 P) (.node (o693 P) .nil .nil) .nil)) (.node (o245 P) (.node (o373 P) (.node (o629 P) .nil .nil) (.node (o885 P) .nil .nil)) (.node (o501 P) (.node gone .nil .nil) .nil))))) (.node (o29 P) (.node (o45 P) (.node (o77 P) (.node (o141 P) (.node (o269 P) (.node (o525 P) .nil .nil) (.node (o781 P) .nil .nil)) (.node (o397 P) (.node gone .nil .nil) (.node (o909 P) .nil .nil))) (.node (o205 P) (.node (o333 P) (.node (o589 P) .nil .nil) (.node (o845 P) .nil .nil)) (.node (o461 P) (.node (setO d7) .nil .nil) .nil))) (.node (o109 P) (.node gone (.node gone (.node (o557 P) .nil .nil) (.node gone .nil .nil)) (.node (o429 P) (.node (o685 P) .nil .nil) .nil)) (.node gone (.node (o365 P) (.node gone .nil .nil) (.node gone .nil .nil)) (.node (o493 P) (.node (o749 P) .nil .nil) .nil)))) (.node gone (.node (o93 P) (.node (o157 P) (.node (o285 P) (.node (o541 P) .nil .nil) (.node (o797 P) .nil .nil)) (.node (o413 P) (.node (o669 P) .nil .nil) (.node gone .nil .nil))) (.node (o221 P) (.node gone (.node (o605 P) .nil .nil) (.node (o861 P) .nil .nil)) (.node (o477 P) (.node (o733 P) .nil .nil) .nil))) (.node (o125 P) (.node (o189 P) (.node (o317 P) (.node gone .nil .nil) (.node gone .nil .nil)) (.node (o445 P) (.node gone .nil .nil) .nil)) (.node (o253 P) (.node (o381 P) (.node (o637 P) .nil .nil) (.node (o893 P) .nil .nil)) (.node gone (.node gone .nil .nil) .nil)))))))) (.node (o2_2 P) (.node (o4 P) (.node (o8 P) (.node (o16 P) (.node (o32 P) (.node (o64 P) (.node (o128 P) (.node (o256 P) (.node gone .nil .nil) (.node gone .nil .nil)) (.node (o384 P) (.node (o640 P) .nil .nil) (.node (o896 P) .nil .nil))) (.node gone (.node (o320 P) (.node gone .nil .nil) (.node gone .nil .nil)) (.node (o448 P) (.node (o704 P) .nil .nil) .nil))) (.node gone (.node (o160 P) (.node (o288 P) (.node (o544 P) .nil .nil) (.node (o800 P) .nil .nil)) (.node (o416 P) (.node (o672 P) .nil .nil) (.node gone .nil .nil))) (.node (o224 P) (.node gone (.node (o608 P) .nil .nil) (.node (o864 P) .nil .nil)) (.node (o480 P) (.node gone .nil .nil) .nil)))) (.node (o48 P) (.node (o80 P) (.node (o144 P) (.node gone (.node (o528 P) .nil .nil) (.node (o784 P) .nil .nil)) (.node (o400 P) (.node gone .nil .nil) (.node (o912 P) .nil .nil))) (.node gone (.node (o336 P) (.node (o592 P) .nil .nil) (.node (o848 P) .nil .nil)) (.node (o464 P) (.node (o720 P) .nil .nil) .nil))) (.node (o112 P) (.node (o176 P) (.node gone (.node (o560 P) .nil .nil) (.node gone .nil .nil)) (.node (o432 P) (.node gone .nil .nil) .nil)) (.node (o240 P) (.node (o368 P) (.node (o624 P) .nil .nil) (.node gone .nil .nil)) (.node (o496 P) (.node (o752 P) .nil .nil) .nil))))) (.node (o24 P) (.node gone (.node (o72 P) (.node (o136 P) (.node (o264 P) (.node (o520 P) .nil .nil) (.node (o776 P) .nil .nil)) (.node (o392 P) (.node (o648 P) .nil .nil) (.node gone .nil .nil))) (.node (o200 P) (.node gone (.node (o584 P) .nil .nil) (.node (o840 P) .nil .nil)) (.node (o456 P) (.node (o712 P) .nil .nil) .nil))) (.node (o104 P) (.node (o168 P) (.node (o296 P) (.node gone .nil .nil) (.node (o808 P) .nil .nil)) (.node (o424 P) (.node (o680 P) .nil .nil) (.node (o936 P) .nil .nil))) (.node (setO d2) (.node (o360 P) (.node (o616 P) .nil .nil) (.node (o872 P) .nil .nil)) (.node (o488 P) (.node (o744 P) .nil .nil) .nil)))) (.node (o56 P) (.node (o88 P) (.node gone (.node gone (.node (o536 P) .nil .nil) (.node gone .nil .nil)) (.node (o408 P) (.node (o664 P) .nil .nil) (.node (o920 P) .nil .nil))) (.node (o216 P) (.node (o344 P) (.node gone .nil .nil) (.node gone .nil .nil)) (.node gone (.node (o728 P) .nil .nil) .nil))) (.node (o120 P) (.node (o184 P) (.node (o312 P) (.node (o568 P) .nil .nil) (.node (o824 P) .nil .nil)) (.node (o440 P) (.node (o696 P) .nil .nil) .nil)) (.node (o248 P) (.node (o376 P) (.node gone .nil .nil) (.node (o888 P) .nil .nil)) (.node (o504 P) (.node (o760 P) .nil .nil) .nil)))))) (.node (o12_3 P) (.node (o20 P) (.node (o36 P) (.node gone (.node (o132 P) (.node (o260 P) (.node (o516 P) .nil .nil) (.node (o772 P) .nil .nil)) (.node (o388 P) (.node gone .nil .nil) (.node (o900 P) .nil .nil))) (.node (o196 P) (.node (o324 P) (.node (o580 P) .nil .nil) (.node (o836 P) .nil .nil)) (.node (setO d3) (.node (o708 P) .nil .nil) .nil))) (.node (o100 P) (.node (o164 P) (.node gone (.node (o548 P) .nil .nil) (.node gone .nil .nil)) (.node (o420 P) (.node (o676 P) .nil .nil) (.node (o932 P) .nil .nil))) (.node (o228 P) (.node (o356 P) (.node gone .nil .nil) (.node gone .nil .nil)) (.node (o484 P) (.node (o740 P) .nil .nil) .nil)))) (.node (o52 P) (.node (o84 P) (.node (o148 P) (.node (o276 P) (.node (o532 P) .nil .nil) (.node (o788 P) .nil .nil)) (.node (o404 P) (.node (o660 P) .nil .nil) (.node gone .nil .nil))) (.node (o212 P) (.node gone (.node (o596 P) .nil .nil) (.node (o852 P) .nil .nil)) (.node (o468 P) (.node (o724 P) .nil .nil) .nil))) (.node (o116 P) (.node gone (.node (o308 P) (.node gone .nil .nil) (.node (o820 P) .nil .nil)) (.node (o436 P) (.node (o692 P) .nil .nil) .nil)) (.node gone (.node (o372 P) (.node gone .nil .nil) (.node (o884 P) .nil .nil)) (.node gone (.node (o756 P) .nil .nil) .nil))))) (.node (o28 P) (.node (o44 P) (.node (o76 P) (.node (o140 P) (.node (o268 P) (.node gone .nil .nil) (.node gone .nil .nil)) (.node gone (.node (o652 P) .nil .nil) (.node (o908 P) .nil .nil))) (.node (o204 P) (.node (o332 P) (.node gone .nil .nil) (.node gone .nil .nil)) (.node (o460 P) (.node (setO d6) .nil .nil) .nil))) (.node (o108 P) (.node (o172 P) (.node (o300 P) (.node (o556 P) .nil .nil) (.node (o812 P) .nil .nil)) (.node (o428 P) (.node (o684 P) .nil .nil) .nil)) (.node (o236 P) (.node gone (.node (o620 P) .nil .nil) (.node (o876 P) .nil .nil)) (.node (o492 P) (.node (o748 P) .nil .nil) .nil)))) (.node (o60 P) (.node (o92 P) (.node (o156 P) (.node (o284 P) (.node gone .nil .nil) (.node (o796 P) .nil .nil)) (.node gone (.node (o668 P) .nil .nil) (.node (o924 P) .nil .nil))) (.node (o220 P) (.node (o348 P) (.node (o604 P) .nil .nil) (.node (o860 P) .nil .nil)) (.node (o476 P) (.node (o732 P) .nil .nil) .nil))) (.node gone (.node (o188 P) (.node gone (.node (o572 P) .nil .nil) (.node (o828 P) .nil .nil)) (.node (o444 P) (.node (o700 P) .nil .nil) .nil)) (.node (o252 P) (.node gone (.node (o636 P) .nil .nil) (.node gone .nil .nil)) (.node (o508 P) (.node (o764 P) .nil .nil) .nil))))))) (.node (o6 P) (.node (o10 P) (.node (o18 P) (.node (o34 P) (.node (o66 P) (.node (o130 P) (.node gone (.node (o514 P) .nil .nil) (.node (o770 P) .nil .nil)) (.node (o386 P) (.node (o642 P) .nil .nil) (.node gone .nil .nil))) (.node (o194 P) (.node gone (.node (o578 P) .nil .nil) (.node (o834 P) .nil .nil)) (.node (o450 P) (.node (o706 P) .nil .nil) .nil))) (.node (o98 P) (.node (o162 P) (.node (o290 P) (.node gone .nil .nil) (.node (o802 P) .nil .nil)) (.node (o418 P) (.node (o674 P) .nil .nil) (.node (o930 P) .nil .nil))) (.node (o226 P) (.node (o354 P) (.node (o610 P) .nil .nil) (.node (o866 P) .nil .nil)) (.node (o482 P) (.node (o738 P) .nil .nil) .nil)))) (.node (o50 P) (.node gone (.node (o146 P) (.node (o274 P) (.node gone .nil .nil) (.node gone .nil .nil)) (.node (o402 P) (.node (o658 P) .nil .nil) (.node (o914 P) .nil .nil))) (.node (o210 P) (.node (o338 P) (.node gone .nil .nil) (.node gone .nil .nil)) (.node (o466 P) (.node gone .nil .nil) .nil))) (.node (o114 P) (.node (o178 P) (.node (o306 P) (.node (o562 P) .nil .nil) (.node (o818 P) .nil .nil)) (.node (o434 P) (.node (o690 P) .nil .nil) .nil)) (.node (o242 P) (.node gone (.node (o626 P) .nil .nil) (.node (o882 P) .nil .nil)) (.node (o498 P) (.node (o754 P) .nil .nil) .nil))))) (.node (o26 P) (.node (o42 P) (.node (o74 P) (.node gone (.node (o266 P) (.node (o522 P) .nil .nil) (.node (o778 P) .nil .nil)) (.node (o394 P) (.node gone .nil .nil) (.node (o906 P) .nil .nil))) (.node (o202 P) (.node (o330 P) (.node (o586 P) .nil .nil) (.node (o842 P) .nil .nil)) (.node gone (.node (o714_x0 P) .nil .nil) .nil))) (.node (o106 P) (.node (o170 P) (.node gone (.node (o554 P) .nil .nil) (.node gone .nil .nil)) (.node (o426 P) (.node (o682 P) .nil .nil) (.node (o938 P) .nil .nil))) (.node (o234 P) (.node (o362 P) (.node gone .nil .nil) (.node gone .nil .nil)) (.node (o490 P) (.node (o746 P) .nil .nil) .nil)))) (.node (o58 P) (.node (o90 P) (.node (o154 P) (.node (o282 P) (.node (o538 P) .nil .nil) (.node (o794 P) .nil .nil)) (.node (o410 P) (.node (o666 P) .nil .nil) (.node gone .nil .nil))) (.node (o218 P) (.node gone (.node (o602 P) .nil .nil) (.node (o858 P) .nil .nil)) (.node (o474 P) (.node (o730 P) .nil .nil) .nil))) (.node (o122 P) (.node (o186 P) (.node (o314 P) (.node gone .nil .nil) (.node gone .nil .nil)) (.node (o442 P) (.node (o698 P) .nil .nil) .nil)) (.node (o250 P) (.node (o378 P) (.node (o634 P) .nil .nil) (.node (o890 P) .nil .nil)) (.node gone (.node gone .nil .nil) .nil)))))) (.node (o14 P) (.node (o22 P) (.node (o38 P) (.node (o70 P) (.node (o134 P) (.node (o262 P) (.node gone .nil .nil) (.node gone .nil .nil)) (.node gone (.node (o646 P) .nil .nil) (.node (o902 P) .nil .nil))) (.node (o198 P) (.node (o326 P) (.node gone .nil .nil) (.node gone .nil .nil)) (.node (o454 P) (.node (o710_x1 P) .nil .nil) .nil))) (.node (o102 P) (.node gone (.node (o294 P) (.node (o550 P) .nil .nil) (.node (o806 P) .nil .nil)) (.node (o422 P) (.node (o678 P) .nil .nil) (.node gone .nil .nil))) (.node (setO d0) (.node gone (.node (o614 P) .nil .nil) (.node (o870 P) .nil .nil)) (.node gone (.node (o742 P) .nil .nil) .nil)))) (.node gone (.node (o86 P) (.node (o150 P) (.node (o278 P) (.node (o534 P) .nil .nil) (.node (o790 P) .nil .nil)) (.node (o406 P) (.node gone .nil .nil) (.node (o918 P) .nil .nil))) (.node (o214 P) (.node (o342 P) (.node (o598 P) .nil .nil) (.node (o854 P) .nil .nil)) (.node (o470 P) (.node (o726 P) .nil .nil) .nil))) (.node (o118 P) (.node (o182 P) (.node gone (.node (o566 P) .nil .nil) (.node gone .nil .nil)) (.node gone (.node (o694 P) .nil .nil) .nil)) (.node (o246 P) (.node gone (.node (o630 P) .nil .nil) (.node gone .nil .nil)) (.node (o502 P) (.node (o758 P) .nil .nil) .nil))))) (.node (o30 P) (.node (o46 P) (.node (o78 P) (.node (o142 P) (.node (o270 P) (.node (o526 P) .nil .nil) (.node (o782 P) .nil .nil)) (.node (o398 P) (.node (o654 P) .nil .nil) (.node gone .nil .nil))) (.node (o206 P) (.node gone (.node (o590 P) .nil .nil) (.node (o846 P) .nil .nil)) (.node (o462 P) (.node (o718 P) .nil .nil) .nil))) (.node gone (.node (o174 P) (.node (o302 P) (.node gone .nil .nil) (.node (o814 P) .nil .nil)) (.node (o430 P) (.node (o686 P) .nil .nil) .nil)) (.node (o238 P) (.node (o366 P) (.node (o622 P) .nil .nil) (.node (o878 P) .nil .nil)) (.node gone (.node gone .nil .nil) .nil)))) (.node (o62 P) (.node (o94 P) (.node (o158 P) (.node gone (.node (o542 P) .nil .nil) (.node gone .nil .nil)) (.node (o414 P) (.node (o670 P) .nil .nil) (.node (o926 P) .nil .nil))) (.node (o222 P) (.node (o350 P) (.node gone .nil .nil) (.node gone .nil .nil)) (.node (o478 P) (.node (o734 P) .nil .nil) .nil))) (.node (o126 P) (.node (o190 P) (.node (o318 P) (.node (o574 P) .nil .nil) (.node (o830 P) .nil .nil)) (.node (o446 P) (.node (o702 P) .nil .nil) .nil)) (.node (o254 P) (.node (o382 P) (.node gone .nil .nil) (.node (o894 P) .nil .nil)) (.node (o510 P) (.node (o766 P) .nil .nil) .nil)))))))))
def S_m2b (P : Params) (d0 d1 d2 d3 d4 d5 d6 d7 : SD) : ST := ⟨T_m2b P d0 d1 d2 d3 d4 d5 d6 d7, 939, 3185⟩
def KS (P : Params) (d0 d1 d2 d3 d4 d5 d6 d7 : SD) : Frag := [(0, (o0 P)), (2, (o2_3 P)), (3, (o3_4 P)), (197, (o197_2 P)), (218, (o218 P)), (403, (o403 P)), (415, (o415 P)), (428, (o428 P)), (441, (o441 P)), (666, (o666 P)), (678, (o678 P)), (691, (o691 P)), (704, (o704 P)), (979, (o979 P)), (991, (o991 P)), (196, (o196 P)), (217, (o217 P)), (402, (o402 P)), (414, (o414 P)), (427, (o427 P)), (440, (o440 P)), (665, (o665 P)), (677, (o677 P)), (690, (o690 P)), (703, (o703 P)), (978, (o978 P)), (990, (o990 P)), (21, (o21 P)), (35, (o35 P)), (42, (o42 P)), (49, (o49 P)), (56, (o56 P)), (63, (o63 P)), (70, (o70 P)), (77, (o77 P)), (84, (o84 P)), (91, (o91 P)), (98, (o98 P)), (105, (o105 P)), (112, (o112 P)), (119, (o119 P)), (126, (o126 P)), (133, (o133 P)), (140, (o140 P)), (147, (o147 P)), (154, (o154 P)), (161, (o161 P)), (168, (o168 P)), (175, (o175 P)), (182, (o182 P)), (189, (o189 P)), (194, (o194 P)), (215, (o215 P)), (239, (o239 P)), (246, (o246 P)), (253, (o253 P)), (260, (o260 P)), (267, (o267 P)), (274, (o274 P)), (460, (o460 P)), (467, (o467 P)), (474, (o474 P)), (481, (o481 P)), (488, (o488 P)), (724, (o724 P)), (731, (o731 P)), (738, (o738 P)), (745, (o745 P)), (752, (o752 P)), (759, (o759 P)), (999, (o999 P)), (9, (o9 P)), (13, (o13 P)), (20, (o20 P)), (27, (o27 P)), (34, (o34 P)), (41, (o41 P)), (48, (o48 P)), (55, (o55 P)), (62, (o62 P)), (69, (o69 P)), (76, (o76 P)), (83, (o83 P)), (90, (o90 P)), (97, (o97 P)), (104, (o104 P)), (111, (o111 P)), (118, (o118 P)), (125, (o125 P)), (132, (o132 P)), (139, (o139 P)), (146, (o146 P)), (153, (o153 P)), (160, (o160 P)), (167, (o167 P)), (174, (o174 P)), (181, (o181 P)), (188, (o188 P)), (193, (o193 P)), (207, (o207 P)), (214, (o214 P)), (228, (o228 P)), (238, (o238 P)), (245, (o245 P)), (252, (o252 P)), (259, (o259 P)), (266, (o266 P)), (273, (o273 P)), (411, (o411 P)), (424, (o424 P)), (437, (o437 P)), (450, (o450 P)), (459, (o459 P)), (466, (o466 P)), (473, (o473 P)), (480, (o480 P)), (487, (o487 P)), (674, (o674 P)), (687, (o687 P)), (700, (o700 P)), (713, (o713 P)), (723, (o723 P)), (730, (o730 P)), (737, (o737 P)), (744, (o744 P)), (751, (o751 P)), (758, (o758 P)), (987, (o987 P)), (998, (o998 P)), (230, (setO d0)), (231, (setO d1)), (232, (setO d2)), (371, (o371 P)), (384, (o384 P)), (400, (o400 P)), (452, (setO d3)), (453, (setO d4)), (534, (o534 P)), (622, (o622 P)), (629, (o629 P)), (663, (o663 P)), (715, (setO d5)), (716, (setO d6)), (717, (setO d7)), (823, (o823 P)), (938, (o938 P)), (960, (o960 P)), (976, (o976 P)), (1, (o1 P)), (4, (o4 P)), (5, (o5 P)), (6, (o6 P)), (24, (o24 P)), (204, (o204 P)), (225, (o225 P)), (275, (o275 P)), (276, (o276 P)), (278, (o278 P)), (279, (o279 P)), (281, (o281 P)), (282, (o282 P)), (284, (o284 P)), (285, (o285 P)), (287, (o287 P)), (288, (o288 P)), (290, (o290 P)), (291, (o291 P)), (293, (o293 P)), (294, (o294 P)), (296, (o296 P)), (297, (o297 P)), (299, (o299 P)), (300, (o300 P)), (302, (o302 P)), (303, (o303 P)), (305, (o305 P)), (306, (o306 P)), (308, (o308 P)), (309, (o309 P)), (311, (o311 P)), (312, (o312 P)), (314, (o314 P)), (315, (o315 P)), (317, (o317 P)), (318, (o318 P)), (320, (o320 P)), (321, (o321 P)), (323, (o323 P)), (324, (o324 P)), (326, (o326 P)), (327, (o327 P)), (329, (o329 P)), (330, (o330 P)), (332, (o332 P)), (333, (o333 P)), (335, (o335 P)), (336, (o336 P)), (338, (o338 P)), (339, (o339 P)), (341, (o341 P)), (342, (o342 P)), (344, (o344 P)), (345, (o345 P)), (347, (o347 P)), (348, (o348 P)), (350, (o350 P)), (351, (o351 P)), (353, (o353 P)), (354, (o354 P)), (356, (o356 P)), (357, (o357 P)), (359, (o359 P)), (360, (o360 P)), (362, (o362 P)), (363, (o363 P)), (365, (o365 P)), (366, (o366 P)), (368, (o368 P)), (369, (o369 P)), (372, (o372 P)), (373, (o373 P)), (375, (o375 P)), (376, (o376 P)), (378, (o378 P)), (379, (o379 P)), (381, (o381 P)), (382, (o382 P)), (385, (o385 P)), (386, (o386 P)), (388, (o388 P)), (389, (o389 P)), (391, (o391 P)), (392, (o392 P)), (394, (o394 P)), (395, (o395 P)), (397, (o397 P)), (398, (o398 P)), (408, (o408 P)), (421, (o421 P)), (434, (o434 P)), (447, (o447 P)), (489, (o489 P)), (490, (o490 P)), (492, (o492 P)), (493, (o493 P)), (495, (o495 P)), (496, (o496 P)), (498, (o498 P)), (499, (o499 P)), (501, (o501 P)), (502, (o502 P)), (504, (o504 P)), (505, (o505 P)), (507, (o507 P)), (508, (o508 P)), (510, (o510 P)), (511, (o511 P)), (513, (o513 P)), (514, (o514 P)), (516, (o516 P)), (517, (o517 P)), (519, (o519 P)), (520, (o520 P)), (522, (o522 P)), (523, (o523 P)), (525, (o525 P)), (526, (o526 P)), (528, (o528 P)), (529, (o529 P)), (531, (o531 P)), (532, (o532 P)), (535, (o535 P)), (536, (o536 P)), (538, (o538 P)), (539, (o539 P)), (541, (o541 P)), (542, (o542 P)), (544, (o544 P)), (545, (o545 P)), (547, (o547 P)), (548, (o548 P)), (550, (o550 P)), (551, (o551 P)), (553, (o553 P)), (554, (o554 P)), (556, (o556 P)), (557, (o557 P)), (559, (o559 P)), (560, (o560 P)), (562, (o562 P)), (563, (o563 P)), (565, (o565 P)), (566, (o566 P)), (568, (o568 P)), (569, (o569 P)), (571, (o571 P)), (572, (o572 P)), (574, (o574 P)), (575, (o575 P)), (577, (o577 P)), (578, (o578 P)), (580, (o580 P)), (581, (o581 P)), (583, (o583 P)), (584, (o584 P)), (586, (o586 P)), (587, (o587 P)), (589, (o589 P)), (590, (o590 P)), (592, (o592 P)), (593, (o593 P)), (595, (o595 P)), (596, (o596 P)), (598, (o598 P)), (599, (o599 P)), (601, (o601 P)), (602, (o602 P)), (604, (o604 P)), (605, (o605 P)), (607, (o607 P)), (608, (o608 P)), (610, (o610 P)), (611, (o611 P)), (613, (o613 P)), (614, (o614 P)), (616, (o616 P)), (617, (o617 P)), (619, (o619 P)), (620, (o620 P)), (623, (o623 P)), (624, (o624 P)), (626, (o626 P)), (627, (o627 P)), (630, (o630 P)), (631, (o631 P)), (633, (o633 P)), (634, (o634 P)), (636, (o636 P)), (637, (o637 P)), (639, (o639 P)), (640, (o640 P)), (642, (o642 P)), (643, (o643 P)), (645, (o645 P)), (646, (o646 P)), (648, (o648 P)), (649, (o649 P)), (651, (o651 P)), (652, (o652 P)), (654, (o654 P)), (655, (o655 P)), (657, (o657 P)), (658, (o658 P)), (660, (o660 P)), (661, (o661 P)), (671, (o671 P)), (684, (o684 P)), (697, (o697 P)), (710, (o710 P)), (760, (o760 P)), (761, (o761 P)), (763, (o763 P)), (764, (o764 P)), (766, (o766 P)), (767, (o767 P)), (769, (o769 P)), (770, (o770 P)), (772, (o772 P)), (773, (o773 P)), (775, (o775 P)), (776, (o776 P)), (778, (o778 P)), (779, (o779 P)), (781, (o781 P)), (782, (o782 P)), (784, (o784 P)), (785, (o785 P)), (787, (o787 P)), (788, (o788 P)), (790, (o790 P)), (791, (o791 P)), (793, (o793 P)), (794, (o794 P)), (796, (o796 P)), (797, (o797 P)), (799, (o799 P)), (800, (o800 P)), (802, (o802 P)), (803, (o803 P)), (805, (o805 P)), (806, (o806 P)), (808, (o808 P)), (809, (o809 P)), (811, (o811 P)), (812, (o812 P)), (814, (o814 P)), (815, (o815 P)), (817, (o817 P)), (818, (o818 P)), (820, (o820 P)), (821, (o821 P)), (824, (o824 P)), (825, (o825 P)), (827, (o827 P)), (828, (o828 P)), (830, (o830 P)), (831, (o831 P)), (833, (o833 P)), (834, (o834 P)), (836, (o836 P)), (837, (o837 P)), (839, (o839 P)), (840, (o840 P)), (842, (o842 P)), (843, (o843 P)), (845, (o845 P)), (846, (o846 P)), (848, (o848 P)), (849, (o849 P)), (851, (o851 P)), (852, (o852 P)), (854, (o854 P)), (855, (o855 P)), (857, (o857 P)), (858, (o858 P)), (860, (o860 P)), (861, (o861 P)), (863, (o863 P)), (864, (o864 P)), (866, (o866 P)), (867, (o867 P)), (869, (o869 P)), (870, (o870 P)), (872, (o872 P)), (873, (o873 P)), (875, (o875 P)), (876, (o876 P)), (878, (o878 P)), (879, (o879 P)), (881, (o881 P)), (882, (o882 P)), (884, (o884 P)), (885, (o885 P)), (887, (o887 P)), (888, (o888 P)), (890, (o890 P)), (891, (o891 P)), (893, (o893 P)), (894, (o894 P)), (896, (o896 P)), (897, (o897 P)), (899, (o899 P)), (900, (o900 P)), (902, (o902 P)), (903, (o903 P)), (905, (o905 P)), (906, (o906 P)), (908, (o908 P)), (909, (o909 P)), (911, (o911 P)), (912, (o912 P)), (914, (o914 P)), (915, (o915 P)), (917, (o917 P)), (918, (o918 P)), (920, (o920 P)), (921, (o921 P)), (923, (o923 P)), (924, (o924 P)), (926, (o926 P)), (927, (o927 P)), (929, (o929 P)), (930, (o930 P)), (932, (o932 P)), (933, (o933 P)), (935, (o935 P)), (936, (o936 P)), (939, (o939 P)), (940, (o940 P)), (942, (o942 P)), (943, (o943 P)), (945, (o945 P)), (946, (o946 P)), (948, (o948 P)), (949, (o949 P)), (951, (o951 P)), (952, (o952 P)), (954, (o954 P)), (955, (o955 P)), (957, (o957 P)), (958, (o958 P)), (961, (o961 P)), (962, (o962 P)), (964, (o964 P)), (965, (o965 P)), (967, (o967 P)), (968, (o968 P)), (970, (o970 P)), (971, (o971 P)), (973, (o973 P)), (974, (o974 P)), (984, (o984 P))]
end Sb
end

section
open PySem PySem.W PyProof.Rows
set_option Elab.async false
set_option maxRecDepth 100000
set_option linter.unusedVariables false
namespace Sb

/-- the nodes of a tree -/
def fragT : BT → List (Nat × Obj)
  | .nil => []
  | .node v l r => (0, v) :: ((fragT l).map (fun p => (2 * p.1 + 1, p.2)) ++ (fragT r).map (fun p => (2 * p.1 + 2, p.2)))
def live (p : Nat × Obj) : Option (Nat × Obj) := match alive p.2 with
  | some o => some (p.1, o)
  | none => none
def kept (t : BT) : Frag := (fragT t).filterMap live
def seen (T : BT) (S : ST) : List (Option Obj) × Nat × Nat := ((kept T).map fun p => S.tree.get p.1, S.n, S.toks)
def want (T : ST) : List (Option Obj) × Nat × Nat := ((kept T.tree).map fun p => some p.2, T.n, T.toks)

theorem mem_fragT : ∀ {t : BT} {i : Nat} {o : Obj}, t.get i = some o → (i, o) ∈ fragT t
  | .nil, _, _, h => by cases h
  | .node v l r, i, o, h => by
    rw [BT.get_node] at h
    unfold fragT
    by_cases h0 : i = 0
    · rw [if_pos h0] at h
      cases h
      rw [h0]
      exact .head _
    · rw [if_neg h0] at h
      refine .tail _ ?_
      by_cases h1 : i % 2 = 1
      · rw [if_pos h1] at h
        refine List.mem_append_left _ (List.mem_map.mpr ⟨_, mem_fragT h, ?_⟩)
        have : 2 * (i / 2) + 1 = i := by omega
        rw [this]
      · rw [if_neg h1] at h
        refine List.mem_append_right _ (List.mem_map.mpr ⟨_, mem_fragT h, ?_⟩)
        have : 2 * (i / 2 - 1) + 2 = i := by omega
        rw [this]
theorem kept_get {T : BT} {i : Nat} {o o' : Obj} (h : T.get i = some o) (ha : alive o = some o') : (i, o') ∈ kept T := by
  refine List.mem_filterMap.mpr ⟨(i, o), mem_fragT h, ?_⟩
  unfold live
  rw [ha]
theorem Rel.weak {B s : Shared} {S T : ST} (R : Rel B S s) (h : seen T.tree S = want T) : Rel B T s := by
  obtain ⟨h1, h2⟩ := Prod.mk.inj h
  obtain ⟨h2, h3⟩ := Prod.mk.inj h2
  refine ⟨R.size.trans h2, R.toks.trans h3, fun a o o' ho ha => ?_, R.gens, R.drawn, R.os⟩
  have hm := kept_get ho ha
  have := List.map_inj_left.mp h1 _ hm
  obtain ⟨rfl, hf⟩ := alive_eq ha
  refine R.tree a _ _ this ?_
  obtain ⟨c, d, dt, sl⟩ := o'
  cases dt <;> first | rfl | cases hf

def runPiece (den : Code → Sem Fin) (pr : Program) (P : Params) (n : Nat) (Γ : Ctx) (env : Env) (m : Nat) (ds : List SD) (stmts : List Stmt) (p : Pos) (S : ST) : Option (ST × List (List Str)) :=
  match run den pr P n Γ p S (execs (stmts.take m) env) with
  | .ok .next p₁ S₁ => match stmts.drop m with
    | c :: _ => match runClass den pr P n Γ env c ds p₁ S₁ with
      | some (_, S₂, l) => some (S₂, l)
      | none => none
    | [] => none
  | _ => none

noncomputable def den2 : Code → Sem Fin := PySem.W.Fast.tw11892475500146522536 PySem.W.Fast.tw14364793385576792824
theorem den2_eq : denote table = den2 := by
  rw [table_eq_tree]
  unfold den2
  rw [← PySem.W.Fast.te14364793385576792824, ← PySem.W.Fast.te11892475500146522536]
def ctx0 : Ctx := ⟨.builtin "claim.caller" {}, none, none, [], none⟩
def env0 : Env := { scope := prg.main.scope, locals := mainNs, globals := mainNs, cells := [], code := .ref 13, frame := some 14 }
def top0 : List Stmt := behindTheImports prg
def ctx1 : Ctx := ctx0.enter (.body top0 env0) none default
def fuel : Nat := 60000
end Sb
end

section
open PySem PySem.W PyProof.Rows
set_option Elab.async false
set_option maxRecDepth 100000
set_option maxHeartbeats 0
set_option linter.unusedVariables false
namespace Sb
noncomputable def T_st0 (P : Params) : BT := .node (boot_o_0 P) (.node (boot_o_1 P) (.node (boot_o_3 P) (.node (boot_o_7 P) .nil .nil) .nil) (.node (boot_o_5 P) (.node (boot_o_9 P) .nil .nil) .nil)) (.node (boot_o_2 P) (.node (boot_o_4 P) (.node (boot_o_8 P) .nil .nil) .nil) (.node (boot_o_6 P) (.node (boot_o_10 P) .nil .nil) .nil))
noncomputable def S_st0 (P : Params) : ST := ⟨T_st0 P, 11, boot_toks⟩
noncomputable def start0 (P : Params) : Ls Fin := runTo den2 prg P fuel ctx0 default (S_st0 P) (topStub prg).cur
def viewTo (T : BT) : Ls Fin → Option (List Stmt × Env × Option Value × Pos × List (Option Obj) × Nat × Nat)
  | .stop stmts env h _ p s => some (stmts, env, h, p, seen T s)
  | .no => none
def viewU (T : BT) {α : Type} : Lf α → Option (List (Option Obj) × Nat × Nat)
  | .ok _ _ s => some (seen T s)
  | _ => none
def viewN (T : BT) : Lf Flow → Option (List (Option Obj) × Nat × Nat)
  | .ok .next _ s => some (seen T s)
  | _ => none
noncomputable def viewK (P : Params) (T : BT) (S : ST) : Ls Fin → Option (List (Option Obj) × Nat × Nat)
  | .stop _ _ _ k p _ => match run den2 prg P fuel ctx0 p S (k (.ok .next)) with
    | .ok (.done _) _ s => some (seen T s)
    | _ => none
  | .no => none
def stA : List Stmt := top0
def stB : List Stmt := top0.drop 7
def stC : List Stmt := stB.drop 8
def stD : List Stmt := stC.drop 8
def litsA : List (List Str) := [["b", "d", "f", "g", "k", "l", "m", "n", "p", "r", "s", "t"], ["a", "e", "i", "o", "u", "y", "å", "æ", "ø"], ["'", "a", "b", "c", "d", "f", "g", "h", "j", "k", "l", "m", "n", "o", "p", "r", "t", "v", "y", "z", "å"]]
def litsB : List (List Str) := [["a", "e", "i", "o", "u", "y", "å", "æ", "ê", "ò", "ó", "ô", "ø"], ["b", "c", "d", "f", "g", "h", "j", "l", "m", "n", "o", "p", "t", "v", "y", "z"]]
def litsC : List (List Str) := [["a", "e", "i", "o", "u", "y", "ä", "å", "ö"], ["b", "c", "d", "f", "g", "h", "j", "k", "l", "m", "n", "o", "p", "r", "t", "v", "y"], ["i", "k", "l", "n", "p", "r", "t", "u", "v"]]

theorem pc0 (P : Params) : viewTo (T_st1 P) (start0 P) = some (top0, env0, none, default, want (S_st1 P)) := by kernel_rfl
theorem pc1 (P : Params) (p : Pos) : viewU (T_st1 P) (run den2 prg P fuel ctx1 p (S_st1 P) (blockStart top0 env0)) = some (want (S_st1 P)) := by kernel_rfl
/-- a class body, from its head through its displays and b statements more -/
noncomputable def viewH (P : Params) (T : BT) (L : Ls Flow) (ds : List SD) (b : Nat) : Option ((List (Option Obj) × Nat × Nat) × List (List Str)) := match L with
  | .stop stmts cenv h _ p₁ S₁ => match run den2 prg P fuel (ctx1.enter (.body stmts cenv) h p₁) p₁ S₁ (blockStart stmts cenv) with
    | .ok _ p₂ S₂ => match runSets den2 prg P fuel (ctx1.enter (.body stmts cenv) h p₁) cenv ds stmts p₂ S₂ with
      | some (p₃, S₃, rest, l) => match run den2 prg P fuel (ctx1.enter (.body stmts cenv) h p₁) p₃ S₃ (execs (rest.take b) cenv) with
        | .ok .next _ S₄ => some (seen T S₄, l)
        | _ => none
      | none => none
    | _ => none
  | .no => none
/-- b statements of a class body behind the first a -/
noncomputable def viewG (P : Params) (T : BT) (L : Ls Flow) (a b : Nat) (p : Pos) (S : ST) : Option (List (Option Obj) × Nat × Nat) := match L with
  | .stop stmts cenv h _ p₁ _ => match run den2 prg P fuel (ctx1.enter (.body stmts cenv) h p₁) p S (execs ((stmts.drop a).take b) cenv) with
    | .ok .next _ S₄ => some (seen T S₄)
    | _ => none
  | .no => none
/-- the statements of a class body behind the first a, and the class made -/
noncomputable def viewE (P : Params) (T : BT) (L : Ls Flow) (a : Nat) (p : Pos) (S : ST) : Option (List (Option Obj) × Nat × Nat) := match L with
  | .stop stmts cenv h k p₁ _ => match run den2 prg P fuel (ctx1.enter (.body stmts cenv) h p₁) p S (execs (stmts.drop a) cenv) with
    | .ok .next _ S₄ => match run den2 prg P fuel ctx1 p₁ S₄ (k (.ok .next)) with
      | .ok .next _ S₅ => some (seen T S₅)
      | _ => none
    | _ => none
  | .no => none
def clA : Stmt := (stA.drop 6).headD (.Pass default)
def clB : Stmt := (stB.drop 7).headD (.Pass default)
def clC : Stmt := (stC.drop 7).headD (.Pass default)
noncomputable def headA (P : Params) (p : Pos) : Ls Flow := runTo den2 prg P fuel ctx1 p (S_b0 P) (exec clA env0)
noncomputable def headB (P : Params) (d0 d1 d2 : SD) (p : Pos) : Ls Flow := runTo den2 prg P fuel ctx1 p (S_b1 P d0 d1 d2) (exec clB env0)
noncomputable def headC (P : Params) (d0 d1 d2 d3 d4 : SD) (p : Pos) : Ls Flow := runTo den2 prg P fuel ctx1 p (S_b2 P d0 d1 d2 d3 d4) (exec clC env0)
theorem pcA0 (P : Params) (p : Pos) : viewN (T_b0 P) (run den2 prg P fuel ctx1 p (S_st1 P) (execs (stA.take 6) env0)) = some (want (S_b0 P)) := by kernel_rfl
theorem pcA1 (P : Params) (d0 d1 d2 : SD) (p : Pos) : viewH P (T_m0a P d0 d1 d2) (headA P p) [d0, d1, d2] 7 = some (want (S_m0a P d0 d1 d2), litsA) := by kernel_rfl
theorem pcA2 (P : Params) (d0 d1 d2 : SD) (p p' : Pos) : viewG P (T_m0b P d0 d1 d2) (headA P p) 10 1 p' (S_m0a P d0 d1 d2) = some (want (S_m0b P d0 d1 d2)) := by kernel_rfl
theorem pcA3 (P : Params) (d0 d1 d2 : SD) (p p' : Pos) : viewE P (T_sc0 P d0 d1 d2) (headA P p) 11 p' (S_m0b P d0 d1 d2) = some (want (S_sc0 P d0 d1 d2)) := by kernel_rfl
theorem pcB0 (P : Params) (d0 d1 d2 : SD) (p : Pos) : viewN (T_b1 P d0 d1 d2) (run den2 prg P fuel ctx1 p (S_sc0 P d0 d1 d2) (execs (stB.take 7) env0)) = some (want (S_b1 P d0 d1 d2)) := by kernel_rfl
theorem pcB1 (P : Params) (d0 d1 d2 d3 d4 : SD) (p : Pos) : viewH P (T_m1a P d0 d1 d2 d3 d4) (headB P d0 d1 d2 p) [d3, d4] 7 = some (want (S_m1a P d0 d1 d2 d3 d4), litsB) := by kernel_rfl
theorem pcB2 (P : Params) (d0 d1 d2 d3 d4 : SD) (p p' : Pos) : viewG P (T_m1b P d0 d1 d2 d3 d4) (headB P d0 d1 d2 p) 9 1 p' (S_m1a P d0 d1 d2 d3 d4) = some (want (S_m1b P d0 d1 d2 d3 d4)) := by kernel_rfl
theorem pcB3 (P : Params) (d0 d1 d2 d3 d4 : SD) (p p' : Pos) : viewE P (T_sc1 P d0 d1 d2 d3 d4) (headB P d0 d1 d2 p) 10 p' (S_m1b P d0 d1 d2 d3 d4) = some (want (S_sc1 P d0 d1 d2 d3 d4)) := by kernel_rfl
theorem pcC0 (P : Params) (d0 d1 d2 d3 d4 : SD) (p : Pos) : viewN (T_b2 P d0 d1 d2 d3 d4) (run den2 prg P fuel ctx1 p (S_sc1 P d0 d1 d2 d3 d4) (execs (stC.take 7) env0)) = some (want (S_b2 P d0 d1 d2 d3 d4)) := by kernel_rfl
theorem pcC1 (P : Params) (d0 d1 d2 d3 d4 d5 d6 d7 : SD) (p : Pos) : viewH P (T_m2a P d0 d1 d2 d3 d4 d5 d6 d7) (headC P d0 d1 d2 d3 d4 p) [d5, d6, d7] 8 = some (want (S_m2a P d0 d1 d2 d3 d4 d5 d6 d7), litsC) := by kernel_rfl
theorem pcC2 (P : Params) (d0 d1 d2 d3 d4 d5 d6 d7 : SD) (p p' : Pos) : viewG P (T_m2b P d0 d1 d2 d3 d4 d5 d6 d7) (headC P d0 d1 d2 d3 d4 p) 11 1 p' (S_m2a P d0 d1 d2 d3 d4 d5 d6 d7) = some (want (S_m2b P d0 d1 d2 d3 d4 d5 d6 d7)) := by kernel_rfl
theorem pcC3 (P : Params) (d0 d1 d2 d3 d4 d5 d6 d7 : SD) (p p' : Pos) : viewE P (T_sc2 P d0 d1 d2 d3 d4 d5 d6 d7) (headC P d0 d1 d2 d3 d4 p) 12 p' (S_m2b P d0 d1 d2 d3 d4 d5 d6 d7) = some (want (S_sc2 P d0 d1 d2 d3 d4 d5 d6 d7)) := by kernel_rfl
theorem pcD (P : Params) (d0 d1 d2 d3 d4 d5 d6 d7 : SD) (p : Pos) : viewN (T_send P d0 d1 d2 d3 d4 d5 d6 d7) (run den2 prg P fuel ctx1 p (S_sc2 P d0 d1 d2 d3 d4 d5 d6 d7) (execs stD env0)) = some (want (S_send P d0 d1 d2 d3 d4 d5 d6 d7)) := by kernel_rfl
theorem pcK (P : Params) (d0 d1 d2 d3 d4 d5 d6 d7 : SD) : viewK P (T_send P d0 d1 d2 d3 d4 d5 d6 d7) (S_send P d0 d1 d2 d3 d4 d5 d6 d7) (start0 P) = some (want (S_send P d0 d1 d2 d3 d4 d5 d6 d7)) := by kernel_rfl
end Sb
end

section
open PySem PySem.W PyProof.Rows
set_option Elab.async false
set_option maxRecDepth 100000
set_option linter.unusedVariables false
namespace Sb

section
variable {pr : Program} {w : World} {B : Shared} {den : Code → Sem Fin}
theorem runSets_rest {n : Nat} {Γ : Ctx} {env : Env} : ∀ (ds : List SD) (stmts : List Stmt) (p : Pos) (S : ST) {p' : Pos} {S' : ST} {rest : List Stmt} {l : List (List Str)}, runSets den pr w.params n Γ env ds stmts p S = some (p', S', rest, l) → rest = stmts.drop ds.length
  | [], stmts, p, S, p', S', rest, l, h => by
    unfold runSets at h
    cases h
    rfl
  | d :: ds, stmts, p, S, p', S', rest, l, h => by
    unfold runSets at h
    split at h
    · split at h
      · split at h
        · split at h
          · split at h
            · rename_i e
              cases h
              rw [runSets_rest ds _ _ _ e]
              rfl
            · cases h
          · cases h
        · cases h
      · cases h
    · cases h
end

section
variable {w : World} {B : Shared}
/-- a class statement whose body opens with displays, in three cuts -/
theorem cut_wp {c : Stmt} {k b1 b2 : Nat} {p : Pos} {S : ST} {s : Shared} {Q : Flow → Pos → Shared → Prop} {E : Value → Pos → Shared → Prop} {lits : List (List Str)} {Tm Tn Te : List SD → ST}
    (H1 : ∀ ds : List SD, ds.length = k → viewH w.params (Tm ds).tree (runTo den2 prg w.params fuel ctx1 p S (exec c env0)) ds b1 = some (want (Tm ds), lits))
    (H2 : ∀ (ds : List SD) (p' : Pos), ds.length = k → viewG w.params (Tn ds).tree (runTo den2 prg w.params fuel ctx1 p S (exec c env0)) (k + b1) b2 p' (Tm ds) = some (want (Tn ds)))
    (H3 : ∀ (ds : List SD) (p' : Pos), ds.length = k → viewE w.params (Te ds).tree (runTo den2 prg w.params fuel ctx1 p S (exec c env0)) (k + b1 + b2) p' (Tn ds) = some (want (Te ds)))
    (H : ∀ ds : List SD, ds.length = k → AllSets prg w lits ds → ∀ p' s', Rel B (Te ds) s' → Q .next p' s') (R : Rel B S s) : Sem.wp (model prg w) ctx1 (exec c env0) Q E p s := by
  have h0 := H1 (List.replicate k SD.none) (by simp)
  unfold viewH at h0
  split at h0
  · rename_i stmts cenv h kk p₁ S₁ e₁
    split at h0
    · rename_i u p₂ S₂ e₂
      clear h0
      refine runTo_wp (M := model prg w) (B := B) fuel Q E ctx1 p S _ s (by rw [show (model prg w).den = den2 from den2_eq]; exact e₁) R fun s₁ R₁ => ?_
      refine body_wp (B := B) den2_eq rfl e₂ R₁ fun s₂ R₂ => ?_
      refine runSets_wp (B := B) (n := fuel) den2_eq k stmts p₂ S₂ s₂ (fun ds hl => ?_) (fun ds p₃ S₃ rest l hl e₃ hA s₃ R₃ => ?_) R₂
      · have z := H1 ds hl
        unfold viewH at z
        simp only [e₁, e₂] at z
        split at z
        · exact ⟨_, ‹_›⟩
        · cases z
      · have z := H1 ds hl
        unfold viewH at z
        simp only [e₁, e₂, e₃] at z
        split at z
        · rename_i p₄ S₄ e₄
          obtain ⟨z1, z2⟩ := Prod.mk.inj (Option.some.inj z)
          subst z2
          have hr := runSets_rest (w := w) ds stmts p₂ S₂ e₃
          rw [hl] at hr
          subst hr
          refine execs_take b1 _ ?_
          refine run_wp (M := model prg w) fuel _ _ _ p₃ S₃ _ s₃ (B := B) ?_ R₃
          rw [show (model prg w).den = den2 from den2_eq, show (model prg w).prog = prg from rfl, show (model prg w).w = w from rfl, e₄]
          intro s₄ R₄
          dsimp only
          have R₄ : Rel B (Tm ds) s₄ := R₄.weak z1
          have y := H2 ds p₄ hl
          unfold viewG at y
          simp only [e₁] at y
          split at y
          · rename_i p₅ S₅ e₅
            rw [List.drop_drop]
            refine execs_take b2 _ ?_
            refine run_wp (M := model prg w) fuel _ _ _ p₄ (Tm ds) _ s₄ (B := B) ?_ R₄
            rw [show (model prg w).den = den2 from den2_eq, show (model prg w).prog = prg from rfl, show (model prg w).w = w from rfl, e₅]
            intro s₅ R₅
            dsimp only
            have R₅ : Rel B (Tn ds) s₅ := R₅.weak (Option.some.inj y)
            have x := H3 ds p₅ hl
            unfold viewE at x
            simp only [e₁] at x
            split at x
            · rename_i p₆ S₆ e₆
              split at x
              · rename_i p₇ S₇ e₇
                rw [List.drop_drop]
                refine run_wp (M := model prg w) fuel _ _ _ p₅ (Tn ds) _ s₅ (B := B) ?_ R₅
                rw [show (model prg w).den = den2 from den2_eq, show (model prg w).prog = prg from rfl, show (model prg w).w = w from rfl, e₆]
                intro s₆ R₆
                refine run_wp (M := model prg w) fuel _ _ _ p₁ S₆ _ s₆ (B := B) ?_ R₆
                rw [show (model prg w).den = den2 from den2_eq, show (model prg w).prog = prg from rfl, show (model prg w).w = w from rfl, e₇]
                intro s₇ R₇
                exact H ds hl hA p₇ s₇ (R₇.weak (Option.some.inj x))
              · cases x
            · cases x
          · cases y
        · cases z
    · cases h0
  · cases h0
theorem of_map {α β : Type} {o : Option α} {f : α → β} {b : β} (h : o.map f = some b) : ∃ a, o = some a ∧ f a = b := Option.map_eq_some_iff.mp h

/-- the sets that the top leaves -/
structure Sets (w : World) (d0 d1 d2 d3 d4 d5 d6 d7 : SD) : Prop where
  a : AllSets prg w litsA [d0, d1, d2]
  b : AllSets prg w litsB [d3, d4]
  c : AllSets prg w litsC [d5, d6, d7]

def EndsAt (B : Shared) (w : World) (s : Shared) : Prop := ∃ d0 d1 d2 d3 d4 d5 d6 d7, Sets w d0 d1 d2 d3 d4 d5 d6 d7 ∧ Rel B (S_send w.params d0 d1 d2 d3 d4 d5 d6 d7) s

theorem len3 {l : List SD} (h : l.length = 3) : ∃ a b c, l = [a, b, c] := by
  match l, h with
  | [a, b, c], _ => exact ⟨a, b, c, rfl⟩
theorem len2 {l : List SD} (h : l.length = 2) : ∃ a b, l = [a, b] := by
  match l, h with
  | [a, b], _ => exact ⟨a, b, rfl⟩

theorem topStub_wp {s : Shared} (R : Rel B (S_st0 w.params) s) : Sem.wp (model prg w) ctx0 (topStub prg).cur (fun fin _ s' => (∃ f, fin = .done f) ∧ EndsAt B w s') (fun _ _ _ => False) default s := by
  have h0 := pc0 w.params
  unfold viewTo at h0
  split at h0
  · rename_i stmts env h k p S e₀
    obtain ⟨z1, hz1⟩ := Prod.mk.inj (Option.some.inj h0)
    obtain ⟨z2, hz2⟩ := Prod.mk.inj hz1
    obtain ⟨z3, hz3⟩ := Prod.mk.inj hz2
    obtain ⟨z4, hz4⟩ := Prod.mk.inj hz3
    subst z1 z2 z3 z4
    refine runTo_wp (M := model prg w) (B := B) fuel _ _ ctx0 default (S_st0 w.params) _ s (by rw [show (model prg w).den = den2 from den2_eq]; exact e₀) R fun s₁ R₁ => ?_
    have R₁ : Rel B (S_st1 w.params) s₁ := R₁.weak hz4
    have h1 := pc1 w.params default
    unfold viewU at h1
    split at h1
    · rename_i u p₂ S₂ e₁
      refine body_wp (B := B) den2_eq rfl e₁ R₁ fun s₂ R₂ => ?_
      have R₂ : Rel B (S_st1 w.params) s₂ := R₂.weak (Option.some.inj h1)
      -- Danish
      have hA0 := pcA0 w.params p₂
      unfold viewN at hA0
      split at hA0
      · rename_i pa Sa ea
        refine execs_take 6 top0 ?_
        refine run_wp (M := model prg w) fuel _ _ ctx1 p₂ (S_st1 w.params) _ s₂ (B := B) ?_ R₂
        rw [show (model prg w).den = den2 from den2_eq, show (model prg w).prog = prg from rfl, show (model prg w).w = w from rfl]
        change Lf.Post B _ _ (run den2 prg w.params fuel ctx1 p₂ (S_st1 w.params) (execs (stA.take 6) env0))
        rw [ea]
        intro sa Ra
        have Ra : Rel B (S_b0 w.params) sa := Ra.weak (Option.some.inj hA0)
        dsimp only
        rw [show top0.drop 6 = clA :: stB from by kernel_rfl, execs_cons, Sem.wp_bind']
        refine cut_wp (B := B) (k := 3) (b1 := 7) (b2 := 1) (lits := litsA) (Tm := fun ds => S_m0a w.params (ds.getD 0 SD.none) (ds.getD 1 SD.none) (ds.getD 2 SD.none)) (Tn := fun ds => S_m0b w.params (ds.getD 0 SD.none) (ds.getD 1 SD.none) (ds.getD 2 SD.none)) (Te := fun ds => S_sc0 w.params (ds.getD 0 SD.none) (ds.getD 1 SD.none) (ds.getD 2 SD.none)) (fun ds hd => ?_) (fun ds p' hd => ?_) (fun ds p' hd => ?_) (fun ds hd hsA p₃ s₃ R₃ => ?_) Ra
        · obtain ⟨d0, d1, d2, rfl⟩ := len3 hd
          exact pcA1 w.params d0 d1 d2 pa
        · obtain ⟨d0, d1, d2, rfl⟩ := len3 hd
          exact pcA2 w.params d0 d1 d2 pa p'
        · obtain ⟨d0, d1, d2, rfl⟩ := len3 hd
          exact pcA3 w.params d0 d1 d2 pa p'
        obtain ⟨d0, d1, d2, rfl⟩ := len3 hd
        have R₃ : Rel B (S_sc0 w.params d0 d1 d2) s₃ := R₃
        dsimp only
        -- Norwegian
        have hB0 := pcB0 w.params d0 d1 d2 p₃
        unfold viewN at hB0
        split at hB0
        · rename_i pb Sb eb
          refine execs_take 7 stB ?_
          refine run_wp (M := model prg w) fuel _ _ ctx1 p₃ (S_sc0 w.params d0 d1 d2) _ s₃ (B := B) ?_ R₃
          rw [show (model prg w).den = den2 from den2_eq, show (model prg w).prog = prg from rfl, show (model prg w).w = w from rfl]
          change Lf.Post B _ _ (run den2 prg w.params fuel ctx1 p₃ (S_sc0 w.params d0 d1 d2) (execs (stB.take 7) env0))
          rw [eb]
          intro sb Rb
          have Rb : Rel B (S_b1 w.params d0 d1 d2) sb := Rb.weak (Option.some.inj hB0)
          dsimp only
          rw [show stB.drop 7 = clB :: stC from by kernel_rfl, execs_cons, Sem.wp_bind']
          refine cut_wp (B := B) (k := 2) (b1 := 7) (b2 := 1) (lits := litsB) (Tm := fun ds => S_m1a w.params d0 d1 d2 (ds.getD 0 SD.none) (ds.getD 1 SD.none)) (Tn := fun ds => S_m1b w.params d0 d1 d2 (ds.getD 0 SD.none) (ds.getD 1 SD.none)) (Te := fun ds => S_sc1 w.params d0 d1 d2 (ds.getD 0 SD.none) (ds.getD 1 SD.none)) (fun ds hd => ?_) (fun ds p' hd => ?_) (fun ds p' hd => ?_) (fun ds hd hsB p₄ s₄ R₄ => ?_) Rb
          · obtain ⟨d3, d4, rfl⟩ := len2 hd
            exact pcB1 w.params d0 d1 d2 d3 d4 pb
          · obtain ⟨d3, d4, rfl⟩ := len2 hd
            exact pcB2 w.params d0 d1 d2 d3 d4 pb p'
          · obtain ⟨d3, d4, rfl⟩ := len2 hd
            exact pcB3 w.params d0 d1 d2 d3 d4 pb p'
          obtain ⟨d3, d4, rfl⟩ := len2 hd
          have R₄ : Rel B (S_sc1 w.params d0 d1 d2 d3 d4) s₄ := R₄
          dsimp only
          -- Swedish
          have hC0 := pcC0 w.params d0 d1 d2 d3 d4 p₄
          unfold viewN at hC0
          split at hC0
          · rename_i pc Sc ec
            refine execs_take 7 stC ?_
            refine run_wp (M := model prg w) fuel _ _ ctx1 p₄ (S_sc1 w.params d0 d1 d2 d3 d4) _ s₄ (B := B) ?_ R₄
            rw [show (model prg w).den = den2 from den2_eq, show (model prg w).prog = prg from rfl, show (model prg w).w = w from rfl]
            change Lf.Post B _ _ (run den2 prg w.params fuel ctx1 p₄ (S_sc1 w.params d0 d1 d2 d3 d4) (execs (stC.take 7) env0))
            rw [ec]
            intro sc Rc
            have Rc : Rel B (S_b2 w.params d0 d1 d2 d3 d4) sc := Rc.weak (Option.some.inj hC0)
            dsimp only
            rw [show stC.drop 7 = clC :: stD from by kernel_rfl, execs_cons, Sem.wp_bind']
            refine cut_wp (B := B) (k := 3) (b1 := 8) (b2 := 1) (lits := litsC) (Tm := fun ds => S_m2a w.params d0 d1 d2 d3 d4 (ds.getD 0 SD.none) (ds.getD 1 SD.none) (ds.getD 2 SD.none)) (Tn := fun ds => S_m2b w.params d0 d1 d2 d3 d4 (ds.getD 0 SD.none) (ds.getD 1 SD.none) (ds.getD 2 SD.none)) (Te := fun ds => S_sc2 w.params d0 d1 d2 d3 d4 (ds.getD 0 SD.none) (ds.getD 1 SD.none) (ds.getD 2 SD.none)) (fun ds hd => ?_) (fun ds p' hd => ?_) (fun ds p' hd => ?_) (fun ds hd hsC p₅ s₅ R₅ => ?_) Rc
            · obtain ⟨d5, d6, d7, rfl⟩ := len3 hd
              exact pcC1 w.params d0 d1 d2 d3 d4 d5 d6 d7 pc
            · obtain ⟨d5, d6, d7, rfl⟩ := len3 hd
              exact pcC2 w.params d0 d1 d2 d3 d4 d5 d6 d7 pc p'
            · obtain ⟨d5, d6, d7, rfl⟩ := len3 hd
              exact pcC3 w.params d0 d1 d2 d3 d4 d5 d6 d7 pc p'
            obtain ⟨d5, d6, d7, rfl⟩ := len3 hd
            have R₅ : Rel B (S_sc2 w.params d0 d1 d2 d3 d4 d5 d6 d7) s₅ := R₅
            dsimp only
            -- the rest
            have hD := pcD w.params d0 d1 d2 d3 d4 d5 d6 d7 p₅
            unfold viewN at hD
            split at hD
            · rename_i p₆ S₆ e₆
              refine run_wp (M := model prg w) fuel _ _ ctx1 p₅ (S_sc2 w.params d0 d1 d2 d3 d4 d5 d6 d7) _ s₅ (B := B) ?_ R₅
              rw [show (model prg w).den = den2 from den2_eq, show (model prg w).prog = prg from rfl, show (model prg w).w = w from rfl]
              change Lf.Post B _ _ (run den2 prg w.params fuel ctx1 p₅ (S_sc2 w.params d0 d1 d2 d3 d4 d5 d6 d7) (execs stD env0))
              rw [e₆]
              intro s₆ R₆
              have R₆ : Rel B (S_send w.params d0 d1 d2 d3 d4 d5 d6 d7) s₆ := R₆.weak (Option.some.inj hD)
              have hK := pcK w.params d0 d1 d2 d3 d4 d5 d6 d7
              unfold viewK at hK
              rw [e₀] at hK
              dsimp only at hK
              split at hK
              · rename_i f p₇ S₇ e₇
                refine run_wp (M := model prg w) fuel _ _ ctx0 default (S_send w.params d0 d1 d2 d3 d4 d5 d6 d7) _ s₆ (B := B) ?_ R₆
                rw [show (model prg w).den = den2 from den2_eq, show (model prg w).prog = prg from rfl, show (model prg w).w = w from rfl, e₇]
                exact fun s₇ R₇ => ⟨⟨f, rfl⟩, d0, d1, d2, d3, d4, d5, d6, d7, ⟨hsA, hsB, hsC⟩, R₇.weak (Option.some.inj hK)⟩
              · cases hK
            · cases hD
          · cases hC0
        · cases hB0
      · cases hA0
    · cases h1
  · cases h0
end
end Sb
end

section
open PySem PySem.W PyProof.Rows
set_option Elab.async false
set_option maxRecDepth 100000
set_option linter.unusedVariables false
namespace Sb

section
variable {den : Code → Sem Fin} {pr : Program} {w : World}
/-- a run that comes to its end with no generator left: by the scheduler too -/
theorem sched_end {n : Nat} {s s' : Shared} {th : Thread} {f : Flow} {c : Code} {p : Pos} (hn : runNI den pr w n s th = .running s' ⟨.pure (.done f), c, p, []⟩) (hs : s.asleep) (hg : s'.gens = #[]) :
    ∃ σ τ, schedN den pr w n (.single s th) = .running (.single σ τ) ∧ through τ = true ∧ σ = s' ∧ σ.heap.life = s.heap.life := by
  obtain ⟨σ, τ, hr, hσ, hτ⟩ := runNI_running_real hn
  have e0 : σ = s' := by
    obtain ⟨e1, _, e3, e4, e5⟩ := Shared.forget_eq hσ
    obtain ⟨h1, g1, d1, t1, os1⟩ := σ
    obtain ⟨h2, g2, d2, t2, os2⟩ := s'
    have hgg : g1.map GenState.forget = g2.map GenState.forget := congrArg Shared.gens hσ
    simp only at hg
    subst hg
    have : g1 = #[] := by simpa using hgg
    subst this
    simpa [Shared.forget] using hσ
  subst e0
  obtain ⟨cur, code, pos, stack⟩ := τ
  simp only [Thread.forget, Thread.mk.injEq, forgetAll] at hτ
  obtain ⟨t1, t2, t3, t4⟩ := hτ
  have hst : stack = [] := by cases stack with | nil => rfl | cons x xs => simp at t4
  subst hst t1 t2 t3
  -- one step on: the halt
  have hl : leftWithCleanup σ.gens = false := by rw [hg]; simp [leftWithCleanup]
  have hq : Thread.loud ⟨.pure (.done f), code, pos, []⟩ = false := rfl
  have hN : runNI den pr w (n + 1) s th = .halted (.done f) σ := by
    have : ∀ (m : Nat) (a : Shared) (t : Thread), runNI den pr w m a t = .running σ ⟨.pure (.done f), code, pos, []⟩ → runNI den pr w (m + 1) a t = .halted (.done f) σ := by
      intro m
      induction m with
      | zero =>
        intro a t h
        injection h with h1 h2
        subst h1 h2
        unfold runNI
        rw [stepI_quiet _ _ _ hq]
        show (match finish (.done f) a with | .go s' t' => runNI den pr w 0 s' t' | .halt o s' => .halted o s') = _
        unfold finish
        rw [if_neg (by rw [hl]; exact Bool.false_ne_true)]
      | succ m ih =>
        intro a t h
        unfold runNI at h ⊢
        cases hs : stepI den pr w a t with
        | go s₂ t₂ => rw [hs] at h; exact ih _ _ h
        | halt o s₂ => rw [hs] at h; cases h
    exact this n s th hn
  obtain ⟨s'', hn', hf, hc⟩ := runNI_real den pr w hN rfl
  have hne : ∀ k s₂, runN den pr w k s th ≠ .halted (.unsupported "lifetime:generator-with-cleanup-left-suspended") s₂ := by
    intro k s₂ hk
    have a := runN_mono den pr w (n + 1) k s th _ s'' hn'
    have b := runN_mono den pr w k (n + 1) s th _ s₂ hk
    rw [Nat.add_comm, b] at a
    injection a with a1 _
    cases a1
  refine ⟨σ, _, (schedN_eq_runN den pr w s th hs ⟨hc, hne⟩ n).trans (congrArg Run.lift hr), rfl, rfl, ?_⟩
  have := runN_life den pr w hn'
  have hσ' : s''.heap = σ.heap := (Shared.forget_eq hf).1
  rw [← hσ', this]
end

/-- the heap's first seven objects at the top's end -/
noncomputable def smH (P : Params) : Heap := ⟨#[o0 P, o1 P, o2_3 P, o3_4 P, o4 P, o5 P, o6 P], {}⟩
theorem sm_boot (P : Params) : [0, 1, 4, 5, 6, 7, 8, 9, 10].map (fun a => (boot_heap P).get? a) = [0, 1, 4, 5, 6, 7, 8, 9, 10].map (fun a => some (match a with | 0 => o0 P | 1 => o1 P | 4 => o4 P | 5 => o5 P | 6 => o6 P | 7 => o7 P | 8 => o8 P | 9 => o9 P | _ => o10 P)) := by kernel_rfl
theorem send_low (P : Params) (d0 d1 d2 d3 d4 d5 d6 d7 : SD) : [0, 1, 2, 3, 4, 5, 6, 7, 8, 9, 10].map (fun a => (S_send P d0 d1 d2 d3 d4 d5 d6 d7).tree.get a) = [some (o0 P), some (o1 P), some (o2_3 P), some (o3_4 P), some (o4 P), some (o5 P), some (o6 P), some (o7 P), some (o8 P), some (o9 P), some (o10 P)] := by kernel_rfl
theorem sm_statics (P : Params) : staticsOk (importedModules prg.main.body) (boot_heap P) (smH P) = true := by kernel_rfl
theorem sm_acc (P : Params) : (smH P).accountedOkI (importedModules prg.main.body) = true := by kernel_rfl
theorem sm_names (P : Params) : namesBound prg (smH P) = true := by kernel_rfl
theorem sm_laid (P : Params) : laidKept (boot_heap P) (smH P) = true := by kernel_rfl
theorem sm_blt (P : Params) : (smH P).bltView = bltViewBooted := by kernel_rfl
theorem sm_isB (P : Params) : (smH P).isNs builtinsNs = true := by kernel_rfl
theorem sm_isG (P : Params) : (smH P).isNs mainGlobals = true := by kernel_rfl
theorem sm_main (P : Params) : globalOf (smH P) "__builtins__" = some (.ref 4) := by kernel_rfl
theorem sm_ann (P : Params) : globalOf (boot_heap P) "__annotations__" = some (.ref 6) := by kernel_rfl

/-- the same place in both heaps -/
theorem globalOf_at {h h' : Heap} (e : h.get? mainNs = h'.get? mainNs) (x : Str) : globalOf h x = globalOf h' x := by unfold globalOf; rw [e]
theorem staticOf_at {h h' : Heap} (e : h.get? cStatics = h'.get? cStatics) (x : Str) : staticOf h x = staticOf h' x := by unfold staticOf; rw [e]
theorem builtinOf_at {h h' : Heap} (e : h.get? builtinsNs = h'.get? builtinsNs) (x : Str) : builtinOf h x = builtinOf h' x := by unfold builtinOf; rw [e]

theorem lowS {P : Params} {d0 d1 d2 d3 d4 d5 d6 d7 : SD} {a : Nat} {o : Obj} (i : Nat) (h : [0, 1, 2, 3, 4, 5, 6, 7, 8, 9, 10][i]? = some a) (ho : [some (o0 P), some (o1 P), some (o2_3 P), some (o3_4 P), some (o4 P), some (o5 P), some (o6 P), some (o7 P), some (o8 P), some (o9 P), some (o10 P)][i]? = some (some o)) :
    (S_send P d0 d1 d2 d3 d4 d5 d6 d7).tree.get a = some o := by
  have := congrArg (·[i]?) (send_low P d0 d1 d2 d3 d4 d5 d6 d7)
  simp only [List.getElem?_map, h, ho, Option.map_some] at this
  exact Option.some.inj this

theorem fence_id (s : Shared) : fenceModules? prg s = some s := by rfl
theorem opening_plain : opening prg = plainProg prg.main.scope.names := by rfl

theorem low_cases (b : Nat) (h : b < 11) (h3 : b ≠ 3) (h2 : b ≠ 2) : b = 0 ∨ b = 1 ∨ b = 4 ∨ b = 5 ∨ b = 6 ∨ b = 7 ∨ b = 8 ∨ b = 9 ∨ b = 10 := by omega

theorem head (w : World) : (∃ s, AfterRun (opening prg) w s) ∧ ∀ s, AfterRun (opening prg) w s → ∃ s₀, fenceModules? prg s = some s₀ ∧ s₀.gens = #[] ∧ ∃ s₁, TopRan prg w s₀ s₁ ∧ s₁.asleep ∧ s₁.gens = #[] ∧ EndsAt s₀ w s₁ := by
  obtain ⟨s, hs, hv⟩ := Option.map_eq_some_iff.mp (boot_plain w prg.main.scope.names)
  rw [← opening_plain] at hs
  have A : AfterRun (opening prg) w s := AfterImport.of_importEnds (by rw [table_eq_tree]; exact hs)
  refine ⟨⟨s, A⟩, fun s' hs' => ?_⟩
  obtain rfl : s' = s := AfterImport.unique hs' A
  refine ⟨s', fence_id s', ?_⟩
  obtain ⟨hp, gs, dr, tk, os⟩ := s'
  simp only [Prod.mk.injEq] at hv
  obtain ⟨rfl, rfl, rfl, rfl⟩ := hv
  refine ⟨rfl, ?_⟩
  have z : Shared.asleep ⟨boot_heap w.params, { toList := [] }, boot_drawn, boot_toks, os⟩ := AfterImport.life hs'
  have R : Rel ⟨boot_heap w.params, { toList := [] }, boot_drawn, boot_toks, os⟩ (S_st0 w.params) ⟨boot_heap w.params, { toList := [] }, boot_drawn, boot_toks, os⟩ := by
    refine ⟨rfl, rfl, fun a o o' ho ha => ?_, rfl, rfl, rfl⟩
    have hk : (kept (T_st0 w.params)).map (fun p => (boot_heap w.params).get? p.1) = (kept (T_st0 w.params)).map (fun p => some p.2) := by kernel_rfl
    exact List.map_inj_left.mp hk _ (kept_get ho ha)
  obtain ⟨s₁, p', leaf, ⟨n, hn⟩, hl⟩ := wp_comes (Ctx.fits_of (.builtin "claim.caller" {}) []) (topStub prg).cur _ _ default _ (topStub_wp (w := w) R)
  rcases hl with ⟨a, rfl, ⟨f, rfl⟩, hE⟩ | ⟨e, _, he⟩
  · have hg : s₁.gens = #[] := by
      obtain ⟨_, _, _, _, _, _, _, _, _, R₁⟩ := hE
      exact R₁.gens
    obtain ⟨σ, τ, h1, h2, rfl, h4⟩ := sched_end (pr := prg) (w := w) hn z hg
    have z₁ : σ.asleep := Shared.asleep_of_life h4 z
    refine ⟨σ, ?_, z₁, hg, hE⟩
    obtain ⟨d0, d1, d2, d3, d4, d5, d6, d7, hS, R₁⟩ := hE
    have at_ : ∀ (i : Nat) (a : Nat) (o : Obj), [0, 1, 2, 3, 4, 5, 6, 7, 8, 9, 10][i]? = some a → [some (o0 w.params), some (o1 w.params), some (o2_3 w.params), some (o3_4 w.params), some (o4 w.params), some (o5 w.params), some (o6 w.params), some (o7 w.params), some (o8 w.params), some (o9 w.params), some (o10 w.params)][i]? = some (some o) →
        alive o = some o → σ.heap.get? a = some o := fun i a o h ho ha => R₁.tree a o o (lowS i h ho) ha
    have g0 := at_ 0 0 _ rfl rfl rfl
    have g2 := at_ 2 2 _ rfl rfl rfl
    have g3 := at_ 3 3 _ rfl rfl rfl
    have g4 := at_ 4 4 _ rfl rfl rfl
    have eG : σ.heap.get? mainNs = (smH w.params).get? mainNs := g3
    have eS : σ.heap.get? cStatics = (smH w.params).get? cStatics := g2
    have eB : σ.heap.get? builtinsNs = (smH w.params).get? builtinsNs := g0
    refine ⟨⟨n, τ, h1, h2⟩, h4, Shared.rest_eq R₁.os, fun b o hb hno => ?_, ?_, ?_, ?_, ?_, ?_, ?_, ?_, ?_⟩
    · have hlt : b < 11 := Heap.lt_size hb
      have n3 : b ≠ 3 := fun q => hno (.inl q)
      have n2 : b ≠ 2 := fun q => hno (.inr (.inl q))
      have low := sm_boot w.params
      simp only [List.map_cons, List.map_nil, List.cons.injEq, and_true] at low
      obtain ⟨l0, l1, l4, l5, l6, l7, l8, l9, l10⟩ := low
      have fin : ∀ (i : Nat) (o' : Obj), (boot_heap w.params).get? b = some o' → [0, 1, 2, 3, 4, 5, 6, 7, 8, 9, 10][i]? = some b → [some (o0 w.params), some (o1 w.params), some (o2_3 w.params), some (o3_4 w.params), some (o4 w.params), some (o5 w.params), some (o6 w.params), some (o7 w.params), some (o8 w.params), some (o9 w.params), some (o10 w.params)][i]? = some (some o') → alive o' = some o' → σ.heap.get? b = some o := fun i o' e1 e2 e3 e4 => by
        have : some o' = some o := e1.symm.trans hb
        cases this
        exact at_ i b _ e2 e3 e4
      have hcase := low_cases b hlt n3 n2
      rcases hcase with rfl | rfl | rfl | rfl | rfl | rfl | rfl | rfl | rfl
      · exact fin 0 _ l0 rfl rfl rfl
      · exact fin 1 _ l1 rfl rfl rfl
      · exact fin 4 _ l4 rfl rfl rfl
      · exact fin 5 _ l5 rfl rfl rfl
      · exact fin 6 _ l6 rfl rfl rfl
      · exact fin 7 _ l7 rfl rfl rfl
      · exact fin 8 _ l8 rfl rfl rfl
      · exact fin 9 _ l9 rfl rfl rfl
      · exact fin 10 _ l10 rfl rfl rfl
    · have := Heap.accountedI_of_ok (sm_acc w.params)
      intro key v hv
      rw [staticOf_at eS] at hv
      have h := this key v hv
      simp only [staticOf_at eS]
      exact h
    · have := statics_of_ok (sm_statics w.params)
      intro key
      rw [staticOf_at eS]
      exact this key
    · obtain ⟨o, es, k, a, b, c⟩ := Pin.keysAreStrs_of (sm_isG w.params)
      exact ⟨o, es, k, eG.trans a, b, c⟩
    · intro x hx
      rw [builtinOf_at eB]
      exact (Pin.builtinOf_eq (sm_isB w.params) x).trans (Heap.of_bltView (sm_isB w.params) (sm_blt w.params) x hx)
    · exact ⟨4, o4 w.params, (globalOf_at eG _).trans (sm_main _), g4, rfl, rfl⟩
    · rw [hg]
      intro g hg'
      simp at hg'
    · intro x v hx
      rw [globalOf_at eG] at hx
      exact names_of_bound (sm_names w.params) x v hx
    · intro x hx
      rw [globalOf_at eG]
      exact laid_of_kept (sm_laid w.params) x hx
  · exact he.elim
end Sb
end

section
open PySem PySem.W PyProof.Rows
set_option Elab.async false
set_option maxRecDepth 100000
set_option linter.unusedVariables false
namespace Sb
abbrev lawRow : OpenRow := PySem.Challenge.rw_bi0025_01.row

noncomputable def mgOf (P : Params) : Str → Option Value := (smH P).nsMap mainGlobals
noncomputable def mbOf (P : Params) : Str → Option Value := (smH P).nsMap builtinsNs
noncomputable def looseOf (P : Params) : List Str := (smH P).nsKeys mainGlobals

/-- what is known of a heap behind the top -/
def LawTop (w : World) (h : Heap) : Prop := ∃ d0 d1 d2 d3 d4 d5 d6 d7, Sets w d0 d1 d2 d3 d4 d5 d6 d7 ∧ (KS w.params d0 d1 d2 d3 d4 d5 d6 d7).In h ∧ TopRead prg (looseOf w.params) (mgOf w.params) (mbOf w.params) h

theorem ks_send (P : Params) (d0 d1 d2 d3 d4 d5 d6 d7 : SD) : (KS P d0 d1 d2 d3 d4 d5 d6 d7).map (fun p => (S_send P d0 d1 d2 d3 d4 d5 d6 d7).tree.get p.1) = (KS P d0 d1 d2 d3 d4 d5 d6 d7).map (fun p => some p.2) := by kernel_rfl
theorem ks_alive (P : Params) (d0 d1 d2 d3 d4 d5 d6 d7 : SD) : (KS P d0 d1 d2 d3 d4 d5 d6 d7).map (fun p => alive p.2) = (KS P d0 d1 d2 d3 d4 d5 d6 d7).map (fun p => some p.2) := by kernel_rfl

theorem lookup_mem {K : Frag} {a : Addr} {o : Obj} (h : K.lookup a = some o) : (a, o) ∈ K := by
  induction K with
  | nil => cases h
  | cons p K ih =>
    rw [show p = (p.1, p.2) from rfl, List.lookup_cons] at h
    split at h
    · rename_i hb
      cases h
      rw [eq_of_beq hb]
      exact .head _
    · exact .tail _ (ih h)

theorem nsAt {h h' : Heap} {a : Addr} {m : Str → Option Value} (n : h.Ns a m) (e : h'.get? a = h.get? a) : h'.Ns a m :=
  let ⟨o, es, ep, ho, r⟩ := n; ⟨o, es, ep, e.trans ho, r⟩

theorem sm_isS (P : Params) : (smH P).isNs cStatics = true := by kernel_rfl
theorem sm_noLim (P : Params) : (smH P).nsMap cStatics "sys.recursionlimit" = none := by kernel_rfl

theorem lawTop_of {w : World} {B s : Shared} (h : EndsAt B w s) : LawTop w s.heap := by
  obtain ⟨d0, d1, d2, d3, d4, d5, d6, d7, hS, R⟩ := h
  have g0 : s.heap.get? 0 = some (o0 w.params) := R.tree 0 _ _ (lowS 0 rfl rfl) rfl
  have g2 : s.heap.get? 2 = some (o2_3 w.params) := R.tree 2 _ _ (lowS 2 rfl rfl) rfl
  have g3 : s.heap.get? 3 = some (o3_4 w.params) := R.tree 3 _ _ (lowS 3 rfl rfl) rfl
  refine ⟨d0, d1, d2, d3, d4, d5, d6, d7, hS, fun a o ho => ?_, ?_, ?_, ?_, ?_, ?_⟩
  · have hm := lookup_mem ho
    exact R.tree a _ _ (List.map_inj_left.mp (ks_send w.params d0 d1 d2 d3 d4 d5 d6 d7) _ hm) (List.map_inj_left.mp (ks_alive w.params d0 d1 d2 d3 d4 d5 d6 d7) _ hm)
  · exact nsAt (.of_isNs (sm_isG w.params)) g3
  · exact nsAt (.of_isNs (sm_isB w.params)) g0
  · exact ⟨_, nsAt (.of_isNs (sm_isS w.params)) g2, sm_noLim w.params⟩
  · exact fun x hx => Heap.of_bltView (sm_isB w.params) (sm_blt w.params) x hx
  · exact fun x _ hl _ _ _ => Heap.nsMap_none hl
theorem LawTop.keeps {w : World} {h h' : Heap} (x : LawTop w h) (k : ∀ b o, h.get? b = some o → h'.get? b = some o) : LawTop w h' :=
  let ⟨d0, d1, d2, d3, d4, d5, d6, d7, a, b, c⟩ := x
  ⟨d0, d1, d2, d3, d4, d5, d6, d7, a, b.keeps k, c.keeps k⟩

def lawAddr : Addr := 999
/-- the call of law goes -/
def LawGoes : Prop := ∀ (w : World) (s : Shared), LawTop w s.heap → s.gens = #[] → ∀ (l : Addr) (o : Obj) (vs : Array Value) (n : Nat), s.heap.get? l = some o → o.cls = .type "list" → o.data = .seq vs n → (∀ v ∈ vs.toList, ∃ i t, v = .int i t) → vs.size ≤ 63 →
  wpAny (model prg w) callerA (PySem.call (.ref lawAddr) [.ref l]) (fun v s' => v = .bool true ∧ (∀ b o, s.heap.get? b = some o → s'.heap.get? b = some o) ∧ s'.os = s.os ∧ s'.gens = #[]) (fun _ _ => False) s

theorem law_bound (P : Params) : mgOf P "law" = some (.ref lawAddr) := by kernel_rfl
theorem law_def : prg.theDef "law" = some ((defTop 27).1, (defTop 27).2.1, (defTop 27).2.2) := by kernel_rfl
theorem law_obj (P : Params) (d0 d1 d2 d3 d4 d5 d6 d7 : SD) : (KS P d0 d1 d2 d3 d4 d5 d6 d7).lookup lawAddr = some (o999 P) := by kernel_rfl
theorem len63 {xs : List WData} (h : lawRow.toRowW.pre.holds lawRow.toRowW.records { args := [.list xs] } = true) : xs.length ≤ 63 := by
  have e : lawRow.toRowW.pre = .and (.not (.lt (.lit (.int 63)) (.len (.arg 0)))) (.lit (.bool true)) := by rfl
  rw [e] at h
  simp only [WTm.holds, WTm.value, List.getElem?_cons_zero] at h
  have z : W.less? (WData.int 63) (WData.int (xs.length : Int)) = some (decide ((63 : Int) < xs.length)) := rfl
  rw [z] at h
  by_cases q : (63 : Int) < xs.length
  · simp [q] at h
  · omega
theorem reads_len {h : Heap} {R : WRecords} {cl : Str → Option Addr} : ∀ {vs : List Value} {xs : List WData} {as : List Addr}, ReadsAllW R cl h vs xs as → vs.length = xs.length
  | _, _, _, .nil => rfl
  | _, _, _, .cons _ r => by rw [List.length_cons, List.length_cons, reads_len r]
theorem ints_of {h : Heap} {R : WRecords} {cl : Str → Option Addr} {e : WShape} (he : e.arms = [.int]) : ∀ {vs : List Value} {xs : List WData} {as : List Addr}, ReadsAllW R cl h vs xs as → WShape.hasItems R xs e = true → ∀ v ∈ vs, ∃ i t, v = .int i t
  | _, _, _, .nil, _, v, hv => nomatch hv
  | _, _, _, .cons r1 r2, hx, v, hv => by
    unfold WShape.hasItems at hx
    obtain ⟨h1, h2⟩ := Bool.and_eq_true_iff.mp hx
    rcases List.mem_cons.mp hv with rfl | hv
    · cases r1 <;> first | exact ⟨_, _, rfl⟩ | (exfalso; unfold WShape.has at h1; rw [he] at h1; simp at h1)
    · exact ints_of he r2 h2 v hv

theorem hold (H : LawGoes) (hw : lawRow.toRowW.promised) (k1 : lawRow.wellSaid = true) (ok : opensWell prg = true) (hb : prg.bare) : lawRow.Holds := by
  refine ⟨k1, hw, ⟨hb, ok, rfl⟩, hw.witness, fun w => ⟨(head w).1, fun s' hs' => ?_⟩⟩
  obtain ⟨s₀, hf, hg0, s, hT, hz, hgens, hE⟩ := (head w).2 s' hs'
  have LT := lawTop_of hE
  refine ⟨s₀, hf, hg0, s, hT, ?_, (fun x hx => nomatch hx), (fun x hx => nomatch hx), ?_⟩
  · intro n hn
    obtain rfl : n = "law" := by
      have : n ∈ [("law" : Str)] := hn
      simpa using this
    obtain ⟨d0, d1, d2, d3, d4, d5, d6, d7, hS, K, T⟩ := LT
    have hlaw : globalOf s.heap "law" = some (.ref lawAddr) := by
      have g3 : s.heap.get? mainNs = (smH w.params).get? mainNs := K 3 (o3_4 w.params) (by kernel_rfl)
      rw [globalOf_at g3, Pin.globalOf_eq (sm_isG w.params)]
      exact law_bound w.params
    exact ⟨lawAddr, o999 w.params, _, _, _, _, hlaw, K _ _ (law_obj ..), rfl, law_def, rfl, rfl, rfl, rfl, rfl, rfl, rfl, rfl, .inl ⟨by kernel_rfl, rfl⟩, [], by kernel_rfl, .inl ⟨rfl, rfl⟩⟩
  · refine ClaimW.callFrom_of_specG (c := lawRow.toRowW.claim) (tree := fun vs => do match ← nsGet mainNs lawRow.name with
      | some f => do ret (← PySem.call f vs)
      | none => unsupported "claim.caller:no-such-global") hz hgens fun args hpre hlay ord hord => ?_
    have hall := (pre_splitW (r := lawRow.toRowW) hpre).1
    obtain ⟨⟨vs, s₁⟩, hlaid⟩ := Option.isSome_iff_exists.mp (layAllW_isSome (R := lawRow.toRowW.records) (cl := classAt s.heap) (P := w.params) (ord := ord) (fun c hc => nomatch hc) args lawRow.toRowW.args s hall)
    have keeps := layAllW_keeps _ _ _ hlaid
    have hal := layAllW_rest _ _ _ hlaid
    obtain ⟨as, hrd, hin, hold⟩ := reads_layAllW hord _ _ _ hlaid hlay s₁.heap (fun _ _ e => e)
    have L : Laid lawRow.toRowW.records w s s₁ args vs as := ⟨⟨ord, hord, hlaid⟩, hrd, hin, hold, keeps, hal.1.trans hgens, hal.2.2.1⟩
    have LT₁ := LT.keeps keeps
    have hi := ident_freeW (r := lawRow.toRowW) rfl rfl rfl
    obtain ⟨d, r, rfl, hd, hr⟩ := hasAllW_cons hall
    have hr0 : r = [] := by cases r with | nil => rfl | cons _ _ => simp [WShape.hasAll] at hr
    subst hr0
    cases hrd with
    | cons r1 r2 =>
      cases r2
      rename_i v as₁
      cases r1 with
      | list ho hc hdt hrs =>
        rename_i a o vs' n xs as'
        have hint := ints_of (e := .int) rfl hrs (by
          unfold WShape.has at hd
          rw [show (WShape.list .int).arms = [.list .int] from rfl] at hd
          simpa using hd)
        have T := let ⟨_, _, _, _, _, _, _, _, _, _, T⟩ := LT₁; T
        refine ⟨_, s₁, hlaid, wpAny_bind (wpAny_nsGet T.g ?_)⟩
        rw [show mgOf w.params lawRow.name = some (.ref lawAddr) from law_bound w.params]
        refine wpAny_bind (wpAny_mono (H w s₁ LT₁ L.gens a o vs' n ho hc hdt hint (by
          have z := len63 (pre_splitW (r := lawRow.toRowW) hpre).2
          have z' := reads_len hrs
          rw [Array.length_toList] at z'
          omega)) (fun v s' g => wpAny_pure ?_) fun _ _ x => x.elim)
        obtain ⟨rfl, k, hos, hg⟩ := g
        have G : GoodWG lawRow.toRowW.claim (classAt s.heap) (ExcName.means s.heap) [.list xs] s₁ (.ok (.ret (.bool true))) s' := ⟨.inl ⟨_, .bool true, [], rfl, (fun cls => by rfl), .bool true, by kernel_rfl, fun _ => ⟨.nil, fun _ h => nomatch h⟩⟩, .of_keep k, hos, .of_eq hg⟩
        have z := G.laid (c := lawRow.toRowW.claim) rfl rfl hi L
        exact ⟨_, rfl, z.1, z.2.1, z.2.2, fun q => by cases q⟩
      | _ => exfalso; unfold WShape.has at hd; rw [show (WShape.list .int).arms = [.list .int] from rfl] at hd; simp at hd
end Sb
end

section
open PySem
set_option Elab.async false
set_option maxRecDepth 100000
set_option linter.constructorNameAsVariable false
set_option linter.unusedVariables false
set_option linter.unusedSimpArgs false
namespace Sb

/-- a text by its signs -/
abbrev st (l : List Nat) : Str := ⟨l.toArray⟩
@[simp] theorem st_len (l : List Nat) : (st l).length = l.length := by simp [Str.length]
@[simp] theorem st_cps (l : List Nat) : (st l).cps.toList = l := by simp
theorem of_st (s : Str) : st s.cps.toList = s := by obtain ⟨⟨l⟩⟩ := s; rfl
theorem getD_st (l : List Nat) (i : Nat) : (st l).cps.getD i 0 = l.getD i 0 := by
  simp [Array.getD, List.getD_eq_getElem?_getD]
  split <;> simp_all

theorem getA_set (x y : Loc) (v : MV) (l : List (Loc × MV)) : getA x (setA y v l) = if x = y then some v else getA x l := by
  induction l with
  | nil =>
    unfold setA getA
    by_cases h : y = x
    · rw [if_pos h, if_pos h.symm]
    · rw [if_neg h, if_neg (Ne.symm h)]; rfl
  | cons p r ih =>
    unfold setA
    by_cases q : p.1 = y
    · rw [if_pos q]
      unfold getA
      by_cases h : x = y
      · rw [if_pos h, if_pos h.symm]
      · rw [if_neg h, if_neg (Ne.symm h), if_neg (by rw [q]; exact Ne.symm h)]
    · rw [if_neg q]
      unfold getA
      by_cases h : p.1 = x
      · rw [if_pos h, if_pos h, if_neg (by rw [← h]; exact q)]
      · rw [if_neg h, if_neg h]; exact ih
theorem get_setL (σ : St) (x y : Loc) (v : MV) : getA x (σ.setL y v).loc = if x = y then some v else getA x σ.loc := getA_set x y v σ.loc
@[simp] theorem fld_setL (σ : St) (y : Loc) (v : MV) : (σ.setL y v).fld = σ.fld := rfl
@[simp] theorem loc_setF (σ : St) (y : Fld) (v : MV) : (σ.setF y v).loc = σ.loc := rfl

theorem idx_str {g : Sg} {W : List Nat} {i : Nat} (h : i < W.length) (hW : W.length ≤ bigLine) : idxV g (some (.str (st W))) (some (.int (i : Int))) = some (.str (st [W.getD i 0])) := by
  have h1 : (0 : Int) ≤ i ∧ (i : Int) < (st W).length ∧ (st W).length ≤ bigLine := by rw [st_len]; exact ⟨by omega, by omega, hW⟩
  unfold idxV
  simp only
  rw [if_pos h1, Int.toNat_natCast, getD_st]
  rfl
theorem ord_str (x : Nat) : ordV (some (.str (st [x]))) = some (.int (x : Int)) := rfl

/-- what the inner loop of the search does: texts from their ends -/
def cmpF : List Nat → List Nat → Nat → Int × Nat
  | _, [], n => (0, n)
  | [], _ :: _, n => (-1, n)
  | t :: T, x :: X, n => if t = x then cmpF T X (n + 1) else ((t : Int) - x, n)

section
variable {g : Sg} {M : Meths} {n : Nat}

theorem drop_cons {l : List Nat} {k : Nat} {x : Nat} {X : List Nat} (h : l.drop k = x :: X) : l[k]? = some x ∧ l.drop (k + 1) = X := by
  refine ⟨?_, ?_⟩
  · have := congrArg (·[0]?) h
    simpa using this
  · rw [← List.drop_drop, h]; rfl
theorem rev_get {l : List Nat} {k : Nat} {x : Nat} (h : l.reverse[k]? = some x) : k < l.length ∧ l[l.length - 1 - k]? = some x := by
  have hk : k < l.length := by
    have := (List.getElem?_eq_some_iff.mp h).1
    simpa using this
  refine ⟨hk, ?_⟩
  rw [List.getElem?_reverse hk] at h
  exact h

/-- the text that the search sees: from c down to lb -/
def textOf (W : List Nat) (lb c : Nat) : List Nat := ((W.take c).drop lb).reverse
theorem textOf_len {W : List Nat} {lb c : Nat} (h1 : lb ≤ c) (h2 : c ≤ W.length) : (textOf W lb c).length = c - lb := by
  unfold textOf; simp; omega
theorem textOf_get {W : List Nat} {lb c k x : Nat} (h2 : c ≤ W.length) (h : (textOf W lb c)[k]? = some x) : k < c - lb ∧ W[c - 1 - k]? = some x := by
  unfold textOf at h
  obtain ⟨h3, h4⟩ := rev_get h
  have hl : ((W.take c).drop lb).length = c - lb := by simp; omega
  rw [hl] at h3 h4
  refine ⟨h3, ?_⟩
  rw [List.getElem?_drop, List.getElem?_take_of_lt (by omega)] at h4
  rw [← h4]
  congr 1
  omega

/-- the search's own locals in the inner loop -/
structure Inn (g : Sg) (σ : St) (W : List Nat) (c lb : Nat) (w : Addr) (s : List Nat) (a b : Int) (k : Nat) : Prop where
  cur : getA .cur σ.fld = some (.str (st W))
  c : getA .c σ.loc = some (.int c)
  lb : getA .lb σ.loc = some (.int lb)
  wr : getA .w σ.loc = some (.ref w)
  amg : g.amg w = some (st s, a, b)
  common : getA .common σ.loc = some (.int k)
def Keep3 (σ σ' : St) : Prop := σ'.fld = σ.fld ∧ ∀ x : Loc, x ≠ .i2 → x ≠ .diff → x ≠ .common → getA x σ'.loc = getA x σ.loc
theorem Keep3.trans {a b c : St} (x : Keep3 a b) (y : Keep3 b c) : Keep3 a c := ⟨y.1.trans x.1, fun z h1 h2 h3 => (y.2 z h1 h2 h3).trans (x.2 z h1 h2 h3)⟩

theorem ex_one {b : IS} {r : List IS} {σ σ₁ : St} {o : Out} {σ₂ : St} (h1 : Ex g M n (.stm b σ .next σ₁)) (h2 : Ex g M n (.blk r σ₁ o σ₂)) : Ex g M n (.blk (b :: r) σ o σ₂) := .cons h1 h2

theorem inner {W : List Nat} {c lb : Nat} {w : Addr} {s : List Nat} {a b : Int} (hlb : lb ≤ c) (hc : c ≤ W.length) (hW : W.length ≤ bigLine) (hs : s.length ≤ bigLine) :
    ∀ (X : List Nat) (k : Nat) (σ : St), X = s.reverse.drop k → k ≤ c - lb → Inn g σ W c lb w s a b k → (X = [] → getA .diff σ.loc = some (.int 0)) →
    ∃ σ', Ex g M n (.down .i2 ((X.length : Int) - 1) P_find_turn σ .next σ') ∧ Keep3 σ σ' ∧ getA .diff σ'.loc = some (.int (cmpF ((textOf W lb c).drop k) X k).1) ∧ getA .common σ'.loc = some (.int (cmpF ((textOf W lb c).drop k) X k).2)
  | [], k, σ, hX, hk, I, hd => ⟨σ, .downE (by simp), ⟨rfl, fun _ _ _ _ => rfl⟩, by simp [cmpF, hd], by simp [cmpF, I.common]⟩
  | x :: X, k, σ, hX, hk, I, hd => by
    obtain ⟨e1, e2⟩ := drop_cons hX.symm
    obtain ⟨e3, e4⟩ := rev_get e1
    have hz : (((x :: X).length : Int) - 1) = ((s.length - 1 - k : Nat) : Int) := by
      have := congrArg List.length hX
      simp at this
      simp only [List.length_cons]
      omega
    have hpos : (0 : Int) ≤ ((x :: X).length : Int) - 1 := by rw [hz]; omega
    have hx2 : s.getD (s.length - 1 - k) 0 = x := by rw [List.getD_eq_getElem?_getD, e4]; rfl
    cases hT : (textOf W lb c).drop k with
    | nil =>
      have hkk : k = c - lb := by
        have h0 : (textOf W lb c).length ≤ k := List.drop_eq_nil_iff.mp hT
        rw [textOf_len hlb hc] at h0
        omega
      refine ⟨((σ.setL .i2 (.int (((x :: X).length : Int) - 1))).setL .diff (.int (-1))), .downB hpos ?_, ⟨rfl, fun y h1 h2 h3 => ?_⟩, ?_, ?_⟩
      · refine .stop (.iteT ?_ (.cons (.setL rfl) (.stop .brk rfl))) rfl
        simp only [ev, get_setL, I.c, I.common, I.lb, arI, eqV, reduceCtorEq, if_false]
        simp
        omega
      · rw [get_setL, if_neg h2, get_setL, if_neg h1]
      · rw [get_setL, if_pos rfl]; rfl
      · rw [get_setL, if_neg (by decide), get_setL, if_neg (by decide), I.common]; rfl
    | cons t T =>
      obtain ⟨f1, f2⟩ := drop_cons hT
      obtain ⟨f3, f4⟩ := textOf_get hc f1
      have ht2 : W.getD (c - 1 - k) 0 = t := by rw [List.getD_eq_getElem?_getD, f4]; rfl
      have ev1 : ∀ τ : St, τ = σ.setL .i2 (.int (((x :: X).length : Int) - 1)) → ev g τ (.eq (.sub (.loc .c) (.loc .common)) (.loc .lb)) = some (.bool false) := by
        rintro _ rfl
        simp only [ev, get_setL, I.c, I.common, I.lb, arI, eqV, reduceCtorEq, if_false]
        simp
        omega
      have ev2 : ∀ τ : St, τ = σ.setL .i2 (.int (((x :: X).length : Int) - 1)) → ev g τ (.sub (.ord (.idx fCur (.sub (.sub (.loc .c) n1) (.loc .common)))) (.ord (.idx (.amg .w .s) (.loc .i2)))) = some (.int ((t : Int) - x)) := by
        rintro _ rfl
        have i1 : ((c : Int) - 1 - (k : Int)) = ((c - 1 - k : Nat) : Int) := by omega
        simp only [ev, get_setL, fld_setL, I.cur, I.c, I.common, I.wr, I.amg, arI, Option.map_some, amf, reduceCtorEq, if_false, if_true, hz]
        rw [i1, idx_str (by omega) hW, idx_str (by omega) hs, ht2, hx2, ord_str, ord_str]
      by_cases htx : t = x
      · subst htx
        have I' : Inn g (((σ.setL .i2 (.int (((t :: X).length : Int) - 1))).setL .diff (.int 0)).setL .common (.int ((k : Int) + 1))) W c lb w s a b (k + 1) := by
          refine ⟨I.cur, ?_, ?_, ?_, I.amg, ?_⟩ <;> simp only [get_setL, reduceCtorEq, if_false, if_true, I.c, I.lb, I.wr] <;> simp
        obtain ⟨σ', h1, h2, h3, h4⟩ := inner hlb hc hW hs X (k + 1) _ e2.symm (by omega) I' (fun _ => by simp only [get_setL, reduceCtorEq, if_false, if_true])
        refine ⟨σ', ?_, ?_, ?_, ?_⟩
        · refine .downN hpos ?_ (σ₁ := ((σ.setL .i2 (.int (((t :: X).length : Int) - 1))).setL .diff (.int 0)).setL .common (.int ((k : Int) + 1))) ?_
          · refine .cons (.iteF (ev1 _ rfl) .nil) (.cons (.setL (v := .int 0) (by rw [ev2 _ rfl]; simp)) (.cons (.iteF ?_ .nil) (.cons (.augL ?_) .nil)))
            · simp only [ev, get_setL, reduceCtorEq, if_false, if_true, eqV, notV]
              simp
            · simp only [ev, get_setL, reduceCtorEq, if_false, if_true, I.common, addV]
          · have : (((t :: X).length : Int) - 1 - 1) = (X.length : Int) - 1 := by simp
            rw [this]
            exact h1
        · have K0 : Keep3 σ (((σ.setL .i2 (.int (((t :: X).length : Int) - 1))).setL .diff (.int 0)).setL .common (.int ((k : Int) + 1))) := ⟨rfl, fun y q1 q2 q3 => by rw [get_setL, if_neg q3, get_setL, if_neg q2, get_setL, if_neg q1]⟩
          exact K0.trans h2
        · rw [h3, f2]; simp [cmpF]
        · rw [h4, f2]; simp [cmpF]
      · refine ⟨((σ.setL .i2 (.int (((x :: X).length : Int) - 1))).setL .diff (.int ((t : Int) - x))), .downB hpos ?_, ⟨rfl, fun y h1 h2 h3 => ?_⟩, ?_, ?_⟩
        · refine .cons (.iteF (ev1 _ rfl) .nil) (.cons (.setL (ev2 _ rfl)) (.stop (.iteT ?_ (.stop .brk rfl)) rfl))
          simp only [ev, get_setL, reduceCtorEq, if_false, if_true, eqV, notV]
          simp
          omega
        · rw [get_setL, if_neg h2, get_setL, if_neg h1]
        · rw [get_setL, if_pos rfl]; simp [cmpF, htx]
        · rw [get_setL, if_neg (by decide), get_setL, if_neg (by decide), I.common]; simp [cmpF, htx]
end
end Sb
end

section
open PySem
set_option Elab.async false
set_option maxRecDepth 100000
set_option linter.constructorNameAsVariable false
set_option linter.unusedVariables false
set_option linter.unusedSimpArgs false
namespace Sb

abbrev Entry := List Nat × Int × Int
/-- the search's first loop -/
def findI (tbl : List Entry) (T : List Nat) : Nat → Nat → Nat → Nat → Nat → Bool → Option (Nat × Nat)
  | 0, _, _, _, _, _ => none
  | f + 1, i, j, ci, cj, fki => match tbl[i + (j - i) / 2]? with
    | none => none
    | some e => match Nat.ble (min ci cj) e.1.length with
      | false => none
      | true => match cmpF (T.drop (min ci cj)) (e.1.reverse.drop (min ci cj)) (min ci cj) with
      | (d, k) => match decide (d < 0) with
        | true => match decide (i + (j - i) / 2 - i ≤ 1) with
          | true => match decide (0 < i) || decide (i + (j - i) / 2 = i) || fki with
            | true => some (i, ci)
            | false => findI tbl T f i (i + (j - i) / 2) ci k true
          | false => findI tbl T f i (i + (j - i) / 2) ci k fki
        | false => match decide (j - (i + (j - i) / 2) ≤ 1) with
          | true => match decide (0 < i + (j - i) / 2) || decide (j = i + (j - i) / 2) || fki with
            | true => some (i + (j - i) / 2, k)
            | false => findI tbl T f (i + (j - i) / 2) j k cj true
          | false => findI tbl T f (i + (j - i) / 2) j k cj fki
/-- the second: down the links -/
def findJ (tbl : List Entry) (ci : Nat) : Nat → Nat → Option (Option (Nat × Int))
  | 0, _ => none
  | f + 1, i => match tbl[i]? with
    | none => none
    | some e => match Nat.ble e.1.length ci with
      | true => some (some (e.1.length, e.2.2))
      | false => match decide (e.2.1 < 0) with
        | true => some none
        | false => findJ tbl ci f e.2.1.toNat
def fb (tbl : List Entry) (T : List Nat) : Option (Option (Nat × Int)) := match findI tbl T 40 0 tbl.length 0 0 false with
  | some (i, ci) => findJ tbl ci 40 i
  | none => none

/-- a table of the top -/
structure Tab (g : Sg) (la : Addr) (tbl : List Entry) : Prop where
  lst : ∃ l, g.lst la = some l ∧ l.length = tbl.length ∧ ∀ (k : Nat) (e : Entry), tbl[k]? = some e → ∃ w, l[k]? = some w ∧ g.amg w = some (st e.1, e.2.1, e.2.2)
  small : tbl.length < 4096
  short : ∀ e ∈ tbl, e.1.length ≤ bigLine

theorem cmpF_le : ∀ (T X : List Nat) (n : Nat), (cmpF T X n).2 ≤ n + T.length
  | T, [], n => by simp [cmpF]
  | [], x :: X, n => by simp [cmpF]
  | t :: T, x :: X, n => by
    unfold cmpF
    by_cases h : t = x
    · rw [if_pos h]
      have := cmpF_le T X (n + 1)
      simp only [List.length_cons]
      omega
    · rw [if_neg h]; exact Nat.le_add_right _ _

section
variable {g : Sg} {M : Meths} {n : Nat}

structure Fst (σ : St) (f : List (Fld × MV)) (la : Addr) (c lb i j ci cj : Nat) (fki : Bool) : Prop where
  fld : σ.fld = f
  v : getA .v σ.loc = some (.ref la)
  c : getA .c σ.loc = some (.int c)
  lb : getA .lb σ.loc = some (.int lb)
  i : getA .i σ.loc = some (.int i)
  j : getA .j σ.loc = some (.int j)
  ci : getA .common_i σ.loc = some (.int ci)
  cj : getA .common_j σ.loc = some (.int cj)
  fki : getA .fki σ.loc = some (.bool fki)

theorem idx_lst {la : Addr} {l : List Addr} {k : Nat} {w : Addr} (hl : g.lst la = some l) (hk : l[k]? = some w) (hs : k < 4096) : idxV g (some (.ref la)) (some (.int (k : Int))) = some (.ref w) := by
  unfold idxV
  simp only
  rw [if_pos ⟨by omega, by omega⟩, hl, Int.toNat_natCast, Option.bind_some, hk]
  rfl
theorem shr_nat {a : Nat} (h : a < 4096) : shrV (some (.int (a : Int))) = some (.int ((a / 2 : Nat) : Int)) := by
  unfold shrV
  simp only
  rw [if_pos ⟨by omega, by omega⟩]
  congr 2

set_option maxHeartbeats 2000000 in
theorem first_turn {W : List Nat} {c lb i j ci cj : Nat} {fki : Bool} {f : List (Fld × MV)} {la : Addr} {tbl : List Entry} {σ : St} {e : Entry} (hlb : lb ≤ c) (hc : c ≤ W.length) (hW : W.length ≤ bigLine) (T : Tab g la tbl)
    (hcur : getA .cur f = some (.str (st W))) (S : Fst σ f la c lb i j ci cj fki) (hij : i ≤ j) (hj : j ≤ tbl.length) (hci : ci ≤ c - lb) (hcj : cj ≤ c - lb) (he : tbl[i + (j - i) / 2]? = some e) (hco : min ci cj ≤ e.1.length) :
    ∃ σ₁, (∀ o σ₂, Ex g M n (.blk [.ife (.lt (.loc .diff) n0) [.setL .j (.loc .k), .setL .common_j (.loc .common)] [.setL .i (.loc .k), .setL .common_i (.loc .common)],
        .ife (.le (.sub (.loc .j) (.loc .i)) n1) [.ife (.gt (.loc .i) n0) [.brk] [], .ife (.eq (.loc .j) (.loc .i)) [.brk] [], .ife (.loc .fki) [.brk] [], .setL .fki tt] []] σ₁ o σ₂) → Ex g M n (.blk P_find_1 σ o σ₂)) ∧
      Fst σ₁ f la c lb i j ci cj fki ∧ getA .k σ₁.loc = some (.int ((i + (j - i) / 2 : Nat) : Int)) ∧
      getA .diff σ₁.loc = some (.int (cmpF ((textOf W lb c).drop (min ci cj)) (e.1.reverse.drop (min ci cj)) (min ci cj)).1) ∧ getA .common σ₁.loc = some (.int (((cmpF ((textOf W lb c).drop (min ci cj)) (e.1.reverse.drop (min ci cj)) (min ci cj)).2 : Nat) : Int)) := by
  obtain ⟨l, hl, hll, hle⟩ := T.lst
  obtain ⟨w, hw, hamg⟩ := hle _ _ he
  have hk : i + (j - i) / 2 < tbl.length := (List.getElem?_eq_some_iff.mp he).1
  have hsm := T.small
  have hes : e.1.length ≤ bigLine := T.short e (List.mem_of_getElem? he)
  have ek : ∀ τ : St, τ = σ → ev g τ (.add (.loc .i) (.shr1 (.sub (.loc .j) (.loc .i)))) = some (.int ((i + (j - i) / 2 : Nat) : Int)) := by
    rintro _ rfl
    have h1 : ((j : Int) - i) = ((j - i : Nat) : Int) := by omega
    simp only [ev, S.i, S.j, arI, addV]
    rw [h1, shr_nat (by omega)]
    simp
  let σa := σ.setL .k (.int ((i + (j - i) / 2 : Nat) : Int))
  let σb := σa.setL .diff (.int 0)
  let σc := σb.setL .common (.int ((min ci cj : Nat) : Int))
  let σd := σc.setL .w (.ref w)
  have ga : ∀ x, getA x σd.loc = if x = .w then some (.ref w) else if x = .common then some (.int ((min ci cj : Nat) : Int)) else if x = .diff then some (.int 0) else if x = .k then some (.int ((i + (j - i) / 2 : Nat) : Int)) else getA x σ.loc := fun x => by
    rw [get_setL, get_setL, get_setL, get_setL]
  have I : Inn g σd W c lb w e.1 e.2.1 e.2.2 (min ci cj) := by
    refine ⟨by show getA .cur σ.fld = _; rw [S.fld]; exact hcur, ?_, ?_, ?_, hamg, ?_⟩ <;> rw [ga] <;> simp [S.c, S.lb]
  obtain ⟨σ₁, h1, h2, h3, h4⟩ := inner (g := g) (M := M) (n := n) hlb hc hW hes (e.1.reverse.drop (min ci cj)) (min ci cj) σd rfl (by omega) I (fun _ => by rw [ga]; simp)
  have old : ∀ x : Loc, x ≠ .i2 → x ≠ .diff → x ≠ .common → x ≠ .w → x ≠ .k → getA x σ₁.loc = getA x σ.loc := fun x q1 q2 q3 q4 q5 => by
    rw [h2.2 x q1 q2 q3, ga, if_neg q4, if_neg q3, if_neg q2, if_neg q5]
  refine ⟨σ₁, fun o σ₂ hx => ?_, ⟨by rw [h2.1]; exact S.fld, ?_, ?_, ?_, ?_, ?_, ?_, ?_, ?_⟩, ?_, h3, h4⟩
  · refine .cons (.setL (ek _ rfl)) (.cons (.setL rfl) (.cons (.setL (v := .int ((min ci cj : Nat) : Int)) ?_) (.cons (.setL (v := .ref w) ?_) (.cons (.forD (z := ((e.1.reverse.drop (min ci cj)).length : Int) - 1) ?_ ?_ ?_ h1) hx))))
    · simp only [ev, get_setL, reduceCtorEq, if_false, S.ci, S.cj, minV]
      congr 2
      split <;> omega
    · simp only [ev, get_setL, reduceCtorEq, if_false, if_true, S.v]
      exact idx_lst hl hw (by omega)
    · show ev g σd _ = _
      simp only [ev, ga, reduceCtorEq, if_false, if_true, hamg, Option.map_some, amf, lenV, arI, st_len]
      rw [if_pos hes]
      simp only [List.length_drop, List.length_reverse]
      congr 2
      omega
    · omega
    · simp only [List.length_drop, List.length_reverse]; unfold bigLine at hes; omega
  · rw [old .v (by decide) (by decide) (by decide) (by decide) (by decide)]; exact S.v
  · rw [old .c (by decide) (by decide) (by decide) (by decide) (by decide)]; exact S.c
  · rw [old .lb (by decide) (by decide) (by decide) (by decide) (by decide)]; exact S.lb
  · rw [old .i (by decide) (by decide) (by decide) (by decide) (by decide)]; exact S.i
  · rw [old .j (by decide) (by decide) (by decide) (by decide) (by decide)]; exact S.j
  · rw [old .common_i (by decide) (by decide) (by decide) (by decide) (by decide)]; exact S.ci
  · rw [old .common_j (by decide) (by decide) (by decide) (by decide) (by decide)]; exact S.cj
  · rw [old .fki (by decide) (by decide) (by decide) (by decide) (by decide)]; exact S.fki
  · rw [h2.2 .k (by decide) (by decide) (by decide), ga]; simp

theorem first_loop {W : List Nat} {c lb : Nat} {f : List (Fld × MV)} {la : Addr} {tbl : List Entry} {i' ci' : Nat} (hlb : lb ≤ c) (hc : c ≤ W.length) (hW : W.length ≤ bigLine) (T : Tab g la tbl)
    (hcur : getA .cur f = some (.str (st W))) : ∀ (fu i j ci cj : Nat) (fki : Bool) (σ : St), Fst σ f la c lb i j ci cj fki → i ≤ j → j ≤ tbl.length → ci ≤ c - lb → cj ≤ c - lb → findI tbl (textOf W lb c) fu i j ci cj fki = some (i', ci') →
    ∃ σ', Ex g M n (.loop tt P_find_1 σ .next σ') ∧ σ'.fld = f ∧ getA .v σ'.loc = some (.ref la) ∧ getA .c σ'.loc = some (.int c) ∧ getA .i σ'.loc = some (.int i') ∧ getA .common_i σ'.loc = some (.int ci')
  | 0, _, _, _, _, _, _, _, _, _, _, _, h => by cases h
  | fu + 1, i, j, ci, cj, fki, σ, S, hij, hj, hci, hcj, h => by
    unfold findI at h
    split at h
    · cases h
    · rename_i e he
      split at h
      · cases h
      · rename_i hco
        have hco : min ci cj ≤ e.1.length := Nat.le_of_ble_eq_true hco
        obtain ⟨σ₁, k1, S₁, k2, k3, k4⟩ := first_turn (g := g) (M := M) (n := n) hlb hc hW T hcur S hij hj hci hcj he hco
        have hle := cmpF_le ((textOf W lb c).drop (min ci cj)) (e.1.reverse.drop (min ci cj)) (min ci cj)
        have hle : (cmpF ((textOf W lb c).drop (min ci cj)) (e.1.reverse.drop (min ci cj)) (min ci cj)).2 ≤ c - lb := by
          rw [List.length_drop, textOf_len hlb hc] at hle
          omega
        generalize hq : cmpF ((textOf W lb c).drop (min ci cj)) (e.1.reverse.drop (min ci cj)) (min ci cj) = q at h k3 k4 hle
        obtain ⟨d, k⟩ := q
        dsimp only at h k3 k4 hle
        have hjk : i + (j - i) / 2 ≤ j := by omega
        have hklen : i + (j - i) / 2 < tbl.length := (List.getElem?_eq_some_iff.mp he).1
        by_cases hd : d < 0
        · rw [decide_eq_true hd] at h
          dsimp only at h
          let σ₂ := (σ₁.setL .j (.int ((i + (j - i) / 2 : Nat) : Int))).setL .common_j (.int (k : Int))
          have g2 : ∀ x, getA x σ₂.loc = if x = .common_j then some (.int (k : Int)) else if x = .j then some (.int ((i + (j - i) / 2 : Nat) : Int)) else getA x σ₁.loc := fun x => by rw [get_setL, get_setL]
          have S₂ : Fst σ₂ f la c lb i (i + (j - i) / 2) ci k fki := by
            refine ⟨S₁.fld, ?_, ?_, ?_, ?_, ?_, ?_, ?_, ?_⟩ <;> rw [g2] <;> simp [S₁.v, S₁.c, S₁.lb, S₁.i, S₁.ci, S₁.fki]
          have b1 : Ex g M n (.stm (.ife (.lt (.loc .diff) n0) [.setL .j (.loc .k), .setL .common_j (.loc .common)] [.setL .i (.loc .k), .setL .common_i (.loc .common)]) σ₁ .next σ₂) := by
            refine .iteT ?_ (.cons (.setL ?_) (.cons (.setL ?_) .nil))
            · simp only [ev, k3, cmpI]; rw [decide_eq_true hd]
            · exact k2
            · show getA Loc.common _ = _
              rw [get_setL, if_neg (by decide)]
              exact k4
          by_cases h1 : i + (j - i) / 2 - i ≤ 1
          · rw [decide_eq_true h1] at h
            dsimp only at h
            have e1 : ev g σ₂ (.le (.sub (.loc .j) (.loc .i)) n1) = some (.bool true) := by
              simp only [ev, S₂.i, S₂.j, arI, cmpI]
              congr 2
              exact decide_eq_true (by omega)
            split at h
            · rename_i hb
              cases h
              refine ⟨σ₂, .loopB rfl (k1 _ _ (.cons b1 (.stop (.iteT e1 ?_) rfl))), S₂.fld, S₂.v, S₂.c, S₂.i, S₂.ci⟩
              by_cases q1 : 0 < i'
              · exact .stop (.iteT (by simp only [ev, S₂.i, cmpI]; congr 2; exact decide_eq_true (by omega)) (.stop .brk rfl)) rfl
              · refine .cons (.iteF (by simp only [ev, S₂.i, cmpI]; congr 2; exact decide_eq_false (by omega)) .nil) ?_
                by_cases q2 : i' + (j - i') / 2 = i'
                · refine .stop (.iteT ?_ (.stop .brk rfl)) rfl
                  simp only [ev, S₂.i, S₂.j, eqV]
                  congr 2
                  exact beq_iff_eq.mpr (by omega)
                · refine .cons (.iteF ?_ .nil) (.stop (.iteT ?_ (.stop .brk rfl)) rfl)
                  · simp only [ev, S₂.i, S₂.j, eqV]
                    congr 2
                    have : ((i' + (j - i') / 2 : Nat) : Int) ≠ (i' : Int) := by omega
                    simpa using this
                  · have hf : fki = true := by (rw [decide_eq_false q1, decide_eq_false q2] at hb; simpa using hb)
                    simp only [ev, S₂.fki, hf]
            · rename_i hb
              simp only [Bool.or_eq_false_iff, decide_eq_false_iff_not] at hb
              obtain ⟨⟨q1, q2⟩, q3⟩ := hb
              let σ₃ := σ₂.setL .fki (.bool true)
              have S₃ : Fst σ₃ f la c lb i (i + (j - i) / 2) ci k true := by
                refine ⟨S₂.fld, ?_, ?_, ?_, ?_, ?_, ?_, ?_, ?_⟩ <;> rw [get_setL] <;> simp [S₂.v, S₂.c, S₂.lb, S₂.i, S₂.j, S₂.ci, S₂.cj]
              obtain ⟨σ', z1, z2⟩ := first_loop hlb hc hW T hcur fu i _ ci k true σ₃ S₃ (by omega) (by omega) hci hle h
              refine ⟨σ', .loopN rfl (k1 _ _ (.cons b1 (.cons (.iteT e1 ?_) .nil))) z1, z2⟩
              refine .cons (.iteF (by simp only [ev, S₂.i, cmpI]; congr 2; exact decide_eq_false (by omega)) .nil) (.cons (.iteF ?_ .nil) (.cons (.iteF ?_ .nil) (.cons (.setL rfl) .nil)))
              · simp only [ev, S₂.i, S₂.j, eqV]
                congr 2
                have : ((i + (j - i) / 2 : Nat) : Int) ≠ (i : Int) := by omega
                simpa using this
              · simp only [ev, S₂.fki, q3]
          · rw [decide_eq_false h1] at h
            dsimp only at h
            have e1 : ev g σ₂ (.le (.sub (.loc .j) (.loc .i)) n1) = some (.bool false) := by
              simp only [ev, S₂.i, S₂.j, arI, cmpI]
              congr 2
              exact decide_eq_false (by omega)
            obtain ⟨σ', z1, z2⟩ := first_loop hlb hc hW T hcur fu i _ ci k fki σ₂ S₂ (by omega) (by omega) hci hle h
            exact ⟨σ', .loopN rfl (k1 _ _ (.cons b1 (.cons (.iteF e1 .nil) .nil))) z1, z2⟩
        · rw [decide_eq_false hd] at h
          dsimp only at h
          generalize hK : i + (j - i) / 2 = K at h k2 hjk hklen
          let σ₂ := (σ₁.setL .i (.int (K : Int))).setL .common_i (.int (k : Int))
          have g2 : ∀ x, getA x σ₂.loc = if x = .common_i then some (.int (k : Int)) else if x = .i then some (.int (K : Int)) else getA x σ₁.loc := fun x => by rw [get_setL, get_setL]
          have S₂ : Fst σ₂ f la c lb K j k cj fki := by
            refine ⟨S₁.fld, ?_, ?_, ?_, ?_, ?_, ?_, ?_, ?_⟩ <;> rw [g2] <;> simp [S₁.v, S₁.c, S₁.lb, S₁.j, S₁.cj, S₁.fki]
          have b1 : Ex g M n (.stm (.ife (.lt (.loc .diff) n0) [.setL .j (.loc .k), .setL .common_j (.loc .common)] [.setL .i (.loc .k), .setL .common_i (.loc .common)]) σ₁ .next σ₂) := by
            refine .iteF ?_ (.cons (.setL ?_) (.cons (.setL ?_) .nil))
            · simp only [ev, k3, cmpI]; rw [decide_eq_false hd]
            · exact k2
            · show getA Loc.common _ = _
              rw [get_setL, if_neg (by decide)]
              exact k4
          by_cases h1 : j - K ≤ 1
          · rw [decide_eq_true h1] at h
            dsimp only at h
            have e1 : ev g σ₂ (.le (.sub (.loc .j) (.loc .i)) n1) = some (.bool true) := by
              simp only [ev, S₂.i, S₂.j, arI, cmpI]
              congr 2
              exact decide_eq_true (by omega)
            split at h
            · rename_i hb
              cases h
              refine ⟨σ₂, .loopB rfl (k1 _ _ (.cons b1 (.stop (.iteT e1 ?_) rfl))), S₂.fld, S₂.v, S₂.c, S₂.i, S₂.ci⟩
              by_cases q1 : 0 < i'
              · exact .stop (.iteT (by simp only [ev, S₂.i, cmpI]; congr 2; exact decide_eq_true (by omega)) (.stop .brk rfl)) rfl
              · refine .cons (.iteF (by simp only [ev, S₂.i, cmpI]; congr 2; exact decide_eq_false (by omega)) .nil) ?_
                by_cases q2 : j = i'
                · refine .stop (.iteT ?_ (.stop .brk rfl)) rfl
                  simp only [ev, S₂.i, S₂.j, eqV]
                  congr 2
                  exact beq_iff_eq.mpr (by omega)
                · refine .cons (.iteF ?_ .nil) (.stop (.iteT ?_ (.stop .brk rfl)) rfl)
                  · simp only [ev, S₂.i, S₂.j, eqV]
                    congr 2
                    have : (j : Int) ≠ (i' : Int) := by omega
                    simpa using this
                  · have hf : fki = true := by (rw [decide_eq_false q1, decide_eq_false q2] at hb; simpa using hb)
                    simp only [ev, S₂.fki, hf]
            · rename_i hb
              simp only [Bool.or_eq_false_iff, decide_eq_false_iff_not] at hb
              obtain ⟨⟨q1, q2⟩, q3⟩ := hb
              let σ₃ := σ₂.setL .fki (.bool true)
              have S₃ : Fst σ₃ f la c lb K j k cj true := by
                refine ⟨S₂.fld, ?_, ?_, ?_, ?_, ?_, ?_, ?_, ?_⟩ <;> rw [get_setL] <;> simp [S₂.v, S₂.c, S₂.lb, S₂.i, S₂.j, S₂.ci, S₂.cj]
              obtain ⟨σ', z1, z2⟩ := first_loop hlb hc hW T hcur fu K j k cj true σ₃ S₃ hjk hj hle hcj h
              refine ⟨σ', .loopN rfl (k1 _ _ (.cons b1 (.cons (.iteT e1 ?_) .nil))) z1, z2⟩
              refine .cons (.iteF (by simp only [ev, S₂.i, cmpI]; congr 2; exact decide_eq_false (by omega)) .nil) (.cons (.iteF ?_ .nil) (.cons (.iteF ?_ .nil) (.cons (.setL rfl) .nil)))
              · simp only [ev, S₂.i, S₂.j, eqV]
                congr 2
                have : (j : Int) ≠ (K : Int) := by omega
                simpa using this
              · simp only [ev, S₂.fki, q3]
          · rw [decide_eq_false h1] at h
            dsimp only at h
            have e1 : ev g σ₂ (.le (.sub (.loc .j) (.loc .i)) n1) = some (.bool false) := by
              simp only [ev, S₂.i, S₂.j, arI, cmpI]
              congr 2
              exact decide_eq_false (by omega)
            obtain ⟨σ', z1, z2⟩ := first_loop hlb hc hW T hcur fu K j k cj fki σ₂ S₂ hjk hj hle hcj h
            exact ⟨σ', .loopN rfl (k1 _ _ (.cons b1 (.cons (.iteF e1 .nil) .nil))) z1, z2⟩

/-- what the search answers, and the fields behind it -/
def resV : Option (Nat × Int) → Int
  | some x => x.2
  | none => 0
def resF (c : Nat) (f : List (Fld × MV)) : Option (Nat × Int) → List (Fld × MV)
  | some x => setA .cursor (.int ((c : Int) - x.1)) f
  | none => f
theorem second_loop {c ci : Nat} {f : List (Fld × MV)} {la : Addr} {tbl : List Entry} {r : Option (Nat × Int)} (T : Tab g la tbl) : ∀ (fu i : Nat) (σ : St), σ.fld = f → getA .v σ.loc = some (.ref la) → getA .c σ.loc = some (.int c) → getA .i σ.loc = some (.int i) → getA .common_i σ.loc = some (.int ci) → findJ tbl ci fu i = some r →
    ∃ σ', Ex g M n (.loop tt P_find_2 σ (.ret (.int (resV r))) σ') ∧ σ'.fld = resF c f r
  | 0, _, _, _, _, _, _, _, h => by cases h
  | fu + 1, i, σ, hf, hv, hc, hi, hci, h => by
    unfold findJ at h
    split at h
    · cases h
    · rename_i e he
      obtain ⟨l, hl, hll, hle⟩ := T.lst
      obtain ⟨w, hw, hamg⟩ := hle _ _ he
      have hes : e.1.length ≤ bigLine := T.short e (List.mem_of_getElem? he)
      have hi' : i < tbl.length := (List.getElem?_eq_some_iff.mp he).1
      have hsm := T.small
      let σ₁ := σ.setL .w (.ref w)
      have g1 : ∀ x, getA x σ₁.loc = if x = .w then some (.ref w) else getA x σ.loc := fun x => get_setL ..
      have b1 : Ex g M n (.stm (.setL .w (.idx (.loc .v) (.loc .i))) σ .next σ₁) := .setL (by simp only [ev, hv, hi]; exact idx_lst hl hw (by omega))
      have lenW : ev g σ₁ (.len (.amg .w .s)) = some (.int (e.1.length : Int)) := by
        simp only [ev, g1, if_true, hamg, Option.map_some, amf, lenV, st_len]
        rw [if_pos hes]
      split at h
      · rename_i hb
        cases h
        have hb : e.1.length ≤ ci := Nat.le_of_ble_eq_true hb
        refine ⟨σ₁.setF .cursor (.int ((c : Int) - e.1.length)), .loopR rfl (.cons b1 (.stop (.iteT ?_ (.cons (.setF ?_) (.stop (.ret ?_) rfl))) rfl)), by show setA _ _ σ.fld = _; rw [hf]; rfl⟩
        · have : ev g σ₁ (.loc .common_i) = some (.int (ci : Int)) := by simp only [ev, g1, reduceCtorEq, if_false, hci]
          rw [show ev g σ₁ (.ge (.loc .common_i) (.len (.amg .w .s))) = cmpI (fun x y => decide (y ≤ x)) (ev g σ₁ (.loc .common_i)) (ev g σ₁ (.len (.amg .w .s))) from rfl, this, lenW]
          simp only [cmpI]
          congr 2
          exact decide_eq_true (by omega)
        · have : ev g σ₁ (.loc .c) = some (.int (c : Int)) := by simp only [ev, g1, reduceCtorEq, if_false, hc]
          rw [show ev g σ₁ (.sub (.loc .c) (.len (.amg .w .s))) = arI (· - ·) (ev g σ₁ (.loc .c)) (ev g σ₁ (.len (.amg .w .s))) from rfl, this, lenW]
          rfl
        · simp only [ev, loc_setF, g1, if_true, hamg, Option.map_some, amf]
          rfl
      · rename_i hb
        have hb : ¬ e.1.length ≤ ci := fun q => by rw [Nat.ble_eq_true_of_le q] at hb; cases hb
        let σ₂ := σ₁.setL .i (.int e.2.1)
        have b2 : Ex g M n (.stm (.ife (.ge (.loc .common_i) (.len (.amg .w .s))) [.setF .cursor (.sub (.loc .c) (.len (.amg .w .s))), .ret (.amg .w .res)] []) σ₁ .next σ₁) := by
          refine .iteF ?_ .nil
          have : ev g σ₁ (.loc .common_i) = some (.int (ci : Int)) := by simp only [ev, g1, reduceCtorEq, if_false, hci]
          rw [show ev g σ₁ (.ge (.loc .common_i) (.len (.amg .w .s))) = cmpI (fun x y => decide (y ≤ x)) (ev g σ₁ (.loc .common_i)) (ev g σ₁ (.len (.amg .w .s))) from rfl, this, lenW]
          simp only [cmpI]
          congr 2
          exact decide_eq_false (by omega)
        have b3 : Ex g M n (.stm (.setL .i (.amg .w .sub)) σ₁ .next σ₂) := .setL (by simp only [ev, g1, if_true, hamg, Option.map_some, amf])
        by_cases hs : e.2.1 < 0
        · rw [decide_eq_true hs] at h
          dsimp only at h
          cases h
          refine ⟨σ₂, .loopR rfl (.cons b1 (.cons b2 (.cons b3 (.stop (.iteT ?_ (.stop (.ret rfl) rfl)) rfl)))), hf⟩
          show cmpI _ (getA Loc.i (σ₁.setL Loc.i (.int e.2.1)).loc) _ = _
          rw [get_setL, if_pos rfl]
          simp only [ev, cmpI]
          congr 2
          exact decide_eq_true hs
        · rw [decide_eq_false hs] at h
          dsimp only at h
          have hn : ((e.2.1.toNat : Nat) : Int) = e.2.1 := Int.toNat_of_nonneg (by omega)
          obtain ⟨σ', z1, z2⟩ := second_loop (c := c) (f := f) T fu e.2.1.toNat σ₂ hf (by rw [get_setL, if_neg (by decide), g1, if_neg (by decide), hv]) (by rw [get_setL, if_neg (by decide), g1, if_neg (by decide), hc]) (by rw [get_setL, if_pos rfl, hn]) (by rw [get_setL, if_neg (by decide), g1, if_neg (by decide), hci]) h
          refine ⟨σ', .loopN rfl (.cons b1 (.cons b2 (.cons b3 (.cons (.iteF ?_ .nil) .nil)))) z1, z2⟩
          show cmpI _ (getA Loc.i (σ₁.setL Loc.i (.int e.2.1)).loc) _ = _
          rw [get_setL, if_pos rfl]
          simp only [ev, cmpI]
          congr 2
          exact decide_eq_false hs

theorem find_ex {W : List Nat} {c lb : Nat} {f : List (Fld × MV)} {la : Addr} {tbl : List Entry} {r : Option (Nat × Int)} (hM : M .find_b = some ([.v], P_find_b)) (T : Tab g la tbl) (hlb : lb ≤ c) (hc : c ≤ W.length) (hW : W.length ≤ bigLine)
    (hcur : getA .cur f = some (.str (st W))) (hcc : getA .cursor f = some (.int c)) (hl : getA .lb f = some (.int lb)) (h : fb tbl (textOf W lb c) = some r) :
    Ex g M (n + 1) (.mth .find_b [.ref la] f (.int (resV r)) (resF c f r)) := by
  unfold fb at h
  split at h
  · rename_i i ci hI
    obtain ⟨l, hl', hll, _⟩ := T.lst
    let σ₀ : St := ⟨f, [Loc.v].zip [MV.ref la]⟩
    let σ₁ := ((((((σ₀.setL .i (.int 0)).setL .j (.int (tbl.length : Int))).setL .c (.int (c : Int))).setL .lb (.int (lb : Int))).setL .common_i (.int 0)).setL .common_j (.int 0)).setL .fki (.bool false)
    have S : Fst σ₁ f la c lb 0 tbl.length 0 0 false := by
      refine ⟨rfl, ?_, ?_, ?_, ?_, ?_, ?_, ?_, ?_⟩ <;> simp only [σ₁, get_setL, reduceCtorEq, if_false, if_true] <;> rfl
    obtain ⟨σ₂, z1, z2, z3, z4, z5, z6⟩ := first_loop (g := g) (M := M) (n := n) hlb hc hW T hcur 40 0 tbl.length 0 0 false σ₁ S (Nat.zero_le _) (Nat.le_refl _) (Nat.zero_le _) (Nat.zero_le _) hI
    obtain ⟨σ₃, y1, y2⟩ := second_loop (g := g) (M := M) (n := n) T 40 i σ₂ z2 z3 z4 z5 z6 h
    rw [← y2]
    refine .mthR hM rfl (.cons (.setL rfl) (.cons (.setL (v := .int (tbl.length : Int)) ?_) (.cons (.setL (v := .int (c : Int)) ?_) (.cons (.setL (v := .int (lb : Int)) ?_) (.cons (.setL rfl) (.cons (.setL rfl) (.cons (.setL rfl) (.cons (.whil z1) (.stop (.whil y1) rfl)))))))))
    · simp only [ev, get_setL, reduceCtorEq, if_false]
      show lenV g (some (.ref la)) = _
      unfold lenV
      simp only
      rw [hl', Option.map_some, hll]
    · simp only [ev, fld_setL]; exact hcc
    · simp only [ev, fld_setL]; exact hl
  · cases h
end
end Sb
end

section
open PySem
set_option Elab.async false
set_option maxRecDepth 100000
set_option linter.constructorNameAsVariable false
set_option linter.unusedVariables false
set_option linter.unusedSimpArgs false
namespace Sb

/-- the seven fields -/
abbrev F (W : List Nat) (c l b br k : Int) (q : MV) : List (Fld × MV) := [(.cur, .str (st W)), (.cursor, .int c), (.limit, .int l), (.lb, .int b), (.bra, .int br), (.ket, .int k), (.p1, q)]
abbrev F6 (W : List Nat) (c l b br k : Int) : List (Fld × MV) := [(.cur, .str (st W)), (.cursor, .int c), (.limit, .int l), (.lb, .int b), (.bra, .int br), (.ket, .int k)]

structure Base (M : Meths) : Prop where
  init : M .init = some ([], P_init)
  set_current : M .set_current = some ([.value], P_set_current)
  get_current : M .get_current = some ([], P_get_current)
  go_in : M .go_in = some ([.s], P_go_in)
  go_out : M .go_out = some ([.s], P_go_out)
  in_b : M .in_b = some ([.s], P_in_b)
  out_b : M .out_b = some ([.s], P_out_b)
  eq_s_b : M .eq_s_b = some ([.s], P_eq_s_b)
  find_b : M .find_b = some ([.v], P_find_b)
  replace_s : M .replace_s = some ([.c_bra, .c_ket, .s], P_replace_s)
  slice_from : M .slice_from = some ([.s], P_slice_from)
  slice_del : M .slice_del = some ([], P_slice_del)
  slice_to : M .slice_to = some ([], P_slice_to)
  stemWord : M .stemWord = some ([.word], P_stemWord)
theorem base_of_meths (k : Cls) : Base (meths k) := by cases k <;> exact ⟨rfl, rfl, rfl, rfl, rfl, rfl, rfl, rfl, rfl, rfl, rfl, rfl, rfl, rfl⟩

section
variable {g : Sg} {M : Meths} {n : Nat}

theorem len_str {W : List Nat} (h : W.length ≤ bigLine) : lenV g (some (.str (st W))) = some (.int (W.length : Int)) := by
  unfold lenV; simp only [st_len]; rw [if_pos h]
theorem bool_of {e : IX} {σ : St} {b c : Bool} (h : ev g σ e = some (.bool b)) (hb : b = c) : ev g σ e = some (.bool c) := by rw [h, hb]

theorem set_current_ex (hM : Base M) {W w : List Nat} {c l b br k : Int} {q : MV} (hw : w.length ≤ bigLine) : Ex g M (n + 1) (.mth .set_current [.str (st w)] (F W c l b br k q) .none (F w 0 w.length 0 0 w.length q)) :=
  .mthN (σ' := ⟨F w 0 w.length 0 0 w.length q, [(.value, .str (st w))]⟩) hM.set_current rfl (.cons (.setF (v := .str (st w)) rfl) (.cons (.setF (v := .int 0) rfl) (.cons (.setF (v := .int w.length) (len_str hw)) (.cons (.setF (v := .int 0) rfl) (.cons (.setF (v := .int 0) rfl) (.cons (.setF (v := .int w.length) rfl) .nil))))))
theorem set_current_ex6 (hM : Base M) {W w : List Nat} {c l b br k : Int} (hw : w.length ≤ bigLine) : Ex g M (n + 1) (.mth .set_current [.str (st w)] (F6 W c l b br k) .none (F6 w 0 w.length 0 0 w.length)) :=
  .mthN (σ' := ⟨F6 w 0 w.length 0 0 w.length, [(.value, .str (st w))]⟩) hM.set_current rfl (.cons (.setF (v := .str (st w)) rfl) (.cons (.setF (v := .int 0) rfl) (.cons (.setF (v := .int w.length) (len_str hw)) (.cons (.setF (v := .int 0) rfl) (.cons (.setF (v := .int 0) rfl) (.cons (.setF (v := .int w.length) rfl) .nil))))))
theorem init_ex (hM : Base M) : Ex g M (n + 2) (.mth .init [] [] .none (F6 [] 0 0 0 0 0)) := by
  have h : Ex g M (n + 1) (.mth .set_current [.str ""] [] .none (F6 [] 0 0 0 0 0)) :=
    .mthN (σ' := ⟨F6 [] 0 0 0 0 0, [(.value, .str (st []))]⟩) hM.set_current rfl (.cons (.setF (v := .str (st [])) (by rfl)) (.cons (.setF (v := .int 0) rfl) (.cons (.setF (v := .int 0) (len_str (W := []) (by decide))) (.cons (.setF (v := .int 0) rfl) (.cons (.setF (v := .int 0) rfl) (.cons (.setF (v := .int 0) rfl) .nil))))))
  exact .mthN (σ' := ⟨F6 [] 0 0 0 0 0, []⟩) hM.init rfl (.cons (.call (vs := [.str ""]) rfl h) .nil)
theorem get_current_ex (hM : Base M) {W : List Nat} {c l b br k : Int} {q : MV} : Ex g M (n + 1) (.mth .get_current [] (F W c l b br k q) (.str (st W)) (F W c l b br k q)) :=
  .mthR (σ' := ⟨F W c l b br k q, []⟩) hM.get_current rfl (.stop (.ret rfl) rfl)

/-- a sign is in a set -/
def inS (S : List Str) (x : Nat) : Bool := S.contains (st [x])

theorem idxN {W : List Nat} {i : Nat} {z : Int} (hz : z = i) (h : i < W.length) (hW : W.length ≤ bigLine) : idxV g (some (.str (st W))) (some (.int z)) = some (.str (st [W.getD i 0])) := by rw [hz]; exact idx_str h hW
theorem in_set {s : Addr} {S : List Str} {x : Nat} (hs : g.set s = some S) : inV g (some (.str (st [x]))) (some (.ref s)) = some (.bool (inS S x)) := by
  unfold inV; simp only [hs]; rfl

theorem go_out_loop {W : List Nat} {l b br k : Int} {q : MV} {s : Addr} {S : List Str} {j : Nat} (hs : g.set s = some S) (hW : W.length ≤ bigLine) (hj : j < W.length) (hl : (j : Int) < l) (hin : inS S (W.getD j 0) = true) :
    ∀ (d c : Nat), c + d = j → (∀ i, c ≤ i → i < j → inS S (W.getD i 0) = false) →
    Ex g M n (.loop (.lt fC fL) [.ife (.inn (.idx fCur fC) lS) [.ret tt] [], .augF .cursor true n1] ⟨F W c l b br k q, [(.s, .ref s)]⟩ (.ret (.bool true)) ⟨F W j l b br k q, [(.s, .ref s)]⟩)
  | 0, c, hc, _ => by
    obtain rfl : c = j := by omega
    refine .loopR (bool_of (b := decide ((c : Int) < l)) rfl (decide_eq_true hl)) (.stop (.iteT ?_ (.stop (.ret rfl) rfl)) rfl)
    show inV g (idxV g (some (.str (st W))) (some (.int (c : Int)))) (some (.ref s)) = _
    rw [idx_str hj hW, in_set hs, hin]
  | d + 1, c, hc, hno => by
    have hcj : c < j := by omega
    refine .loopN (bool_of (b := decide ((c : Int) < l)) rfl (decide_eq_true (by omega))) (.cons (.iteF ?_ .nil) (.cons (.augF (v := (c : Int) + 1) rfl) .nil)) (σ₁ := ⟨F W ((c : Int) + 1) l b br k q, [(.s, .ref s)]⟩) ?_
    · show inV g (idxV g (some (.str (st W))) (some (.int (c : Int)))) (some (.ref s)) = _
      rw [idx_str (by omega) hW, in_set hs, hno c (Nat.le_refl _) hcj]
    · have := go_out_loop (b := b) (br := br) (k := k) (q := q) hs hW hj hl hin d (c + 1) (by omega) (fun i h1 h2 => hno i (by omega) h2)
      rw [show ((c + 1 : Nat) : Int) = (c : Int) + 1 from by omega] at this
      exact this
theorem go_out_ex (hM : Base M) {W : List Nat} {l b br k : Int} {q : MV} {s : Addr} {S : List Str} {c j : Nat} (hs : g.set s = some S) (hW : W.length ≤ bigLine) (hcj : c ≤ j) (hj : j < W.length) (hl : (j : Int) < l) (hin : inS S (W.getD j 0) = true)
    (hno : ∀ i, c ≤ i → i < j → inS S (W.getD i 0) = false) : Ex g M (n + 1) (.mth .go_out [.ref s] (F W c l b br k q) (.bool true) (F W j l b br k q)) :=
  .mthR (σ' := ⟨F W j l b br k q, [(.s, .ref s)]⟩) hM.go_out rfl (.stop (.whil (go_out_loop hs hW hj hl hin (j - c) c (by omega) hno)) rfl)

theorem go_in_loop {W : List Nat} {l b br k : Int} {q : MV} {s : Addr} {S : List Str} {j : Nat} (hs : g.set s = some S) (hW : W.length ≤ bigLine) (hj : j < W.length) (hl : (j : Int) < l) (hin : inS S (W.getD j 0) = false) :
    ∀ (d c : Nat), c + d = j → (∀ i, c ≤ i → i < j → inS S (W.getD i 0) = true) →
    Ex g M n (.loop (.lt fC fL) [.ife (.notin (.idx fCur fC) lS) [.ret tt] [], .augF .cursor true n1] ⟨F W c l b br k q, [(.s, .ref s)]⟩ (.ret (.bool true)) ⟨F W j l b br k q, [(.s, .ref s)]⟩)
  | 0, c, hc, _ => by
    obtain rfl : c = j := by omega
    refine .loopR (bool_of (b := decide ((c : Int) < l)) rfl (decide_eq_true hl)) (.stop (.iteT ?_ (.stop (.ret rfl) rfl)) rfl)
    show notV (inV g (idxV g (some (.str (st W))) (some (.int (c : Int)))) (some (.ref s))) = _
    rw [idx_str hj hW, in_set hs, hin]; rfl
  | d + 1, c, hc, hno => by
    have hcj : c < j := by omega
    refine .loopN (bool_of (b := decide ((c : Int) < l)) rfl (decide_eq_true (by omega))) (.cons (.iteF ?_ .nil) (.cons (.augF (v := (c : Int) + 1) rfl) .nil)) (σ₁ := ⟨F W ((c : Int) + 1) l b br k q, [(.s, .ref s)]⟩) ?_
    · show notV (inV g (idxV g (some (.str (st W))) (some (.int (c : Int)))) (some (.ref s))) = _
      rw [idx_str (by omega) hW, in_set hs, hno c (Nat.le_refl _) hcj]; rfl
    · have := go_in_loop (b := b) (br := br) (k := k) (q := q) hs hW hj hl hin d (c + 1) (by omega) (fun i h1 h2 => hno i (by omega) h2)
      rw [show ((c + 1 : Nat) : Int) = (c : Int) + 1 from by omega] at this
      exact this
theorem go_in_ex (hM : Base M) {W : List Nat} {l b br k : Int} {q : MV} {s : Addr} {S : List Str} {c j : Nat} (hs : g.set s = some S) (hW : W.length ≤ bigLine) (hcj : c ≤ j) (hj : j < W.length) (hl : (j : Int) < l) (hin : inS S (W.getD j 0) = false)
    (hno : ∀ i, c ≤ i → i < j → inS S (W.getD i 0) = true) : Ex g M (n + 1) (.mth .go_in [.ref s] (F W c l b br k q) (.bool true) (F W j l b br k q)) :=
  .mthR (σ' := ⟨F W j l b br k q, [(.s, .ref s)]⟩) hM.go_in rfl (.stop (.whil (go_in_loop hs hW hj hl hin (j - c) c (by omega) hno)) rfl)

/-- in_grouping_b: by the sign before the cursor -/
theorem in_b_no (hM : Base M) {W : List Nat} {c l b br k : Int} {q : MV} {s : Addr} (h : c ≤ b) : Ex g M (n + 1) (.mth .in_b [.ref s] (F W c l b br k q) (.bool false) (F W c l b br k q)) :=
  .mthR (σ' := ⟨F W c l b br k q, [(.s, .ref s)]⟩) hM.in_b rfl (.stop (.iteT (bool_of (b := decide (c ≤ b)) rfl (decide_eq_true h)) (.stop (.ret rfl) rfl)) rfl)
theorem in_b_ex (hM : Base M) {W : List Nat} {l br k : Int} {c b : Nat} {q : MV} {s : Addr} {S : List Str} (hs : g.set s = some S) (hW : W.length ≤ bigLine) (hb : b < c) (hc : c ≤ W.length) :
    Ex g M (n + 1) (.mth .in_b [.ref s] (F W c l b br k q) (.bool (inS S (W.getD (c - 1) 0))) (F W (if inS S (W.getD (c - 1) 0) then ((c - 1 : Nat) : Int) else c) l b br k q)) := by
  have e1 : ∀ σ : St, σ = ⟨F W c l b br k q, [(.s, .ref s)]⟩ → ev g σ (.notin (.idx fCur (.sub fC n1)) lS) = some (.bool (!inS S (W.getD (c - 1) 0))) := by
    rintro _ rfl
    show notV (inV g (idxV g (some (.str (st W))) (some (.int ((c : Int) - 1)))) (some (.ref s))) = _
    rw [idxN (i := c - 1) (by omega) (by omega) hW, in_set hs]; rfl
  cases hin : inS S (W.getD (c - 1) 0) with
  | true =>
    refine .mthR (σ' := ⟨F W ((c - 1 : Nat) : Int) l b br k q, [(.s, .ref s)]⟩) hM.in_b rfl (.cons (.iteF (bool_of (b := decide ((c : Int) ≤ b)) rfl (decide_eq_false (by omega))) .nil) (.cons (.iteF ((e1 _ rfl).trans (by rw [hin]; rfl)) .nil) (.cons (.augF (v := ((c - 1 : Nat) : Int)) ?_) (.stop (.ret rfl) rfl))))
    show some (MV.int ((c : Int) - 1)) = _
    rw [show (c : Int) - 1 = ((c - 1 : Nat) : Int) by omega]
  | false =>
    exact .mthR (σ' := ⟨F W c l b br k q, [(.s, .ref s)]⟩) hM.in_b rfl (.cons (.iteF (bool_of (b := decide ((c : Int) ≤ b)) rfl (decide_eq_false (by omega))) .nil) (.stop (.iteT ((e1 _ rfl).trans (by rw [hin]; rfl)) (.stop (.ret rfl) rfl)) rfl))
theorem out_b_no (hM : Base M) {W : List Nat} {c l b br k : Int} {q : MV} {s : Addr} (h : c ≤ b) : Ex g M (n + 1) (.mth .out_b [.ref s] (F W c l b br k q) (.bool false) (F W c l b br k q)) :=
  .mthR (σ' := ⟨F W c l b br k q, [(.s, .ref s)]⟩) hM.out_b rfl (.stop (.iteT (bool_of (b := decide (c ≤ b)) rfl (decide_eq_true h)) (.stop (.ret rfl) rfl)) rfl)
theorem out_b_ex (hM : Base M) {W : List Nat} {l br k : Int} {c b : Nat} {q : MV} {s : Addr} {S : List Str} (hs : g.set s = some S) (hW : W.length ≤ bigLine) (hb : b < c) (hc : c ≤ W.length) :
    Ex g M (n + 1) (.mth .out_b [.ref s] (F W c l b br k q) (.bool (!inS S (W.getD (c - 1) 0))) (F W (if inS S (W.getD (c - 1) 0) then (c : Int) else ((c - 1 : Nat) : Int)) l b br k q)) := by
  have e1 : ∀ σ : St, σ = ⟨F W c l b br k q, [(.s, .ref s)]⟩ → ev g σ (.notin (.idx fCur (.sub fC n1)) lS) = some (.bool (!inS S (W.getD (c - 1) 0))) := by
    rintro _ rfl
    show notV (inV g (idxV g (some (.str (st W))) (some (.int ((c : Int) - 1)))) (some (.ref s))) = _
    rw [idxN (i := c - 1) (by omega) (by omega) hW, in_set hs]; rfl
  cases hin : inS S (W.getD (c - 1) 0) with
  | false =>
    refine .mthR (σ' := ⟨F W ((c - 1 : Nat) : Int) l b br k q, [(.s, .ref s)]⟩) hM.out_b rfl (.cons (.iteF (bool_of (b := decide ((c : Int) ≤ b)) rfl (decide_eq_false (by omega))) .nil) (.stop (.iteT ((e1 _ rfl).trans (by rw [hin]; rfl)) (.cons (.augF (v := ((c - 1 : Nat) : Int)) ?_) (.stop (.ret rfl) rfl))) rfl))
    show some (MV.int ((c : Int) - 1)) = _
    rw [show (c : Int) - 1 = ((c - 1 : Nat) : Int) by omega]
  | true =>
    exact .mthR (σ' := ⟨F W c l b br k q, [(.s, .ref s)]⟩) hM.out_b rfl (.cons (.iteF (bool_of (b := decide ((c : Int) ≤ b)) rfl (decide_eq_false (by omega))) .nil) (.cons (.iteF ((e1 _ rfl).trans (by rw [hin]; rfl)) .nil) (.stop (.ret rfl) rfl)))

theorem cut_st {W : List Nat} {lo hi : Int} {a b : Nat} (h1 : lo = a) (h2 : hi = b) (hab : a ≤ b) (hb : b ≤ W.length) (hW : W.length ≤ bigLine) : slcV (some (.str (st W))) (some (.int lo)) (some (.int hi)) = some (.str (st ((W.take b).drop a))) := by
  subst h1 h2
  have h : (0 : Int) ≤ a ∧ (a : Int) ≤ b ∧ (b : Int) ≤ (st W).length ∧ (st W).length ≤ bigLine := by rw [st_len]; exact ⟨by omega, by omega, by omega, hW⟩
  unfold slcV
  simp only
  rw [if_pos h]
  unfold cut
  simp only [Int.toNat_natCast, st_cps]
  rw [List.drop_take]
theorem cutE_st {W : List Nat} {lo : Int} {a : Nat} (h1 : lo = a) (ha : a ≤ W.length) (hW : W.length ≤ bigLine) : slcEV (some (.str (st W))) (some (.int lo)) = some (.str (st (W.drop a))) := by
  subst h1
  have h : (0 : Int) ≤ a ∧ (a : Int) ≤ (st W).length ∧ (st W).length ≤ bigLine := by rw [st_len]; exact ⟨by omega, by omega, hW⟩
  unfold slcEV
  simp only
  rw [if_pos h]
  unfold cut
  simp only [Int.toNat_natCast, st_cps, st_len]
  rw [List.take_of_length_le (by simp)]

/-- eq_s_b -/
theorem eq_s_b_ex (hM : Base M) {W x : List Nat} {l br k : Int} {c b : Nat} {q : MV} (hW : W.length ≤ bigLine) (hx : x.length ≤ bigLine) (hb : b ≤ c) (hc : c ≤ W.length) :
    Ex g M (n + 1) (.mth .eq_s_b [.str (st x)] (F W c l b br k q) (.bool (x.isSuffixOf ((W.take c).drop b))) (F W (if x.isSuffixOf ((W.take c).drop b) then ((c - x.length : Nat) : Int) else c) l b br k q)) := by
  have e1 : ∀ σ : St, σ = ⟨F W c l b br k q, [(.s, .str (st x))]⟩ → ev g σ (.ends (.slc fCur fB fC) lS) = some (.bool (x.isSuffixOf ((W.take c).drop b))) := by
    rintro _ rfl
    show endsV (slcV (some (.str (st W))) (some (.int (b : Int))) (some (.int (c : Int)))) (some (.str (st x))) = _
    rw [cut_st rfl rfl hb hc hW]
    unfold endsV
    simp only [st_cps]
  cases hin : x.isSuffixOf ((W.take c).drop b) with
  | true =>
    have hle : x.length ≤ c - b := by
      have := (List.isSuffixOf_iff_suffix.mp hin).length_le
      simp at this
      omega
    refine .mthR (σ' := ⟨F W ((c - x.length : Nat) : Int) l b br k q, [(.s, .str (st x))]⟩) hM.eq_s_b rfl (.stop (.iteT ((e1 _ rfl).trans (by rw [hin])) (.cons (.augF (v := ((c - x.length : Nat) : Int)) ?_) (.stop (.ret rfl) rfl))) rfl)
    show arI (· - ·) (some (.int (c : Int))) (lenV g (some (.str (st x)))) = _
    rw [len_str hx]
    show some (MV.int ((c : Int) - (x.length : Int))) = _
    rw [show (c : Int) - (x.length : Int) = ((c - x.length : Nat) : Int) by omega]
  | false => exact .mthR (σ' := ⟨F W c l b br k q, [(.s, .str (st x))]⟩) hM.eq_s_b rfl (.cons (.iteF ((e1 _ rfl).trans (by rw [hin])) .nil) (.stop (.ret rfl) rfl))

theorem app_st (a b : List Nat) : st a ++ st b = st (a ++ b) := by
  show Str.mk (a.toArray ++ b.toArray) = _
  simp

/-- slices: everything from bra to ket gives way; the cursor stands at bra or before it -/
theorem replace_ex (hM : Base M) {W x : List Nat} {c b br' k' : Int} {br k : Nat} {q : MV} (hW : W.length ≤ bigLine) (hx : x.length ≤ bigLine) (h1 : br ≤ k) (h2 : k ≤ W.length) (hs : br + x.length + (W.length - k) ≤ bigLine) (hc : c ≤ br) :
    Ex g M (n + 1) (.mth .replace_s [.int br, .int k, .str (st x)] (F W c W.length b br' k' q) (.int ((x.length : Int) - (k - br))) (F (W.take br ++ x ++ W.drop k) (if c ≥ k then c + ((x.length : Int) - (k - br)) else c) ((W.length : Int) + ((x.length : Int) - (k - br))) b br' k' q)) := by
  let L : List (Loc × MV) := [(.c_bra, .int br), (.c_ket, .int k), (.s, .str (st x)), (.adjustment, .int ((x.length : Int) - (k - br)))]
  have eA : ∀ σ : St, σ = ⟨F W c W.length b br' k' q, [(.c_bra, .int br), (.c_ket, .int k), (.s, .str (st x))]⟩ → ev g σ (.sub (.len lS) (.sub (.loc .c_ket) (.loc .c_bra))) = some (.int ((x.length : Int) - (k - br))) := by
    rintro _ rfl
    show arI (· - ·) (lenV g (some (.str (st x)))) (some (.int ((k : Int) - br))) = _
    rw [len_str hx]; rfl
  have eB : ∀ σ : St, σ = ⟨F W c W.length b br' k' q, L⟩ → ev g σ (.add (.add (.slc fCur n0 (.loc .c_bra)) lS) (.slcE fCur (.loc .c_ket))) = some (.str (st (W.take br ++ x ++ W.drop k))) := by
    rintro _ rfl
    show addV (addV (slcV (some (.str (st W))) (some (.int 0)) (some (.int (br : Int)))) (some (.str (st x)))) (slcEV (some (.str (st W))) (some (.int (k : Int)))) = _
    rw [cut_st (lo := 0) (hi := (br : Int)) (a := 0) (b := br) rfl rfl (Nat.zero_le _) (by omega) hW, cutE_st rfl h2 hW]
    unfold addV
    simp only [List.drop_zero, st_len]
    rw [if_pos (by simp; omega)]
    simp only [app_st, st_len]
    rw [if_pos (by simp; omega)]
  by_cases hk : c ≥ k
  · rw [if_pos hk]
    exact Ex.mthR (σ' := ⟨F (W.take br ++ x ++ W.drop k) (c + ((x.length : Int) - (k - br))) ((W.length : Int) + ((x.length : Int) - (k - br))) b br' k' q, L⟩) hM.replace_s rfl
      (.cons (.setL (eA _ rfl)) (.cons (.setF (eB _ rfl)) (.cons (.augF rfl) (.cons (.iteT (bool_of (b := decide ((k : Int) ≤ c)) rfl (decide_eq_true hk)) (.cons (.augF rfl) .nil)) (.stop (.ret rfl) rfl)))))
  · rw [if_neg hk]
    exact Ex.mthR (σ' := ⟨F (W.take br ++ x ++ W.drop k) c ((W.length : Int) + ((x.length : Int) - (k - br))) b br' k' q, L⟩) hM.replace_s rfl
      (.cons (.setL (eA _ rfl)) (.cons (.setF (eB _ rfl)) (.cons (.augF rfl) (.cons (.iteF (bool_of (b := decide ((k : Int) ≤ c)) rfl (decide_eq_false hk)) (.cons (.iteF (bool_of (b := decide ((br : Int) < c)) rfl (decide_eq_false (by omega))) .nil) .nil)) (.stop (.ret rfl) rfl)))))

/-- the text with bra..ket replaced -/
abbrev rep (W : List Nat) (br k : Nat) (x : List Nat) : List Nat := W.take br ++ x ++ W.drop k
theorem slice_from_ex (hM : Base M) {W x : List Nat} {c b : Int} {br k : Nat} {q : MV} (hW : W.length ≤ bigLine) (hx : x.length ≤ bigLine) (h1 : br ≤ k) (h2 : k ≤ W.length) (hs : br + x.length + (W.length - k) ≤ bigLine) (hc : c ≤ br) :
    Ex g M (n + 2) (.mth .slice_from [.str (st x)] (F W c W.length b br k q) .none (F (rep W br k x) (if c ≥ k then c + ((x.length : Int) - (k - br)) else c) ((W.length : Int) + ((x.length : Int) - (k - br))) b br ((br : Int) + x.length) q)) := by
  have hA : ∀ (σ : St), σ = ⟨F W c W.length b br k q, [(.s, .str (st x))]⟩ → ev g σ (.le fL (.len fCur)) = some (.bool true) := by
    rintro _ rfl
    show cmpI _ (some (.int (W.length : Int))) (lenV g (some (.str (st W)))) = _
    rw [len_str hW]
    simp [cmpI]
  refine .mthN (σ' := ⟨F (rep W br k x) (if c ≥ k then c + ((x.length : Int) - (k - br)) else c) ((W.length : Int) + ((x.length : Int) - (k - br))) b br ((br : Int) + x.length) q, [(.s, .str (st x))]⟩) hM.slice_from rfl ?_
  refine .cons (.asrt (bool_of (b := decide ((0 : Int) ≤ br)) rfl (decide_eq_true (by omega)))) (.cons (.asrt (bool_of (b := decide ((br : Int) ≤ k)) rfl (decide_eq_true (by omega)))) (.cons (.asrt (bool_of (b := decide ((k : Int) ≤ W.length)) rfl (decide_eq_true (by omega)))) (.cons (.asrt (hA _ rfl)) (.cons (.call (vs := [.int br, .int k, .str (st x)]) rfl (replace_ex hM hW hx h1 h2 hs hc)) (.cons (.setF (v := .int ((br : Int) + x.length)) ?_) .nil)))))
  show addV (some (.int (br : Int))) (lenV g (some (.str (st x)))) = _
  rw [len_str hx]; rfl
theorem slice_del_ex (hM : Base M) {W : List Nat} {c b : Int} {br k : Nat} {q : MV} (hW : W.length ≤ bigLine) (h1 : br ≤ k) (h2 : k ≤ W.length) (hc : c ≤ br) :
    Ex g M (n + 3) (.mth .slice_del [] (F W c W.length b br k q) .none (F (W.take br ++ W.drop k) (if c ≥ k then c + (0 - ((k : Int) - br)) else c) ((W.length : Int) + (0 - ((k : Int) - br))) b br br q)) := by
  have := slice_from_ex (g := g) (n := n) (x := []) hM (b := b) (q := q) hW (by decide) h1 h2 (by simp; omega) hc
  simp only [rep, List.append_nil, List.length_nil, Int.natCast_zero, Int.add_zero] at this
  exact .mthR (σ' := ⟨F (W.take br ++ W.drop k) (if c ≥ k then c + (0 - ((k : Int) - br)) else c) ((W.length : Int) + (0 - ((k : Int) - br))) b br br q, []⟩) hM.slice_del rfl (.stop (.retC (vs := [.str (st [])]) rfl this) rfl)
theorem slice_to_ex (hM : Base M) {W : List Nat} {c b : Int} {br k : Nat} {q : MV} (hW : W.length ≤ bigLine) (h1 : br ≤ k) (h2 : k ≤ W.length) :
    Ex g M (n + 1) (.mth .slice_to [] (F W c W.length b br k q) (.str (st ((W.take k).drop br))) (F W c W.length b br k q)) := by
  have hA : ∀ (σ : St), σ = ⟨F W c W.length b br k q, []⟩ → ev g σ (.le fL (.len fCur)) = some (.bool true) := by
    rintro _ rfl
    show cmpI _ (some (.int (W.length : Int))) (lenV g (some (.str (st W)))) = _
    rw [len_str hW]
    simp [cmpI]
  refine .mthR (σ' := ⟨F W c W.length b br k q, []⟩) hM.slice_to rfl ?_
  refine .cons (.asrt (bool_of (b := decide ((0 : Int) ≤ br)) rfl (decide_eq_true (by omega)))) (.cons (.asrt (bool_of (b := decide ((br : Int) ≤ k)) rfl (decide_eq_true (by omega)))) (.cons (.asrt (bool_of (b := decide ((k : Int) ≤ W.length)) rfl (decide_eq_true (by omega)))) (.cons (.asrt (hA _ rfl)) (.stop (.ret ?_) rfl))))
  exact cut_st rfl rfl h1 h2 hW
end
end Sb
end

section
open PySem
set_option Elab.async false
set_option maxRecDepth 100000
set_option linter.constructorNameAsVariable false
set_option linter.unusedVariables false
set_option linter.unusedSimpArgs false
namespace Sb

section
variable {g : Sg} {M : Meths} {n : Nat}

theorem evs_glob {σ : St} {k : Cls} {a : Att} {la : Addr} (h : g.gattr k a = some la) : evs g σ [.glob k a] = some [.ref la] := by
  simp only [evs, ev, h, Option.map_some]
theorem evs_str {σ : St} {x : Str} : evs g σ [.lit (.str x)] = some [.str x] := rfl

/-- the whole text behind q, from its end -/
abbrev tl (W : List Nat) (q : Nat) : List Nat := textOf W q W.length
/-- at the end of the text -/
abbrev S0 (W : List Nat) (q : Nat) (br k : Int) : List (Fld × MV) := F W W.length W.length 0 br k (.int q)

theorem find_end (hM : Base M) {W : List Nat} {b : Nat} {br k : Int} {la : Addr} {tbl : List Entry} {r : Option (Nat × Int)} {p : MV} (T : Tab g la tbl) (hb : b ≤ W.length) (hW : W.length ≤ bigLine) (h : fb tbl (textOf W b W.length) = some r) :
    Ex g M (n + 1) (.mth .find_b [.ref la] (F W W.length W.length b br k p) (.int (resV r)) (resF W.length (F W W.length W.length b br k p) r)) :=
  find_ex hM.find_b T hb (Nat.le_refl _) hW rfl rfl rfl h

theorem del_end (hM : Base M) {W : List Nat} {c b : Int} {m : Nat} {q : MV} (hW : W.length ≤ bigLine) (hm : m < W.length) (hc : c ≤ m) :
    Ex g M (n + 3) (.mth .slice_del [] (F W c W.length b m W.length q) .none (F (W.take m) c (W.take m).length b m m q)) := by
  have := slice_del_ex (g := g) (n := n) (c := c) (b := b) (q := q) hM hW (Nat.le_of_lt hm) (Nat.le_refl _) hc
  have e1 : W.take m ++ W.drop W.length = W.take m := by rw [List.drop_length, List.append_nil]
  have e2 : ((W.length : Int) + (0 - ((W.length : Int) - m))) = ((W.take m).length : Int) := by rw [List.length_take]; omega
  rw [e1, e2, if_neg (by omega)] at this
  exact this

/-- what the table finds at the end of W -/
def hit (W : List Nat) (len : Nat) : Nat := W.length - len

/-- behind a find that fails -/
theorem main_none {ms : Mth} {v : Loc} {la : Addr} {tbl : List Entry} {k : Cls} {a : Att} {rest : List IS} (hM : Base M) (hm : M ms = some ([], [bad (.lt fC fP)] ++ enterR v ++ ([.setC .among_var .find_b [.glob k a], .ife (.eq av n0) (outR v) []] ++ rest))) (hv : v ≠ .among_var)
    (ha : g.gattr k a = some la) (T : Tab g la tbl) {W : List Nat} {q : Nat} {br kt : Int} (hq : q ≤ W.length) (hW : W.length ≤ bigLine) (h : fb tbl (tl W q) = some none) :
    Ex g M (n + 4) (.mth ms [] (S0 W q br kt) (.bool false) (S0 W q br W.length)) := by
  have hf := find_end (g := g) (n := n + 2) (br := br) (k := W.length) (p := .int q) hM T hq hW h
  refine .mthR (σ' := ⟨S0 W q br W.length, setA .among_var (.int 0) (setA v (.int 0) [])⟩) hm rfl ?_
  refine .cons (.iteF (bool_of (b := decide ((W.length : Int) < q)) rfl (decide_eq_false (by omega))) .nil) ?_
  refine .cons (.setL (v := .int 0) rfl) (.cons (.setF (v := .int q) rfl) (.cons (.setF (v := .int W.length) rfl) (.cons (.setC (evs_glob ha) hf) (.stop (.iteT ?_ (.cons (.setF (v := .int 0) ?_) (.stop (.ret rfl) rfl))) rfl))))
  · show eqV (getA Loc.among_var (setA Loc.among_var _ _)) _ = _
    rw [getA_set, if_pos rfl]
    rfl
  · show getA v (setA Loc.among_var _ (setA v _ _)) = _
    rw [getA_set, if_neg hv, getA_set, if_pos rfl]

theorem main_some {v : Loc} {la : Addr} {tbl : List Entry} {k : Cls} {a : Att} {rest : List IS} {o : Out} {σ' : St} {len : Nat} {res : Int} (hM : Base M) (hv : v ≠ .among_var)
    (ha : g.gattr k a = some la) (T : Tab g la tbl) {W : List Nat} {q : Nat} {br kt : Int} (hq : q ≤ W.length) (hW : W.length ≤ bigLine) (h : fb tbl (tl W q) = some (some (len, res))) (hres : res ≠ 0) (hlen : len ≤ W.length) (L : List (Loc × MV))
    (hr : Ex g M (n + 3) (.blk rest ⟨F W ((W.length - len : Nat) : Int) W.length 0 ((W.length - len : Nat) : Int) W.length (.int q), setA .among_var (.int res) (setA v (.int 0) L)⟩ o σ')) :
    Ex g M (n + 3) (.blk ([bad (.lt fC fP)] ++ enterR v ++ ([.setC .among_var .find_b [.glob k a], .ife (.eq av n0) (outR v) []] ++ ([.setF .bra fC, .setF .lb (.loc v)] ++ rest))) ⟨S0 W q br kt, L⟩ o σ') := by
  have hf := find_end (g := g) (n := n + 2) (br := br) (k := W.length) (p := .int q) hM T hq hW h
  have e0 : resF W.length (F W W.length W.length q br W.length (.int q)) (some (len, res)) = F W ((W.length - len : Nat) : Int) W.length q br W.length (.int q) := by
    show setA Fld.cursor (MV.int ((W.length : Int) - (len : Int))) _ = _
    rw [show ((W.length : Int) - (len : Int)) = ((W.length - len : Nat) : Int) by omega]
    rfl
  rw [e0] at hf
  refine .cons (.iteF (bool_of (b := decide ((W.length : Int) < q)) rfl (decide_eq_false (by omega))) .nil) ?_
  refine .cons (.setL (v := .int 0) rfl) (.cons (.setF (v := .int q) rfl) (.cons (.setF (v := .int W.length) rfl) (.cons (.setC (evs_glob ha) hf) (.cons (.iteF ?_ .nil) (.cons (.setF (v := .int ((W.length - len : Nat) : Int)) rfl) (.cons (.setF (v := .int 0) ?_) ?_))))))
  · show eqV (getA Loc.among_var (setA Loc.among_var _ _)) _ = _
    rw [getA_set, if_pos rfl]
    show some (MV.bool (res == 0)) = _
    congr 2
    exact beq_eq_false_iff_ne.mpr hres
  · show getA v (setA Loc.among_var _ (setA v _ _)) = _
    rw [getA_set, if_neg hv, getA_set, if_pos rfl]
  · exact hr

theorem av_eq {f : List (Fld × MV)} {res z : Int} {L : List (Loc × MV)} : ev g ⟨f, setA .among_var (.int res) L⟩ (.eq av (.lit (.int z))) = some (.bool (res == z)) := by
  show eqV (getA Loc.among_var (setA Loc.among_var (.int res) L)) (some (.int z)) = _
  rw [getA_set, if_pos rfl]; rfl

/-- Danish -/
theorem da_main_1 (hM : Base M) (hm : M .r_main = some ([], P_main_da)) {la : Addr} {tbl : List Entry} (ha : g.gattr .da .a_0 = some la) (T : Tab g la tbl) {W : List Nat} {q len : Nat} {br kt : Int} (hq : q ≤ W.length) (hW : W.length ≤ bigLine)
    (h : fb tbl (tl W q) = some (some (len, 1))) (hlen : len ≤ W.length) (h0 : 0 < len) : ∃ v c br' k', Ex g M (n + 4) (.mth .r_main [] (S0 W q br kt) v (F (W.take (W.length - len)) c (W.take (W.length - len)).length 0 br' k' (.int q))) := by
  have hd := del_end (g := g) (n := n) (b := 0) (q := .int q) hM hW (m := W.length - len) (by omega) (c := ((W.length - len : Nat) : Int)) (Int.le_refl _)
  refine ⟨_, _, _, _, .mthR (σ' := ⟨F (W.take (W.length - len)) ((W.length - len : Nat) : Int) (W.take (W.length - len)).length 0 ((W.length - len : Nat) : Int) ((W.length - len : Nat) : Int) (.int q), setA .among_var (.int 1) (setA .v_2 (.int 0) [])⟩) (v := .bool true) hm rfl ?_⟩
  refine main_some hM (by decide) ha T hq hW h (by decide) hlen [] ?_
  exact .cons (.iteT av_eq (.cons (.call rfl hd) .nil)) (.stop (.ret rfl) rfl)
theorem da_main_2 (hM : Base M) (hm : M .r_main = some ([], P_main_da)) {la ls : Addr} {tbl : List Entry} {S : List Str} (ha : g.gattr .da .a_0 = some la) (hls : g.gattr .da .g_s_ending = some ls) (hS : g.set ls = some S) (T : Tab g la tbl) {W : List Nat} {q len : Nat} {br kt : Int} (hq : q ≤ W.length) (hW : W.length ≤ bigLine)
    (h : fb tbl (tl W q) = some (some (len, 2))) (hlen : len < W.length) (h0 : 0 < len) (hin : inS S (W.getD (W.length - len - 1) 0) = true) : ∃ v c br' k', Ex g M (n + 4) (.mth .r_main [] (S0 W q br kt) v (F (W.take (W.length - len)) c (W.take (W.length - len)).length 0 br' k' (.int q))) := by
  have hb := in_b_ex (g := g) (n := n + 2) (l := W.length) (br := ((W.length - len : Nat) : Int)) (k := W.length) (q := .int q) (c := W.length - len) (b := 0) hM hS hW (by omega) (by omega)
  rw [hin, if_pos rfl] at hb
  have hd := del_end (g := g) (n := n) (b := 0) (q := .int q) hM hW (m := W.length - len) (by omega) (c := ((W.length - len - 1 : Nat) : Int)) (by omega)
  refine ⟨_, _, _, _, .mthR (σ' := ⟨F (W.take (W.length - len)) ((W.length - len - 1 : Nat) : Int) (W.take (W.length - len)).length 0 ((W.length - len : Nat) : Int) ((W.length - len : Nat) : Int) (.int q), setA .among_var (.int 2) (setA .v_2 (.int 0) [])⟩) (v := .bool true) hm rfl ?_⟩
  refine main_some hM (by decide) ha T hq hW h (by decide) (Nat.le_of_lt hlen) [] ?_
  exact .cons (.iteF av_eq (.cons (.notF (evs_glob hls) hb) (.cons (.call rfl hd) .nil))) (.stop (.ret rfl) rfl)

/-- Norwegian -/
theorem no_main_1 (hM : Base M) (hm : M .r_main = some ([], P_main_no)) {la : Addr} {tbl : List Entry} (ha : g.gattr .no .a_1 = some la) (T : Tab g la tbl) {W : List Nat} {q len : Nat} {br kt : Int} (hq : q ≤ W.length) (hW : W.length ≤ bigLine)
    (h : fb tbl (tl W q) = some (some (len, 1))) (hlen : len ≤ W.length) (h0 : 0 < len) : ∃ v c br' k', Ex g M (n + 4) (.mth .r_main [] (S0 W q br kt) v (F (W.take (W.length - len)) c (W.take (W.length - len)).length 0 br' k' (.int q))) := by
  have hd := del_end (g := g) (n := n) (b := 0) (q := .int q) hM hW (m := W.length - len) (by omega) (c := ((W.length - len : Nat) : Int)) (Int.le_refl _)
  refine ⟨_, _, _, _, .mthR (σ' := ⟨F (W.take (W.length - len)) ((W.length - len : Nat) : Int) (W.take (W.length - len)).length 0 ((W.length - len : Nat) : Int) ((W.length - len : Nat) : Int) (.int q), setA .among_var (.int 1) (setA .v_2 (.int 0) [])⟩) (v := .bool true) hm rfl ?_⟩
  refine main_some hM (by decide) ha T hq hW h (by decide) hlen [] ?_
  exact .cons (.iteT av_eq (.cons (.call rfl hd) .nil)) (.stop (.ret rfl) rfl)
theorem no_main_3 (hM : Base M) (hm : M .r_main = some ([], P_main_no)) {la ls : Addr} {tbl : List Entry} {S : List Str} (ha : g.gattr .no .a_1 = some la) (hls : g.gattr .no .g_s_ending = some ls) (hS : g.set ls = some S) (T : Tab g la tbl) {W : List Nat} {q len : Nat} {br kt : Int} (hq : q ≤ W.length) (hW : W.length ≤ bigLine)
    (h : fb tbl (tl W q) = some (some (len, 3))) (hlen : len < W.length) (h0 : 0 < len) (hin : inS S (W.getD (W.length - len - 1) 0) = true) : ∃ v c br' k', Ex g M (n + 4) (.mth .r_main [] (S0 W q br kt) v (F (W.take (W.length - len)) c (W.take (W.length - len)).length 0 br' k' (.int q))) := by
  have hb := in_b_ex (g := g) (n := n + 2) (l := W.length) (br := ((W.length - len : Nat) : Int)) (k := W.length) (q := .int q) (c := W.length - len) (b := 0) hM hS hW (by omega) (by omega)
  rw [hin, if_pos rfl] at hb
  have hd := del_end (g := g) (n := n) (b := 0) (q := .int q) hM hW (m := W.length - len) (by omega) (c := ((W.length - len - 1 : Nat) : Int)) (by omega)
  refine ⟨_, _, _, _, .mthR (σ' := ⟨F (W.take (W.length - len)) ((W.length - len - 1 : Nat) : Int) (W.take (W.length - len)).length 0 ((W.length - len : Nat) : Int) ((W.length - len : Nat) : Int) (.int q), setA .v_3 (.int ((W.length : Int) - ((W.length - len : Nat) : Int))) (setA .among_var (.int 3) (setA .v_2 (.int 0) []))⟩) (v := .bool true) hm rfl ?_⟩
  refine main_some hM (by decide) ha T hq hW h (by decide) (Nat.le_of_lt hlen) [] ?_
  refine .cons (.iteF av_eq (.cons (.iteF av_eq (.cons (.iteT av_eq ?_) .nil)) .nil)) (.stop (.ret rfl) rfl)
  refine .cons (.whil (.loopB rfl (.cons (.setL (v := .int ((W.length : Int) - ((W.length - len : Nat) : Int))) rfl) (.stop (.tryN (.cons (.notF (evs_glob hls) hb) (.stop .brk rfl)) trivial) rfl)))) (.cons (.call rfl hd) .nil)
end
end Sb
end

section
open PySem
set_option Elab.async false
set_option maxRecDepth 100000
set_option linter.constructorNameAsVariable false
set_option linter.unusedVariables false
set_option linter.unusedSimpArgs false
namespace Sb

section
variable {g : Sg} {M : Meths} {n : Nat}

/-- find_among_b in a condition: nothing found -/
theorem ifz_none (hM : Base M) {v : Loc} {la : Addr} {tbl : List Entry} {k : Cls} {a : Att} {rest : List IS} {W : List Nat} {q : Nat} {br kt : Int} {L : List (Loc × MV)}
    (ha : g.gattr k a = some la) (T : Tab g la tbl) (hq : q ≤ W.length) (hW : W.length ≤ bigLine) (h : fb tbl (tl W q) = some none) :
    Ex g M (n + 3) (.blk ([bad (.lt fC fP)] ++ enterR v ++ ([.ifZero .find_b [.glob k a] (outR v)] ++ rest)) ⟨S0 W q br kt, L⟩ (.ret (.bool false)) ⟨S0 W q br W.length, setA v (.int 0) L⟩) := by
  have hf := find_end (g := g) (n := n + 2) (br := br) (k := W.length) (p := .int q) hM T hq hW h
  refine .cons (.iteF (bool_of (b := decide ((W.length : Int) < q)) rfl (decide_eq_false (by omega))) .nil) ?_
  refine .cons (.setL (v := .int 0) rfl) (.cons (.setF (v := .int q) rfl) (.cons (.setF (v := .int W.length) rfl) (.stop (.zeroT (evs_glob ha) hf (.cons (.setF (v := .int 0) ?_) (.stop (.ret rfl) rfl))) rfl)))
  show getA v (setA v _ L) = _
  rw [getA_set, if_pos rfl]

theorem cons2_none (hM : Base M) {la : Addr} {tbl : List Entry} {k : Cls} {a : Att} (hm : M .r_cons = some ([], P_cons2 k a)) {W : List Nat} {q : Nat} {br kt : Int}
    (ha : g.gattr k a = some la) (T : Tab g la tbl) (hq : q ≤ W.length) (hW : W.length ≤ bigLine) (h : fb tbl (tl W q) = some none) :
    Ex g M (n + 4) (.mth .r_cons [] (S0 W q br kt) (.bool false) (S0 W q br W.length)) :=
  .mthR (σ' := ⟨S0 W q br W.length, setA .v_3 (.int 0) (setA .v_1 (.int ((W.length : Int) - W.length)) [])⟩) hm rfl (.cons (.setL rfl) (ifz_none hM ha T hq hW h))
theorem other_no_none (hM : Base M) {la : Addr} {tbl : List Entry} (hm : M .r_other = some ([], P_other_no)) {W : List Nat} {q : Nat} {br kt : Int}
    (ha : g.gattr .no .a_3 = some la) (T : Tab g la tbl) (hq : q ≤ W.length) (hW : W.length ≤ bigLine) (h : fb tbl (tl W q) = some none) :
    Ex g M (n + 4) (.mth .r_other [] (S0 W q br kt) (.bool false) (S0 W q br W.length)) :=
  .mthR (σ' := ⟨S0 W q br W.length, setA .v_2 (.int 0) []⟩) hm rfl (ifz_none hM ha T hq hW h)
theorem cons_sv_none (hM : Base M) {la : Addr} {tbl : List Entry} (hm : M .r_cons = some ([], P_cons_sv)) {W : List Nat} {q : Nat} {br kt : Int}
    (ha : g.gattr .sv .a_2 = some la) (T : Tab g la tbl) (hq : q ≤ W.length) (hW : W.length ≤ bigLine) (h : fb tbl (tl W q) = some none) :
    Ex g M (n + 4) (.mth .r_cons [] (S0 W q br kt) (.bool false) (S0 W q br kt)) := by
  have hf := find_end (g := g) (n := n + 2) (br := br) (k := kt) (p := .int q) hM T hq hW h
  refine .mthR (σ' := ⟨S0 W q br kt, [(.v_2, .int 0), (.v_3, .int ((W.length : Int) - W.length))]⟩) hm rfl ?_
  exact .cons (.iteF (bool_of (b := decide ((W.length : Int) < q)) rfl (decide_eq_false (by omega))) .nil) (.cons (.setL (v := .int 0) rfl) (.cons (.setF (v := .int q) rfl) (.cons (.setL rfl) (.stop (.zeroT (evs_glob ha) hf (.cons (.setF (v := .int 0) rfl) (.stop (.ret rfl) rfl))) rfl))))
theorem other_no_some (hM : Base M) {la : Addr} {tbl : List Entry} (hm : M .r_other = some ([], P_other_no)) {W : List Nat} {q len : Nat} {br kt res : Int}
    (ha : g.gattr .no .a_3 = some la) (T : Tab g la tbl) (hq : q ≤ W.length) (hW : W.length ≤ bigLine) (h : fb tbl (tl W q) = some (some (len, res))) (hres : res ≠ 0) (hlen : len ≤ W.length) (h0 : 0 < len) :
    ∃ v c br' k', Ex g M (n + 4) (.mth .r_other [] (S0 W q br kt) v (F (W.take (W.length - len)) c (W.take (W.length - len)).length 0 br' k' (.int q))) := by
  have hf := find_end (g := g) (n := n + 2) (br := br) (k := W.length) (p := .int q) hM T hq hW h
  have e0 : resF W.length (F W W.length W.length q br W.length (.int q)) (some (len, res)) = F W ((W.length - len : Nat) : Int) W.length q br W.length (.int q) := by
    show setA Fld.cursor (MV.int ((W.length : Int) - (len : Int))) _ = _
    rw [show ((W.length : Int) - (len : Int)) = ((W.length - len : Nat) : Int) by omega]
    rfl
  rw [e0] at hf
  have hd := del_end (g := g) (n := n) (b := 0) (q := .int q) hM hW (m := W.length - len) (by omega) (c := ((W.length - len : Nat) : Int)) (Int.le_refl _)
  refine ⟨_, _, _, _, .mthR (σ' := ⟨F (W.take (W.length - len)) ((W.length - len : Nat) : Int) (W.take (W.length - len)).length 0 ((W.length - len : Nat) : Int) ((W.length - len : Nat) : Int) (.int q), [(.v_2, .int 0)]⟩) (v := .bool true) hm rfl ?_⟩
  refine .cons (.iteF (bool_of (b := decide ((W.length : Int) < q)) rfl (decide_eq_false (by omega))) .nil) ?_
  exact .cons (.setL (v := .int 0) rfl) (.cons (.setF (v := .int q) rfl) (.cons (.setF (v := .int W.length) rfl) (.cons (.zeroF (evs_glob ha) hf hres) (.cons (.setF (v := .int ((W.length - len : Nat) : Int)) rfl) (.cons (.setF (v := .int 0) rfl) (.cons (.call rfl hd) (.stop (.ret rfl) rfl)))))))

/-- main_none with locals -/
theorem blk_none {v : Loc} {la : Addr} {tbl : List Entry} {k : Cls} {a : Att} {rest : List IS} {L : List (Loc × MV)} (hM : Base M) (hv : v ≠ .among_var)
    (ha : g.gattr k a = some la) (T : Tab g la tbl) {W : List Nat} {q : Nat} {br kt : Int} (hq : q ≤ W.length) (hW : W.length ≤ bigLine) (h : fb tbl (tl W q) = some none) :
    Ex g M (n + 3) (.blk ([bad (.lt fC fP)] ++ enterR v ++ ([.setC .among_var .find_b [.glob k a], .ife (.eq av n0) (outR v) []] ++ rest)) ⟨S0 W q br kt, L⟩ (.ret (.bool false)) ⟨S0 W q br W.length, setA .among_var (.int 0) (setA v (.int 0) L)⟩) := by
  have hf := find_end (g := g) (n := n + 2) (br := br) (k := W.length) (p := .int q) hM T hq hW h
  refine .cons (.iteF (bool_of (b := decide ((W.length : Int) < q)) rfl (decide_eq_false (by omega))) .nil) ?_
  refine .cons (.setL (v := .int 0) rfl) (.cons (.setF (v := .int q) rfl) (.cons (.setF (v := .int W.length) rfl) (.cons (.setC (evs_glob ha) hf) (.stop (.iteT ?_ (.cons (.setF (v := .int 0) ?_) (.stop (.ret rfl) rfl))) rfl))))
  · show eqV (getA Loc.among_var (setA Loc.among_var _ _)) _ = _
    rw [getA_set, if_pos rfl]
    rfl
  · show getA v (setA Loc.among_var _ (setA v _ _)) = _
    rw [getA_set, if_neg hv, getA_set, if_pos rfl]

theorem other_sv_1 (hM : Base M) (hm : M .r_other = some ([], P_other_sv)) {la : Addr} {tbl : List Entry} (ha : g.gattr .sv .a_3 = some la) (T : Tab g la tbl) {W : List Nat} {q len : Nat} {br kt : Int} (hq : q ≤ W.length) (hW : W.length ≤ bigLine)
    (h : fb tbl (tl W q) = some (some (len, 1))) (hlen : len ≤ W.length) (h0 : 0 < len) : ∃ v c br' k', Ex g M (n + 4) (.mth .r_other [] (S0 W q br kt) v (F (W.take (W.length - len)) c (W.take (W.length - len)).length 0 br' k' (.int q))) := by
  have hd := del_end (g := g) (n := n) (b := 0) (q := .int q) hM hW (m := W.length - len) (by omega) (c := ((W.length - len : Nat) : Int)) (Int.le_refl _)
  refine ⟨_, _, _, _, .mthR (σ' := ⟨F (W.take (W.length - len)) ((W.length - len : Nat) : Int) (W.take (W.length - len)).length 0 ((W.length - len : Nat) : Int) ((W.length - len : Nat) : Int) (.int q), setA .among_var (.int 1) (setA .v_2 (.int 0) [])⟩) (v := .bool true) hm rfl ?_⟩
  refine main_some hM (by decide) ha T hq hW h (by decide) hlen [] ?_
  exact .cons (.iteT av_eq (.cons (.call rfl hd) .nil)) (.stop (.ret rfl) rfl)
theorem sv_main_1 (hM : Base M) (hm : M .r_main = some ([], P_main_sv)) {la : Addr} {tbl : List Entry} (ha : g.gattr .sv .a_1 = some la) (T : Tab g la tbl) {W : List Nat} {q len : Nat} {br kt : Int} (hq : q ≤ W.length) (hW : W.length ≤ bigLine)
    (h : fb tbl (tl W q) = some (some (len, 1))) (hlen : len ≤ W.length) (h0 : 0 < len) : ∃ v c br' k', Ex g M (n + 4) (.mth .r_main [] (S0 W q br kt) v (F (W.take (W.length - len)) c (W.take (W.length - len)).length 0 br' k' (.int q))) := by
  have hd := del_end (g := g) (n := n) (b := 0) (q := .int q) hM hW (m := W.length - len) (by omega) (c := ((W.length - len : Nat) : Int)) (Int.le_refl _)
  refine ⟨_, _, _, _, .mthR (σ' := ⟨F (W.take (W.length - len)) ((W.length - len : Nat) : Int) (W.take (W.length - len)).length 0 ((W.length - len : Nat) : Int) ((W.length - len : Nat) : Int) (.int q), setA .among_var (.int 1) (setA .v_2 (.int 0) [])⟩) (v := .bool true) hm rfl ?_⟩
  refine main_some hM (by decide) ha T hq hW h (by decide) hlen [] ?_
  exact .cons (.iteT av_eq (.cons (.call rfl hd) .nil)) (.stop (.ret rfl) rfl)

/-- the Swedish condition on et -/
theorem et_ex (hM : Base M) (hm : M .r_et = some ([], P_et)) {la lv : Addr} {tbl : List Entry} {V : List Str} (ha : g.gattr .sv .a_0 = some la) (T : Tab g la tbl) (hlv : g.gattr .sv .g_v = some lv) (hV : g.set lv = some V)
    {W : List Nat} {c : Nat} {br kt : Int} {q : MV} (hW : W.length ≤ bigLine) (hc : c ≤ W.length) (h2 : 2 < c) (hv1 : inS V (W.getD (c - 1) 0) = false) (hv2 : inS V (W.getD (c - 1 - 1) 0) = true) (h : fb tbl (textOf W 0 c) = some none) :
    Ex g M (n + 2) (.mth .r_et [] (F W c W.length 0 br kt q) (.bool true) (F W c W.length 0 br kt q)) := by
  have b1 := out_b_ex (g := g) (n := n) (l := W.length) (br := br) (k := kt) (q := q) (c := c) (b := 0) hM hV hW (by omega) hc
  rw [hv1, if_neg (by decide)] at b1
  have b2 := in_b_ex (g := g) (n := n) (l := W.length) (br := br) (k := kt) (q := q) (c := c - 1) (b := 0) hM hV hW (by omega) (by omega)
  rw [hv2, if_pos rfl] at b2
  have b3 : Ex g M (n + 1) (.mth .find_b [.ref la] (F W c W.length 0 br kt q) (.int 0) (F W c W.length 0 br kt q)) := find_ex hM.find_b T (Nat.zero_le _) hc hW rfl rfl rfl h
  refine .mthR (σ' := ⟨F W c W.length 0 br kt q, [(.v_1, .int ((W.length : Int) - c)), (.v_2, .int ((W.length : Int) - c))]⟩) hm rfl ?_
  refine .cons (.setL rfl) (.cons (.notF (evs_glob hlv) b1) (.cons (.notF (evs_glob hlv) b2) (.cons (.iteF (bool_of (b := decide (((c - 1 - 1 : Nat) : Int) ≤ 0)) rfl (decide_eq_false (by omega))) .nil) (.cons (.setF (v := .int c) ?_) (.cons (.setL rfl) (.cons (.tryC (.stop (.zeroT (evs_glob ha) b3 (.stop .raise rfl)) rfl)) (.cons (.setF (v := .int c) ?_) (.stop (.ret rfl) rfl))))))))
  · show some (MV.int ((W.length : Int) - ((W.length : Int) - (c : Int)))) = _
    congr 2; omega
  · show some (MV.int ((W.length : Int) - ((W.length : Int) - (c : Int)))) = _
    congr 2; omega

theorem et_st : (Str.ofString "et") = st [101, 116] := by rfl
theorem st_st : (Str.ofString "st") = st [115, 116] := by rfl

/-- what r_et asks of the text before c -/
structure EtOk (tbl : List Entry) (V : List Str) (W : List Nat) (c : Nat) : Prop where
  two : 2 < c
  out : inS V (W.getD (c - 1) 0) = false
  inn : inS V (W.getD (c - 1 - 1) 0) = true
  fb : fb tbl (textOf W 0 c) = some none

theorem sv_main_3 (hM : Base M) (hm : M .r_main = some ([], P_main_sv)) (he : M .r_et = some ([], P_et)) {la la0 lv : Addr} {tbl tbl0 : List Entry} {V : List Str} (ha : g.gattr .sv .a_1 = some la) (T : Tab g la tbl)
    (ha0 : g.gattr .sv .a_0 = some la0) (T0 : Tab g la0 tbl0) (hlv : g.gattr .sv .g_v = some lv) (hV : g.set lv = some V) {W : List Nat} {q len : Nat} {br kt : Int} (hq : q ≤ W.length) (hW : W.length ≤ bigLine)
    (h : fb tbl (tl W q) = some (some (len, 3))) (hlen : len ≤ W.length) (h0 : 0 < len) (E : EtOk tbl0 V W (W.length - len)) : ∃ v c br' k', Ex g M (n + 4) (.mth .r_main [] (S0 W q br kt) v (F (W.take (W.length - len)) c (W.take (W.length - len)).length 0 br' k' (.int q))) := by
  have hd := del_end (g := g) (n := n) (b := 0) (q := .int q) hM hW (m := W.length - len) (by omega) (c := ((W.length - len : Nat) : Int)) (Int.le_refl _)
  have hE := et_ex (n := n + 1) (br := ((W.length - len : Nat) : Int)) (kt := W.length) (q := .int q) hM he ha0 T0 hlv hV hW (Nat.sub_le _ _) E.two E.out E.inn E.fb
  refine ⟨_, _, _, _, .mthR (σ' := ⟨F (W.take (W.length - len)) ((W.length - len : Nat) : Int) (W.take (W.length - len)).length 0 ((W.length - len : Nat) : Int) ((W.length - len : Nat) : Int) (.int q), setA .among_var (.int 3) (setA .v_2 (.int 0) [])⟩) (v := .bool true) hm rfl ?_⟩
  refine main_some hM (by decide) ha T hq hW h (by decide) hlen [] ?_
  exact .cons (.iteF av_eq (.cons (.iteF av_eq (.cons (.notF rfl hE) (.cons (.call rfl hd) .nil))) .nil)) (.stop (.ret rfl) rfl)

theorem sv_main_2 (hM : Base M) (hm : M .r_main = some ([], P_main_sv)) {la ls : Addr} {tbl : List Entry} {S : List Str} (ha : g.gattr .sv .a_1 = some la) (T : Tab g la tbl)
    (hls : g.gattr .sv .g_s_ending = some ls) (hS : g.set ls = some S) {W : List Nat} {q len : Nat} {br kt : Int} (hq : q ≤ W.length) (hW : W.length ≤ bigLine)
    (h : fb tbl (tl W q) = some (some (len, 2))) (hlen : len < W.length) (h0 : 0 < len) (hin : inS S (W.getD (W.length - len - 1) 0) = true) (hno : [101, 116].isSuffixOf (W.take (W.length - len)) = false) :
    ∃ v c br' k', Ex g M (n + 4) (.mth .r_main [] (S0 W q br kt) v (F (W.take (W.length - len)) c (W.take (W.length - len)).length 0 br' k' (.int q))) := by
  have he := eq_s_b_ex (g := g) (n := n + 2) (x := [101, 116]) (l := W.length) (br := ((W.length - len : Nat) : Int)) (k := W.length) (q := .int q) (c := W.length - len) (b := 0) hM hW (by decide) (Nat.zero_le _) (Nat.sub_le _ _)
  rw [List.drop_zero, hno, if_neg (by decide)] at he
  have hb := in_b_ex (g := g) (n := n + 2) (l := W.length) (br := ((W.length - len : Nat) : Int)) (k := W.length) (q := .int q) (c := W.length - len) (b := 0) hM hS hW (by omega) (by omega)
  rw [hin, if_pos rfl] at hb
  have hd := del_end (g := g) (n := n) (b := 0) (q := .int q) hM hW (m := W.length - len) (by omega) (c := ((W.length - len - 1 : Nat) : Int)) (by omega)
  refine ⟨_, _, _, _, .mthR (σ' := ⟨F (W.take (W.length - len)) ((W.length - len - 1 : Nat) : Int) (W.take (W.length - len)).length 0 ((W.length - len : Nat) : Int) ((W.length - len : Nat) : Int) (.int q), setA .v_3 (.int ((W.length : Int) - ((W.length - len : Nat) : Int))) (setA .among_var (.int 2) (setA .v_2 (.int 0) []))⟩) (v := .bool true) hm rfl ?_⟩
  refine main_some hM (by decide) ha T hq hW h (by decide) (Nat.le_of_lt hlen) [] ?_
  refine .cons (.iteF av_eq (.cons (.iteT av_eq ?_) .nil)) (.stop (.ret rfl) rfl)
  refine .cons (.whil (.loopB rfl (.cons (.setL (v := .int ((W.length : Int) - ((W.length - len : Nat) : Int))) rfl) (.cons (.tryC (.stop (.notT (vs := [.str (st [101, 116])]) rfl he (.stop .raise rfl)) rfl)) (.cons (.setF (v := .int ((W.length - len : Nat) : Int)) ?_) (.cons (.notF (evs_glob hls) hb) (.stop .brk rfl))))))) (.cons (.call rfl hd) .nil)
  show some (MV.int ((W.length : Int) - ((W.length : Int) - ((W.length - len : Nat) : Int)))) = _
  congr 2; omega

theorem sv_main_2e (hM : Base M) (hm : M .r_main = some ([], P_main_sv)) (he : M .r_et = some ([], P_et)) {la la0 lv : Addr} {tbl tbl0 : List Entry} {V : List Str} (ha : g.gattr .sv .a_1 = some la) (T : Tab g la tbl)
    (ha0 : g.gattr .sv .a_0 = some la0) (T0 : Tab g la0 tbl0) (hlv : g.gattr .sv .g_v = some lv) (hV : g.set lv = some V) {W : List Nat} {q len : Nat} {br kt : Int} (hq : q ≤ W.length) (hW : W.length ≤ bigLine)
    (h : fb tbl (tl W q) = some (some (len, 2))) (hlen : len < W.length) (h0 : 0 < len) (hyes : [101, 116].isSuffixOf (W.take (W.length - len)) = true) (E : EtOk tbl0 V W (W.length - len - 2)) :
    ∃ v c br' k', Ex g M (n + 4) (.mth .r_main [] (S0 W q br kt) v (F (W.take (W.length - len - 2)) c (W.take (W.length - len - 2)).length 0 br' k' (.int q))) := by
  have hs := eq_s_b_ex (g := g) (n := n + 2) (x := [101, 116]) (l := W.length) (br := ((W.length - len : Nat) : Int)) (k := W.length) (q := .int q) (c := W.length - len) (b := 0) hM hW (by decide) (Nat.zero_le _) (Nat.sub_le _ _)
  rw [List.drop_zero, hyes, if_pos rfl] at hs
  have hE := et_ex (n := n + 1) (br := ((W.length - len : Nat) : Int)) (kt := W.length) (q := .int q) hM he ha0 T0 hlv hV hW (by omega) E.two E.out E.inn E.fb
  have hd := del_end (g := g) (n := n) (b := 0) (q := .int q) hM hW (m := W.length - len - 2) (by omega) (c := ((W.length - len - 2 : Nat) : Int)) (Int.le_refl _)
  refine ⟨_, _, _, _, .mthR (σ' := ⟨F (W.take (W.length - len - 2)) ((W.length - len - 2 : Nat) : Int) (W.take (W.length - len - 2)).length 0 ((W.length - len - 2 : Nat) : Int) ((W.length - len - 2 : Nat) : Int) (.int q), setA .v_3 (.int ((W.length : Int) - ((W.length - len : Nat) : Int))) (setA .among_var (.int 2) (setA .v_2 (.int 0) []))⟩) (v := .bool true) hm rfl ?_⟩
  refine main_some hM (by decide) ha T hq hW h (by decide) (Nat.le_of_lt hlen) [] ?_
  refine .cons (.iteF av_eq (.cons (.iteT av_eq ?_) .nil)) (.stop (.ret rfl) rfl)
  exact .cons (.whil (.loopB rfl (.cons (.setL (v := .int ((W.length : Int) - ((W.length - len : Nat) : Int))) rfl) (.stop (.tryN (.cons (.notF (vs := [.str (st [101, 116])]) rfl hs) (.cons (.notF rfl hE) (.cons (.setF (v := .int ((W.length - len - 2 : Nat) : Int)) rfl) (.stop .brk rfl)))) trivial) rfl)))) (.cons (.call rfl hd) .nil)

/-- the Danish r_other_suffix -/
theorem other_da_none (hM : Base M) (hm : M .r_other = some ([], P_other_da)) {la : Addr} {tbl : List Entry} (ha : g.gattr .da .a_2 = some la) (T : Tab g la tbl) {W : List Nat} {q : Nat} {br kt : Int} (hq : q ≤ W.length) (hW : W.length ≤ bigLine)
    (hst : [115, 116].isSuffixOf W = false) (h : fb tbl (tl W q) = some none) : Ex g M (n + 5) (.mth .r_other [] (S0 W q br kt) (.bool false) (S0 W q br W.length)) := by
  have he := eq_s_b_ex (g := g) (n := n + 3) (x := [115, 116]) (l := W.length) (br := br) (k := W.length) (q := .int q) (c := W.length) (b := 0) hM hW (by decide) (Nat.zero_le _) (Nat.le_refl _)
  rw [List.drop_zero, List.take_length, hst, if_neg (by decide)] at he
  refine .mthR (σ' := ⟨S0 W q br W.length, setA .among_var (.int 0) (setA .v_3 (.int 0) [(.v_1, .int ((W.length : Int) - W.length))])⟩) hm rfl ?_
  refine .cons (.setL rfl) (.cons (.tryC (.cons (.setF (v := .int W.length) rfl) (.stop (.notT (vs := [.str (st [115, 116])]) rfl he (.stop .raise rfl)) rfl))) (.cons (.setF (v := .int W.length) ?_) (blk_none hM (by decide) ha T hq hW h)))
  show some (MV.int ((W.length : Int) - ((W.length : Int) - (W.length : Int)))) = _
  congr 2; omega
theorem other_da_1 (hM : Base M) (hm : M .r_other = some ([], P_other_da)) (hc : M .r_cons = some ([], P_cons2 .da .a_1)) {la la1 : Addr} {tbl tbl1 : List Entry} (ha : g.gattr .da .a_2 = some la) (T : Tab g la tbl) (ha1 : g.gattr .da .a_1 = some la1) (T1 : Tab g la1 tbl1)
    {W : List Nat} {q len : Nat} {br kt : Int} (hq : q ≤ W.length) (hW : W.length ≤ bigLine)
    (hst : [115, 116].isSuffixOf W = false) (h : fb tbl (tl W q) = some (some (len, 1))) (h0 : 0 < len) (hlen : q + len ≤ W.length) (h1 : fb tbl1 (tl (W.take (W.length - len)) q) = some none) :
    ∃ v c br' k', Ex g M (n + 6) (.mth .r_other [] (S0 W q br kt) v (F (W.take (W.length - len)) c (W.take (W.length - len)).length 0 br' k' (.int q))) := by
  have he := eq_s_b_ex (g := g) (n := n + 4) (x := [115, 116]) (l := W.length) (br := br) (k := W.length) (q := .int q) (c := W.length) (b := 0) hM hW (by decide) (Nat.zero_le _) (Nat.le_refl _)
  rw [List.drop_zero, List.take_length, hst, if_neg (by decide)] at he
  have hl : (W.take (W.length - len)).length = W.length - len := by rw [List.length_take]; omega
  have hd := del_end (g := g) (n := n + 2) (b := 0) (q := .int q) hM hW (m := W.length - len) (by omega) (c := ((W.length - len : Nat) : Int)) (Int.le_refl _)
  have hcn := cons2_none (n := n + 1) (br := ((W.length - len : Nat) : Int)) (kt := ((W.length - len : Nat) : Int)) hM hc ha1 T1 (W := W.take (W.length - len)) (q := q) (by rw [hl]; omega) (by rw [hl]; omega) h1
  have hl' : ((W.length - len : Nat) : Int) = ((W.take (W.length - len)).length : Int) := by rw [hl]
  rw [show F (W.take (W.length - len)) ((W.length - len : Nat) : Int) (W.take (W.length - len)).length 0 ((W.length - len : Nat) : Int) ((W.length - len : Nat) : Int) (.int q) = S0 (W.take (W.length - len)) q ((W.length - len : Nat) : Int) ((W.length - len : Nat) : Int) by
    show _ = F (W.take (W.length - len)) ((W.take (W.length - len)).length : Int) ((W.take (W.length - len)).length : Int) 0 _ _ _
    rw [hl]] at hd
  refine ⟨_, _, _, _, .mthR (σ' := ⟨S0 (W.take (W.length - len)) q ((W.length - len : Nat) : Int) (W.take (W.length - len)).length, setA .v_4 (.int (((W.take (W.length - len)).length : Int) - (W.take (W.length - len)).length)) (setA .among_var (.int 1) (setA .v_3 (.int 0) [(.v_1, .int ((W.length : Int) - W.length))]))⟩) (v := .bool true) hm rfl ?_⟩
  refine .cons (.setL rfl) (.cons (.tryC (.cons (.setF (v := .int W.length) rfl) (.stop (.notT (vs := [.str (st [115, 116])]) rfl he (.stop .raise rfl)) rfl))) (.cons (.setF (v := .int W.length) ?_) (main_some hM (by decide) ha T hq hW h (by decide) (by omega) [(.v_1, .int ((W.length : Int) - W.length))] ?_)))
  · show some (MV.int ((W.length : Int) - ((W.length : Int) - (W.length : Int)))) = _
    congr 2; omega
  · refine .cons (.iteT av_eq (.cons (.call rfl hd) (.cons (.setL rfl) (.cons (.call rfl hcn) (.cons (.setF (v := .int (W.take (W.length - len)).length) ?_) .nil))))) (.stop (.ret rfl) rfl)
    show some (MV.int (((W.take (W.length - len)).length : Int) - (((W.take (W.length - len)).length : Int) - ((W.take (W.length - len)).length : Int)))) = _
    congr 2; omega

/-- r_undouble -/
theorem undouble_ex (hM : Base M) (hm : M .r_undouble = some ([], P_undouble)) {lu : Addr} {U : List Str} (hlu : g.gattr .da .g_undouble_c = some lu) (hU : g.set lu = some U) {W : List Nat} {q : Nat} {br kt : Int} (hq : q ≤ W.length) (hW : W.length ≤ bigLine) (h2 : 2 ≤ W.length)
    (hne : q < W.length → inS U (W.getD (W.length - 1) 0) = true → [W.getD (W.length - 1) 0].isSuffixOf (W.take (W.length - 1)) = false) :
    ∃ v c br' k', Ex g M (n + 4) (.mth .r_undouble [] (S0 W q br kt) v (F W c W.length 0 br' k' (.int q))) := by
  have b0 : ∀ σ : St, σ.fld = S0 W q br kt → ev g σ (.lt fC fP) = some (.bool false) := fun σ hσ => by
    show cmpI _ (getA Fld.cursor σ.fld) (getA Fld.p1 σ.fld) = _
    rw [hσ]
    show some (MV.bool (decide ((W.length : Int) < q))) = _
    rw [decide_eq_false (by omega)]
  by_cases hlt : q < W.length
  · have hb := in_b_ex (g := g) (n := n + 2) (l := W.length) (br := br) (k := W.length) (q := .int q) (c := W.length) (b := q) hM hU hW hlt (Nat.le_refl _)
    cases hin : inS U (W.getD (W.length - 1) 0) with
    | false =>
      rw [hin, if_neg (by decide)] at hb
      refine ⟨_, _, _, _, .mthR (σ' := ⟨S0 W q br W.length, [(.v_2, .int 0)]⟩) (v := .bool false) hm rfl ?_⟩
      exact .cons (.iteF (b0 _ rfl) .nil) (.cons (.setL (v := .int 0) rfl) (.cons (.setF (v := .int q) rfl) (.cons (.setF (v := .int W.length) rfl) (.stop (.notT (evs_glob hlu) hb (.cons (.setF (v := .int 0) rfl) (.stop (.ret rfl) rfl))) rfl))))
    | true =>
      rw [hin, if_pos rfl] at hb
      have hs := slice_to_ex (g := g) (n := n + 2) (c := ((W.length - 1 : Nat) : Int)) (b := q) (br := W.length - 1) (k := W.length) (q := .int q) hM hW (Nat.sub_le _ _) (Nat.le_refl _)
      have hx : (W.take W.length).drop (W.length - 1) = [W.getD (W.length - 1) 0] := by
        rw [List.take_length, List.drop_eq_getElem_cons (show W.length - 1 < W.length by omega), List.drop_eq_nil_of_le (by omega), List.getD_eq_getElem?_getD, List.getElem?_eq_getElem (show W.length - 1 < W.length by omega)]
        rfl
      rw [hx] at hs
      have he := eq_s_b_ex (g := g) (n := n + 2) (x := [W.getD (W.length - 1) 0]) (l := W.length) (br := ((W.length - 1 : Nat) : Int)) (k := W.length) (q := .int q) (c := W.length - 1) (b := 0) hM hW (by simp [bigLine]) (Nat.zero_le _) (Nat.sub_le _ _)
      rw [List.drop_zero, hne hlt hin, if_neg (by decide)] at he
      refine ⟨_, _, _, _, .mthR (σ' := ⟨F W ((W.length - 1 : Nat) : Int) W.length 0 ((W.length - 1 : Nat) : Int) W.length (.int q), [(.v_2, .int 0), (.S_ch, .str (st [W.getD (W.length - 1) 0]))]⟩) (v := .bool false) hm rfl ?_⟩
      exact .cons (.iteF (b0 _ rfl) .nil) (.cons (.setL (v := .int 0) rfl) (.cons (.setF (v := .int q) rfl) (.cons (.setF (v := .int W.length) rfl) (.cons (.notF (evs_glob hlu) hb) (.cons (.setF (v := .int ((W.length - 1 : Nat) : Int)) rfl) (.cons (.setC rfl hs) (.cons (.setF (v := .int 0) rfl) (.stop (.notT rfl he (.stop (.ret rfl) rfl)) rfl))))))))
  · have hb := in_b_no (g := g) (n := n + 2) (l := W.length) (br := br) (k := W.length) (q := .int q) (c := W.length) (b := q) (W := W) (s := lu) hM (by omega)
    refine ⟨_, _, _, _, .mthR (σ' := ⟨S0 W q br W.length, [(.v_2, .int 0)]⟩) (v := .bool false) hm rfl ?_⟩
    exact .cons (.iteF (b0 _ rfl) .nil) (.cons (.setL (v := .int 0) rfl) (.cons (.setF (v := .int q) rfl) (.cons (.setF (v := .int W.length) rfl) (.stop (.notT (evs_glob hlu) hb (.cons (.setF (v := .int 0) rfl) (.stop (.ret rfl) rfl))) rfl))))
end
end Sb
end

section
open PySem
set_option Elab.async false
set_option maxRecDepth 100000
set_option linter.constructorNameAsVariable false
set_option linter.unusedVariables false
set_option linter.unusedSimpArgs false
namespace Sb

section
variable {g : Sg} {M : Meths} {n : Nat}

theorem apo_st : ("'" : Str) = st [39] := by rfl
theorem st_ne {x y : Nat} (h : x ≠ y) : (st [x] == st [y]) = false := by
  apply Bool.eq_false_iff.mpr
  intro e
  have e1 : st [x] = st [y] := eq_of_beq e
  have e2 : [x] = [y] := by
    have := congrArg (fun s : Str => s.cps.toList) e1
    simpa using this
  injection e2 with e3
  exact h e3

theorem orr_t {σ : St} {a b : IX} (h : ev g σ a = some (.bool true)) : ev g σ (.orr a b) = some (.bool true) := by simp only [ev, h]
theorem orr_ft {σ : St} {a b : IX} {c : Bool} (h : ev g σ a = some (.bool false)) (h' : ev g σ b = some (.bool c)) : ev g σ (.orr a b) = some (.bool c) := by simp only [ev, h, h']

abbrev scanB (k : Cls) : List IS := [
  .tryx [.ife (.orr (.eq fC fL) (.ne (.idx fCur fC) (.lit (.str "'")))) (thr k .l2) [], .augF .cursor true n1, .brk] k .l2,
  .ife (.ge fC fL) (thr k .l1) [],
  .augF .cursor true n1]

theorem scan_ex {k : Cls} {W : List Nat} {b br kt : Int} {q : MV} {L : List (Loc × MV)} (hW : W.length ≤ bigLine) (hno : ∀ i, i < W.length → W.getD i 0 ≠ 39) :
    ∀ (d c : Nat), c + d = W.length → Ex g M n (.loop tt (scanB k) ⟨F W c W.length b br kt q, L⟩ (.exc k .l1) ⟨F W W.length W.length b br kt q, L⟩)
  | 0, c, hc => by
    obtain rfl : c = W.length := by omega
    refine .loopX rfl (.cons (.tryC (.stop (.iteT ?_ (.stop .raise rfl)) rfl)) (.stop (.iteT (bool_of (b := decide ((W.length : Int) ≤ W.length)) rfl (decide_eq_true (Int.le_refl _))) (.stop .raise rfl)) rfl))
    have h1 : ev g ⟨F W W.length W.length b br kt q, L⟩ (.eq fC fL) = some (.bool true) := by
      show some (MV.bool (((W.length : Int)) == (W.length : Int))) = _
      rw [beq_self_eq_true]
    exact orr_t h1
  | d + 1, c, hc => by
    have hcl : c < W.length := by omega
    have h1 : ev g ⟨F W c W.length b br kt q, L⟩ (.eq fC fL) = some (.bool false) := by
      show some (MV.bool (((c : Int)) == (W.length : Int))) = _
      congr 2
      exact beq_eq_false_iff_ne.mpr (by omega)
    have h2 : ev g ⟨F W c W.length b br kt q, L⟩ (.ne (.idx fCur fC) (.lit (.str "'"))) = some (.bool true) := by
      show notV (eqV (idxV g (some (.str (st W))) (some (.int (c : Int)))) (some (.str "'"))) = _
      rw [idx_str hcl hW, apo_st]
      show some (MV.bool (!(st [W.getD c 0] == st [39]))) = _
      rw [st_ne (hno c hcl)]; rfl
    have h3 : ev g ⟨F W c W.length b br kt q, L⟩ (.orr (.eq fC fL) (.ne (.idx fCur fC) (.lit (.str "'")))) = some (.bool true) := orr_ft h1 h2
    have := scan_ex (k := k) (b := b) (br := br) (kt := kt) (q := q) (L := L) hW hno d (c + 1) (by omega)
    rw [show ((c + 1 : Nat) : Int) = (c : Int) + 1 from by omega] at this
    exact .loopN rfl (.cons (.tryC (.stop (.iteT h3 (.stop .raise rfl)) rfl)) (.cons (.iteF (bool_of (b := decide ((W.length : Int) ≤ c)) rfl (decide_eq_false (by omega))) .nil) (.cons (.augF (v := (c : Int) + 1) rfl) .nil))) this

/-- the first vowel and the first other sign behind it -/
structure Mk (V : List Str) (W : List Nat) (i : Nat) : Prop where
  ex : ∃ j, j < i ∧ inS V (W.getD j 0) = true ∧ (∀ m, m < j → inS V (W.getD m 0) = false) ∧ ∀ m, j + 1 ≤ m → m < i → inS V (W.getD m 0) = true
  out : inS V (W.getD i 0) = false
  lt : i < W.length

abbrev mkQ (i : Nat) : Nat := if 3 ≤ i + 1 then i + 1 else 3

theorem mark2_blk (hM : Base M) {k : Cls} {lv : Addr} {V : List Str} (hlv : g.gattr k .g_v = some lv) (hV : g.set lv = some V) {W : List Nat} {i : Nat} (hW : W.length ≤ bigLine) (h3 : 3 ≤ W.length) (hno : ∀ i, i < W.length → W.getD i 0 ≠ 39) (hk : Mk V W i) :
    ∃ σ', Ex g M (n + 1) (.blk ((P_mark2 k).drop 1) ⟨F W 0 W.length 0 0 W.length (.int W.length), []⟩ (.ret (.bool true)) σ') ∧ σ'.fld = F W 0 W.length 0 0 W.length (.int (mkQ i)) := by
  obtain ⟨j, hji, hj, hbj, hin⟩ := hk.ex
  have hs := scan_ex (g := g) (M := M) (n := n + 1) (k := k) (b := 0) (br := 0) (kt := W.length) (q := .int W.length) (L := [(.v_1, .int 0), (.v_2, .int 0)]) hW hno W.length 0 (by omega)
  have ho := go_out_ex (g := g) (n := n) (c := 0) (l := W.length) (b := 0) (br := 0) (k := W.length) (q := .int W.length) hM hV hW (Nat.zero_le j) (by have := hk.lt; omega) (by have := hk.lt; omega) hj (fun m _ h => hbj m h)
  have hi := go_in_ex (g := g) (n := n) (c := j + 1) (l := W.length) (b := 0) (br := 0) (k := W.length) (q := .int W.length) hM hV hW (j := i) (by omega) hk.lt (by have := hk.lt; omega) hk.out hin
  rw [show ((j + 1 : Nat) : Int) = (j : Int) + 1 from by omega] at hi
  refine ⟨⟨F W 0 W.length 0 0 W.length (.int (mkQ i)), [(.v_1, .int 0), (.v_2, .int 0), (.v_3, .int 0)]⟩, ?_, rfl⟩
  refine .cons (.setL (v := .int 0) rfl) (.cons (.tryN (.cons (.whil (.loopB rfl (.cons (.setL (v := .int 0) rfl) (.cons (.tryC (.stop (.whil hs) rfl)) (.cons (.setF (v := .int 0) rfl) (.cons (.notF (evs_glob hlv) ho) (.cons (.augF (v := (j : Int) + 1) rfl) (.cons (.notF (evs_glob hlv) hi) (.cons (.augF (v := (i : Int) + 1) rfl) (.stop .brk rfl)))))))))) (.cons (.setF (v := .int ((i : Int) + 1)) rfl) .nil)) trivial) ?_)
  refine .cons (.setF (v := .int 0) rfl) (.cons (.setL (v := .int 0) rfl) (.cons (.iteF (bool_of (b := decide ((W.length : Int) < 0 + 3)) rfl (decide_eq_false (by omega))) .nil) (.cons (.augF (v := 3) rfl) ?_)))
  by_cases h : 3 ≤ i + 1
  · rw [show mkQ i = i + 1 from if_pos h]
    exact .cons (.tryC (.stop (.iteT (bool_of (b := decide ((3 : Int) ≤ (i : Int) + 1)) rfl (decide_eq_true (by omega))) (.stop .raise rfl)) rfl)) (.cons (.setF (v := .int 0) rfl) (.stop (.ret rfl) rfl))
  · rw [show mkQ i = 3 from if_neg h]
    exact .cons (.tryN (.cons (.iteF (bool_of (b := decide ((3 : Int) ≤ (i : Int) + 1)) rfl (decide_eq_false (by omega))) .nil) (.cons (.setF (v := .int 3) rfl) .nil)) trivial) (.cons (.setF (v := .int 0) rfl) (.stop (.ret rfl) rfl))

theorem mark_sv_blk (hM : Base M) {lv : Addr} {V : List Str} (hlv : g.gattr .sv .g_v = some lv) (hV : g.set lv = some V) {W : List Nat} {i : Nat} (hW : W.length ≤ bigLine) (h3 : 3 ≤ W.length) (hk : Mk V W i) :
    ∃ σ', Ex g M (n + 1) (.blk (P_mark_sv.drop 1) ⟨F W 0 W.length 0 0 W.length (.int W.length), []⟩ (.ret (.bool true)) σ') ∧ σ'.fld = F W ((i : Int) + 1) W.length 0 0 W.length (.int (mkQ i)) := by
  obtain ⟨j, hji, hj, hbj, hin⟩ := hk.ex
  have ho := go_out_ex (g := g) (n := n) (c := 0) (l := W.length) (b := 0) (br := 0) (k := W.length) (q := .int W.length) hM hV hW (Nat.zero_le j) (by have := hk.lt; omega) (by have := hk.lt; omega) hj (fun m _ h => hbj m h)
  have hi := go_in_ex (g := g) (n := n) (c := j + 1) (l := W.length) (b := 0) (br := 0) (k := W.length) (q := .int W.length) hM hV hW (j := i) (by omega) hk.lt (by have := hk.lt; omega) hk.out hin
  rw [show ((j + 1 : Nat) : Int) = (j : Int) + 1 from by omega] at hi
  refine ⟨⟨F W ((i : Int) + 1) W.length 0 0 W.length (.int (mkQ i)), [(.v_1, .int 0), (.I_x, .int 3)]⟩, ?_, rfl⟩
  refine .cons (.setL (v := .int 0) rfl) (.cons (.iteF (bool_of (b := decide ((W.length : Int) < 0 + 3)) rfl (decide_eq_false (by omega))) .nil) (.cons (.augF (v := 3) rfl) (.cons (.setL (v := .int 3) rfl) (.cons (.setF (v := .int 0) rfl) (.cons (.notF (evs_glob hlv) ho) (.cons (.augF (v := (j : Int) + 1) rfl) (.cons (.notF (evs_glob hlv) hi) (.cons (.augF (v := (i : Int) + 1) rfl) (.cons (.setF (v := .int ((i : Int) + 1)) rfl) ?_)))))))))
  by_cases h : 3 ≤ i + 1
  · rw [show mkQ i = i + 1 from if_pos h]
    exact .cons (.tryC (.stop (.iteT (bool_of (b := decide ((3 : Int) ≤ (i : Int) + 1)) rfl (decide_eq_true (by omega))) (.stop .raise rfl)) rfl)) (.stop (.ret rfl) rfl)
  · rw [show mkQ i = 3 from if_neg h]
    exact .cons (.tryN (.cons (.iteF (bool_of (b := decide ((3 : Int) ≤ (i : Int) + 1)) rfl (decide_eq_false (by omega))) .nil) (.cons (.setF (v := .int 3) rfl) .nil)) trivial) (.stop (.ret rfl) rfl)

/-- the fields a stemmer may have between two calls -/
inductive GoodF : List (Fld × MV) → Prop
  | six (W : List Nat) (c l b br k : Int) : GoodF (F6 W c l b br k)
  | seven (W : List Nat) (c l b br k : Int) (q : MV) : GoodF (F W c l b br k q)
/-- behind set_current -/
inductive SetTo (W : List Nat) : List (Fld × MV) → Prop
  | six : SetTo W (F6 W 0 W.length 0 0 W.length)
  | seven (q : MV) : SetTo W (F W 0 W.length 0 0 W.length q)

theorem set_to (hM : Base M) {f : List (Fld × MV)} (hf : GoodF f) {W : List Nat} (hW : W.length ≤ bigLine) : ∃ f', SetTo W f' ∧ Ex g M (n + 1) (.mth .set_current [.str (st W)] f .none f') := by
  cases hf with
  | six => exact ⟨_, .six, set_current_ex6 hM hW⟩
  | seven _ _ _ _ _ _ q => exact ⟨_, .seven q, set_current_ex hM hW⟩

theorem p1_set {W : List Nat} {f : List (Fld × MV)} (h : SetTo W f) : getA .limit f = some (.int W.length) ∧ setA .p1 (.int W.length) f = F W 0 W.length 0 0 W.length (.int W.length) := by cases h <;> exact ⟨rfl, rfl⟩

theorem mark2_ex (hM : Base M) {k : Cls} (hm : M .r_mark = some ([], P_mark2 k)) {lv : Addr} {V : List Str} (hlv : g.gattr k .g_v = some lv) (hV : g.set lv = some V) {W : List Nat} {i : Nat} (hW : W.length ≤ bigLine) (h3 : 3 ≤ W.length) (hno : ∀ i, i < W.length → W.getD i 0 ≠ 39) (hk : Mk V W i) {f : List (Fld × MV)} (hf : SetTo W f) :
    Ex g M (n + 2) (.mth .r_mark [] f (.bool true) (F W 0 W.length 0 0 W.length (.int (mkQ i)))) := by
  obtain ⟨σ', h1, h2⟩ := mark2_blk (n := n) hM hlv hV hW h3 hno hk
  rw [← h2]
  obtain ⟨p, p'⟩ := p1_set hf
  have e : (St.setF ⟨f, []⟩ .p1 (.int W.length)) = ⟨F W 0 W.length 0 0 W.length (.int W.length), []⟩ := by show St.mk (setA _ _ f) [] = _; rw [p']
  exact .mthR (σ' := σ') hm rfl (.cons (.setF (v := .int W.length) p) (e ▸ h1))
theorem mark_sv_ex (hM : Base M) (hm : M .r_mark = some ([], P_mark_sv)) {lv : Addr} {V : List Str} (hlv : g.gattr .sv .g_v = some lv) (hV : g.set lv = some V) {W : List Nat} {i : Nat} (hW : W.length ≤ bigLine) (h3 : 3 ≤ W.length) (hk : Mk V W i) {f : List (Fld × MV)} (hf : SetTo W f) :
    Ex g M (n + 2) (.mth .r_mark [] f (.bool true) (F W ((i : Int) + 1) W.length 0 0 W.length (.int (mkQ i)))) := by
  obtain ⟨σ', h1, h2⟩ := mark_sv_blk (n := n) hM hlv hV hW h3 hk
  rw [← h2]
  obtain ⟨p, p'⟩ := p1_set hf
  have e : (St.setF ⟨f, []⟩ .p1 (.int W.length)) = ⟨F W 0 W.length 0 0 W.length (.int W.length), []⟩ := by show St.mk (setA _ _ f) [] = _; rw [p']
  exact .mthR (σ' := σ') hm rfl (.cons (.setF (v := .int W.length) p) (e ▸ h1))

/-- a stage: text W becomes W' -/
def Stg (g : Sg) (M : Meths) (N : Nat) (m : Mth) (q : Nat) (W W' : List Nat) : Prop := ∀ br k : Int, ∃ v c br' k', Ex g M N (.mth m [] (S0 W q br k) v (F W' c W'.length 0 br' k' (.int q)))
/-- the rest of _stem: the text becomes R -/
def Fin (g : Sg) (M : Meths) (N : Nat) (b : List IS) (q : Nat) (W R : List Nat) : Prop := ∀ (br k : Int) (L : List (Loc × MV)), ∃ v σ', Ex g M N (.blk b ⟨S0 W q br k, L⟩ (.ret v) σ') ∧ ∃ c l b' br' k', σ'.fld = F R c l b' br' k' (.int q)

theorem stage_fin {N : Nat} {m : Mth} {v : Loc} {rest : List IS} {q : Nat} {W W' R : List Nat} (h1 : Stg g M N m q W W') (h2 : Fin g M N rest q W' R) : Fin g M N (stage v m ++ rest) q W R := by
  intro br k L
  obtain ⟨w, c, br', k', h⟩ := h1 br k
  obtain ⟨u, σ', h3, h4⟩ := h2 br' k' (setA v (.int ((W.length : Int) - W.length)) L)
  refine ⟨u, σ', .cons (.setL (v := .int ((W.length : Int) - W.length)) rfl) (.cons (.call rfl h) (.cons (.setF (v := .int W'.length) ?_) h3)), h4⟩
  show arI _ (some (.int (W'.length : Int))) (getA v (setA v _ L)) = _
  rw [getA_set, if_pos rfl]
  show some (MV.int ((W'.length : Int) - ((W.length : Int) - W.length))) = _
  congr 2; omega
theorem last_fin {N : Nat} {q : Nat} {W : List Nat} (hW : W.length ≤ bigLine) (h0 : 0 < W.length) (hl : W.getD (W.length - 1) 0 ≠ 39) : Fin g M N lastSign q W W := by
  intro br k L
  refine ⟨.bool false, ⟨S0 W q br W.length, L⟩, .cons (.setF (v := .int W.length) rfl) (.stop (.iteT ?_ (.stop (.ret rfl) rfl)) rfl), _, _, _, _, _, rfl⟩
  have h1 : ev g ⟨S0 W q br W.length, L⟩ (.le fC fB) = some (.bool false) := by
    show some (MV.bool (decide ((W.length : Int) ≤ 0))) = _
    rw [decide_eq_false (by omega)]
  have h2 : ev g ⟨S0 W q br W.length, L⟩ (.ne (.idx fCur (.sub fC n1)) (.lit (.str "'"))) = some (.bool true) := by
    show notV (eqV (idxV g (some (.str (st W))) (some (.int ((W.length : Int) - 1)))) (some (.str "'"))) = _
    rw [idxN (i := W.length - 1) (by omega) (by omega) hW, apo_st]
    show some (MV.bool (!(st [W.getD (W.length - 1) 0] == st [39]))) = _
    rw [st_ne hl]; rfl
  exact orr_ft h1 h2
theorem end_fin {N : Nat} {q : Nat} {W : List Nat} : Fin g M N [.setF .cursor fB, .ret tt] q W W := fun br k L =>
  ⟨.bool true, ⟨F W 0 W.length 0 br k (.int q), L⟩, .cons (.setF (v := .int 0) rfl) (.stop (.ret rfl) rfl), _, _, _, _, _, rfl⟩

theorem stem_da_ex (hm : M .stem = some ([], P_stem_da)) {N : Nat} {W W1 W2 W3 R : List Nat} {q : Nat} {f : List (Fld × MV)} (h0 : Ex g M N (.mth .r_mark [] f (.bool true) (F W 0 W.length 0 0 W.length (.int q))))
    (h1 : Stg g M N .r_main q W W1) (h2 : Stg g M N .r_cons q W1 W2) (h3 : Stg g M N .r_other q W2 W3) (h4 : Stg g M N .r_undouble q W3 R) (hR : R.length ≤ bigLine) (hp : 0 < R.length) (hl : R.getD (R.length - 1) 0 ≠ 39) :
    ∃ v c l b br k, Ex g M (N + 1) (.mth .stem [] f v (F R c l b br k (.int q))) := by
  obtain ⟨v, σ', h5, c, l, b', br', k', h6⟩ := stage_fin (v := .v_1) h1 (stage_fin (v := .v_2) h2 (stage_fin (v := .v_3) h3 (stage_fin (v := .v_4) h4 (last_fin hR hp hl)))) 0 (W.length : Int) []
  refine ⟨v, c, l, b', br', k', ?_⟩
  rw [← h6]
  exact .mthR hm rfl (.cons (.notF rfl h0) (.cons (.setF (v := .int 0) rfl) (.cons (.setF (v := .int W.length) rfl) h5)))
theorem stem_no_ex (hm : M .stem = some ([], P_stem_no)) {N : Nat} {W W1 W2 R : List Nat} {q : Nat} {f : List (Fld × MV)} (h0 : Ex g M N (.mth .r_mark [] f (.bool true) (F W 0 W.length 0 0 W.length (.int q))))
    (h1 : Stg g M N .r_main q W W1) (h2 : Stg g M N .r_cons q W1 W2) (h3 : Stg g M N .r_other q W2 R) (hR : R.length ≤ bigLine) (hp : 0 < R.length) (hl : R.getD (R.length - 1) 0 ≠ 39) :
    ∃ v c l b br k, Ex g M (N + 1) (.mth .stem [] f v (F R c l b br k (.int q))) := by
  obtain ⟨v, σ', h5, c, l, b', br', k', h6⟩ := stage_fin (v := .v_1) h1 (stage_fin (v := .v_2) h2 (stage_fin (v := .v_3) h3 (last_fin hR hp hl))) 0 (W.length : Int) []
  refine ⟨v, c, l, b', br', k', ?_⟩
  rw [← h6]
  exact .mthR hm rfl (.cons (.notF rfl h0) (.cons (.setF (v := .int 0) rfl) (.cons (.setF (v := .int W.length) rfl) h5)))
theorem stem_sv_ex (hm : M .stem = some ([], P_stem_sv)) {N : Nat} {W W1 W2 R : List Nat} {q : Nat} {c0 : Int} {f : List (Fld × MV)} (hf : getA .cursor f = some (.int 0)) (h0 : Ex g M N (.mth .r_mark [] f (.bool true) (F W c0 W.length 0 0 W.length (.int q))))
    (h1 : Stg g M N .r_main q W W1) (h2 : Stg g M N .r_cons q W1 W2) (h3 : Stg g M N .r_other q W2 R) :
    ∃ v c l b br k, Ex g M (N + 1) (.mth .stem [] f v (F R c l b br k (.int q))) := by
  obtain ⟨v, σ', h5, c, l, b', br', k', h6⟩ := stage_fin (v := .v_2) h1 (stage_fin (v := .v_3) h2 (stage_fin (v := .v_4) h3 end_fin)) 0 (W.length : Int) [(.v_1, .int 0)]
  refine ⟨v, c, l, b', br', k', ?_⟩
  rw [← h6]
  exact .mthR hm rfl (.cons (.setL (v := .int 0) hf) (.cons (.call rfl h0) (.cons (.setF (v := .int 0) rfl) (.cons (.setF (v := .int 0) rfl) (.cons (.setF (v := .int W.length) rfl) h5)))))

theorem stemWord_ex (hM : Base M) {N : Nat} {W R : List Nat} (hW : W.length ≤ bigLine)
    (h : ∀ f, SetTo W f → ∃ v c l b br k q, Ex g M (N + 1) (.mth .stem [] f v (F R c l b br k q))) {f : List (Fld × MV)} (hf : GoodF f) : ∃ f', GoodF f' ∧ Ex g M (N + 2) (.mth .stemWord [.str (st W)] f (.str (st R)) f') := by
  obtain ⟨f1, hf1, h1⟩ := set_to (g := g) (n := N) hM hf hW
  obtain ⟨v, c, l, b, br, k, q, h2⟩ := h f1 hf1
  have h3 := get_current_ex (g := g) (n := N) hM (W := R) (c := c) (l := l) (b := b) (br := br) (k := k) (q := q)
  exact ⟨_, .seven R c l b br k q, .mthR (σ' := ⟨F R c l b br k q, [(.word, .str (st W))]⟩) hM.stemWord rfl (.cons (.call rfl h1) (.cons (.call rfl h2) (.stop (.retC rfl h3) rfl)))⟩
end
end Sb
end

section
open PySem
set_option Elab.async false
set_option maxRecDepth 100000
set_option linter.constructorNameAsVariable false
set_option linter.unusedVariables false
set_option linter.unusedSimpArgs false
namespace Sb

def N_da_undouble_c : List Nat := [98, 100, 102, 103, 107, 108, 109, 110, 112, 114, 115, 116]
def N_da_v : List Nat := [97, 101, 105, 111, 117, 121, 229, 230, 248]
def N_da_s_ending : List Nat := [39, 97, 98, 99, 100, 102, 103, 104, 106, 107, 108, 109, 110, 111, 112, 114, 116, 118, 121, 122, 229]
def A_da_0 : List Entry := [([104, 101, 100], -1, 1), ([101, 116, 104, 101, 100], 0, 1), ([101, 114, 101, 100], -1, 1), ([101], -1, 1), ([101, 114, 101, 100, 101], 3, 1), ([101, 110, 100, 101], 3, 1), ([101, 114, 101, 110, 100, 101], 5, 1), ([101, 110, 101], 3, 1), ([101, 114, 110, 101], 3, 1), ([101, 114, 101], 3, 1), ([101, 110], -1, 1), ([104, 101, 100, 101, 110], 10, 1), ([101, 114, 101, 110], 10, 1), ([101, 114], -1, 1), ([104, 101, 100, 101, 114], 13, 1), ([101, 114, 101, 114], 13, 1), ([115], -1, 2), ([104, 101, 100, 115], 16, 1), ([101, 115], 16, 1), ([101, 110, 100, 101, 115], 18, 1), ([101, 114, 101, 110, 100, 101, 115], 19, 1), ([101, 110, 101, 115], 18, 1), ([101, 114, 110, 101, 115], 18, 1), ([101, 114, 101, 115], 18, 1), ([101, 110, 115], 16, 1), ([104, 101, 100, 101, 110, 115], 24, 1), ([101, 114, 101, 110, 115], 24, 1), ([101, 114, 115], 16, 1), ([101, 116, 115], 16, 1), ([101, 114, 101, 116, 115], 28, 1), ([101, 116], -1, 1), ([101, 114, 101, 116], 30, 1)]
def A_da_1 : List Entry := [([103, 100], -1, -1), ([100, 116], -1, -1), ([103, 116], -1, -1), ([107, 116], -1, -1)]
def A_da_2 : List Entry := [([105, 103], -1, 1), ([108, 105, 103], 0, 1), ([101, 108, 105, 103], 1, 1), ([101, 108, 115], -1, 1), ([108, 248, 115, 116], -1, 2)]
def N_no_v : List Nat := [97, 101, 105, 111, 117, 121, 229, 230, 234, 242, 243, 244, 248]
def N_no_s_ending : List Nat := [98, 99, 100, 102, 103, 104, 106, 108, 109, 110, 111, 112, 116, 118, 121, 122]
def A_no_0 : List Entry := [([], -1, 1), ([105, 110, 100], 0, -1), ([107, 107], 0, -1), ([110, 107], 0, -1), ([97, 109, 109], 0, -1), ([111, 109, 109], 0, -1), ([107, 97, 112], 0, -1), ([115, 107, 97, 112], 6, 1), ([112, 112], 0, -1), ([108, 116], 0, -1), ([97, 115, 116], 0, -1), ([248, 115, 116], 0, -1), ([118], 0, -1), ([104, 97, 118], 12, 1), ([103, 105, 118], 12, 1)]
def A_no_1 : List Entry := [([97], -1, 1), ([101], -1, 1), ([101, 100, 101], 1, 1), ([97, 110, 100, 101], 1, 1), ([101, 110, 100, 101], 1, 1), ([97, 110, 101], 1, 1), ([101, 110, 101], 1, 1), ([104, 101, 116, 101, 110, 101], 6, 1), ([101, 114, 116, 101], 1, 4), ([101, 110], -1, 1), ([104, 101, 116, 101, 110], 9, 1), ([97, 114], -1, 1), ([101, 114], -1, 1), ([104, 101, 116, 101, 114], 12, 1), ([115], -1, 3), ([97, 115], 14, 1), ([101, 115], 14, 1), ([101, 100, 101, 115], 16, 1), ([101, 110, 100, 101, 115], 16, 1), ([101, 110, 101, 115], 16, 1), ([104, 101, 116, 101, 110, 101, 115], 19, 1), ([101, 110, 115], 14, 1), ([104, 101, 116, 101, 110, 115], 21, 1), ([101, 114, 115], 14, 2), ([101, 116, 115], 14, 1), ([101, 116], -1, 1), ([104, 101, 116], 25, 1), ([101, 114, 116], -1, 4), ([97, 115, 116], -1, 1)]
def A_no_2 : List Entry := [([100, 116], -1, -1), ([118, 116], -1, -1)]
def A_no_3 : List Entry := [([108, 101, 103], -1, 1), ([101, 108, 101, 103], 0, 1), ([105, 103], -1, 1), ([101, 105, 103], 2, 1), ([108, 105, 103], 2, 1), ([101, 108, 105, 103], 4, 1), ([101, 108, 115], -1, 1), ([108, 111, 118], -1, 1), ([101, 108, 111, 118], 7, 1), ([115, 108, 111, 118], 7, 1), ([104, 101, 116, 115, 108, 111, 118], 9, 1)]
def N_sv_v : List Nat := [97, 101, 105, 111, 117, 121, 228, 229, 246]
def N_sv_s_ending : List Nat := [98, 99, 100, 102, 103, 104, 106, 107, 108, 109, 110, 111, 112, 114, 116, 118, 121]
def N_sv_ost_ending : List Nat := [105, 107, 108, 110, 112, 114, 116, 117, 118]
def A_sv_0 : List Entry := [([102, 97, 98], -1, -1), ([104], -1, -1), ([112, 97, 107], -1, -1), ([114, 97, 107], -1, -1), ([115, 116, 97, 107], -1, -1), ([107, 111, 109], -1, -1), ([105, 101, 116], -1, -1), ([99, 105, 116], -1, -1), ([100, 105, 116], -1, -1), ([97, 108, 105, 116], -1, -1), ([105, 108, 105, 116], -1, -1), ([109, 105, 116], -1, -1), ([110, 105, 116], -1, -1), ([112, 105, 116], -1, -1), ([114, 105, 116], -1, -1), ([115, 105, 116], -1, -1), ([116, 105, 116], -1, -1), ([117, 105, 116], -1, -1), ([105, 118, 105, 116], -1, -1), ([107, 118, 105, 116], -1, -1), ([120, 105, 116], -1, -1)]
def A_sv_1 : List Entry := [([97], -1, 1), ([97, 114, 110, 97], 0, 1), ([101, 114, 110, 97], 0, 1), ([104, 101, 116, 101, 114, 110, 97], 2, 1), ([111, 114, 110, 97], 0, 1), ([97, 100], -1, 1), ([101], -1, 1), ([97, 100, 101], 6, 1), ([97, 110, 100, 101], 6, 1), ([97, 114, 110, 101], 6, 1), ([97, 114, 101], 6, 1), ([97, 115, 116, 101], 6, 1), ([101, 110], -1, 1), ([97, 110, 100, 101, 110], 12, 1), ([97, 114, 101, 110], 12, 1), ([104, 101, 116, 101, 110], 12, 1), ([101, 114, 110], -1, 1), ([97, 114], -1, 1), ([101, 114], -1, 1), ([104, 101, 116, 101, 114], 18, 1), ([111, 114], -1, 1), ([115], -1, 2), ([97, 115], 21, 1), ([97, 114, 110, 97, 115], 22, 1), ([101, 114, 110, 97, 115], 22, 1), ([111, 114, 110, 97, 115], 22, 1), ([101, 115], 21, 1), ([97, 100, 101, 115], 26, 1), ([97, 110, 100, 101, 115], 26, 1), ([101, 110, 115], 21, 1), ([97, 114, 101, 110, 115], 29, 1), ([104, 101, 116, 101, 110, 115], 29, 1), ([101, 114, 110, 115], 21, 1), ([97, 116], -1, 1), ([101, 116], -1, 3), ([97, 110, 100, 101, 116], 34, 1), ([104, 101, 116], 34, 1), ([97, 115, 116], -1, 1)]
def A_sv_2 : List Entry := [([100, 100], -1, -1), ([103, 100], -1, -1), ([110, 110], -1, -1), ([100, 116], -1, -1), ([103, 116], -1, -1), ([107, 116], -1, -1), ([116, 116], -1, -1)]
def A_sv_3 : List Entry := [([105, 103], -1, 1), ([108, 105, 103], 0, 1), ([101, 108, 115], -1, 1), ([102, 117, 108, 108, 116], -1, 3), ([246, 115, 116], -1, 2)]

/-! ## a text known from its end alone -/
/-- cmpF on a text of which just the first signs are known -/
def cmpP : List Nat → List Nat → Nat → Option (Int × Nat)
  | _, [], n => some (0, n)
  | [], _ :: _, _ => none
  | t :: T, x :: X, n => if t = x then cmpP T X (n + 1) else some ((t : Int) - x, n)
theorem cmpP_app (R : List Nat) : ∀ (T X : List Nat) (n : Nat) (r : Int × Nat), cmpP T X n = some r → cmpF (T ++ R) X n = r
  | T, [], n, r, h => by
    have : cmpP T [] n = some (0, n) := by cases T <;> rfl
    rw [this] at h; cases h
    cases T ++ R <;> rfl
  | [], x :: X, n, r, h => by cases h
  | t :: T, x :: X, n, r, h => by
    unfold cmpP at h
    show (if t = x then cmpF (T ++ R) X (n + 1) else ((t : Int) - x, n)) = r
    split at h
    · rename_i e; rw [if_pos e]; exact cmpP_app R T X (n + 1) r h
    · rename_i e; rw [if_neg e]; cases h; rfl
def findP (tbl : List Entry) (T : List Nat) : Nat → Nat → Nat → Nat → Nat → Bool → Option (Nat × Nat)
  | 0, _, _, _, _, _ => none
  | f + 1, i, j, ci, cj, fki => match tbl[i + (j - i) / 2]? with
    | none => none
    | some e => match Nat.ble (min ci cj) e.1.length with
      | false => none
      | true => match Nat.ble (min ci cj) T.length with
      | false => none
      | true => match cmpP (T.drop (min ci cj)) (e.1.reverse.drop (min ci cj)) (min ci cj) with
      | none => none
      | some (d, k) => match decide (d < 0) with
        | true => match decide (i + (j - i) / 2 - i ≤ 1) with
          | true => match decide (0 < i) || decide (i + (j - i) / 2 = i) || fki with
            | true => some (i, ci)
            | false => findP tbl T f i (i + (j - i) / 2) ci k true
          | false => findP tbl T f i (i + (j - i) / 2) ci k fki
        | false => match decide (j - (i + (j - i) / 2) ≤ 1) with
          | true => match decide (0 < i + (j - i) / 2) || decide (j = i + (j - i) / 2) || fki with
            | true => some (i + (j - i) / 2, k)
            | false => findP tbl T f (i + (j - i) / 2) j k cj true
          | false => findP tbl T f (i + (j - i) / 2) j k cj fki
theorem findP_app (tbl : List Entry) (T R : List Nat) : ∀ (f i j ci cj : Nat) (fki : Bool) (r : Nat × Nat), findP tbl T f i j ci cj fki = some r → findI tbl (T ++ R) f i j ci cj fki = some r
  | 0, _, _, _, _, _, _, h => by cases h
  | f + 1, i, j, ci, cj, fki, r, h => by
    unfold findP at h
    unfold findI
    split at h
    · cases h
    rename_i e he
    (try rw [he]); (try dsimp only)
    split at h
    · cases h
    rename_i hb
    (try rw [hb]); (try dsimp only)
    split at h
    · cases h
    rename_i hk
    rw [List.drop_append_of_le_length (Nat.le_of_ble_eq_true hk)]
    split at h
    · cases h
    rename_i d k hc
    rw [cmpP_app R _ _ _ _ hc]; (try dsimp only)
    split at h
    · rename_i hd
      (try rw [hd]); (try dsimp only)
      split at h
      · rename_i h1
        (try rw [h1]); (try dsimp only)
        split at h
        · rename_i h2; (try rw [h2]); exact h
        · rename_i h2; (try rw [h2]); exact findP_app tbl T R f _ _ _ _ _ _ h
      · rename_i h1; (try rw [h1]); exact findP_app tbl T R f _ _ _ _ _ _ h
    · rename_i hd
      (try rw [hd]); (try dsimp only)
      split at h
      · rename_i h1
        (try rw [h1]); (try dsimp only)
        split at h
        · rename_i h2; (try rw [h2]); exact h
        · rename_i h2; (try rw [h2]); exact findP_app tbl T R f _ _ _ _ _ _ h
      · rename_i h1; (try rw [h1]); exact findP_app tbl T R f _ _ _ _ _ _ h
def fbP (tbl : List Entry) (T : List Nat) : Option (Option (Nat × Int)) := match findP tbl T 40 0 tbl.length 0 0 false with
  | some (i, ci) => findJ tbl ci 40 i
  | none => none
theorem fbP_app {tbl : List Entry} {T : List Nat} (R : List Nat) {r : Option (Nat × Int)} (h : fbP tbl T = some r) : fb tbl (T ++ R) = some r := by
  unfold fbP at h
  unfold fb
  split at h
  · rename_i i ci he
    rw [findP_app tbl T R _ _ _ _ _ _ _ he]; exact h
  · cases h

/-! ## words with a known end: W = R0 ++ K.reverse; q stands at K's m-th sign from the end, or before K -/
abbrev wd (R0 K : List Nat) : List Nat := R0 ++ K.reverse
theorem wd_len {R0 K : List Nat} : (wd R0 K).length = R0.length + K.length := by simp
theorem wd_take {R0 K : List Nat} {len : Nat} (h : len ≤ K.length) : (wd R0 K).take ((wd R0 K).length - len) = wd R0 (K.drop len) := by
  rw [wd_len, show R0.length + K.length - len = R0.length + (K.length - len) by omega, List.take_append]
  rw [List.take_of_length_le (by omega), show R0.length + (K.length - len) - R0.length = K.length - len by omega, List.take_reverse, show K.length - (K.length - len) = len by omega]
theorem wd_get {R0 K : List Nat} {j i : Nat} (h : j < K.length) (hi : i = (wd R0 K).length - j - 1) : (wd R0 K).getD i 0 = K.getD j 0 := by
  subst hi
  rw [wd_len, List.getD_eq_getElem?_getD, List.getD_eq_getElem?_getD, List.getElem?_append_right (by omega), List.getElem?_reverse (by omega)]
  congr 2; omega
theorem pre_app {p K Z : List Nat} (h : p.length ≤ K.length) : p.isPrefixOf (K ++ Z) = p.isPrefixOf K := by
  induction p generalizing K with
  | nil => cases K <;> rfl
  | cons x p ih =>
    cases K with
    | nil => simp at h
    | cons y K => show (x == y && p.isPrefixOf (K ++ Z)) = (x == y && p.isPrefixOf K); rw [ih (by simpa using h)]
theorem wd_suf {R0 K x : List Nat} (h : x.length ≤ K.length) : x.isSuffixOf (wd R0 K) = x.reverse.isPrefixOf K := by
  show x.reverse.isPrefixOf (wd R0 K).reverse = _
  rw [List.reverse_append, List.reverse_reverse, pre_app (by simpa using h)]

def Pos (R0 K : List Nat) (q : Nat) : Option Nat → Prop
  | some m => q + m = R0.length + K.length ∧ m ≤ K.length
  | none => q ≤ R0.length
structure Inv (R0 K : List Nat) (q : Nat) (mo : Option Nat) : Prop where
  pos : Pos R0 K q mo
  two : 2 ≤ K.length
  one : 1 ≤ R0.length
  big : R0.length + K.length ≤ bigLine
def tk (tbl : List Entry) (mo : Option Nat) (K : List Nat) : Option (Option (Nat × Int)) := match mo with
  | some m => fb tbl (K.take m)
  | none => fbP tbl K
theorem Inv.q {R0 K : List Nat} {q : Nat} {mo : Option Nat} (i : Inv R0 K q mo) : q ≤ (wd R0 K).length := by
  have := i.pos
  rw [wd_len]
  cases mo with
  | none => have : q ≤ R0.length := this; omega
  | some m => have : q + m = R0.length + K.length ∧ m ≤ K.length := this; omega
theorem Inv.len {R0 K : List Nat} {q : Nat} {mo : Option Nat} (i : Inv R0 K q mo) : (wd R0 K).length ≤ bigLine := by rw [wd_len]; exact i.big
theorem Inv.tk {R0 K : List Nat} {q : Nat} {mo : Option Nat} (i : Inv R0 K q mo) {tbl : List Entry} {r : Option (Nat × Int)} (h : tk tbl mo K = some r) : fb tbl (tl (wd R0 K) q) = some r := by
  have p := i.pos
  show fb tbl (((wd R0 K).take (wd R0 K).length).drop q).reverse = _
  rw [List.take_length]
  cases mo with
  | none =>
    have p : q ≤ R0.length := p
    rw [List.drop_append_of_le_length p, List.reverse_append, List.reverse_reverse]
    exact fbP_app _ h
  | some m =>
    have p : q + m = R0.length + K.length ∧ m ≤ K.length := p
    rw [List.drop_append, List.drop_eq_nil_of_le (by omega), List.nil_append, List.drop_reverse, List.reverse_reverse, show K.length - (q - R0.length) = m by omega]
    exact h
/-- len signs go -/
def del (K : List Nat) (mo : Option Nat) (len : Nat) : Option (List Nat × Option Nat) := if 0 < len ∧ len + 2 ≤ K.length then (match mo with
  | none => some (K.drop len, none)
  | some m => if len ≤ m then some (K.drop len, some (m - len)) else none) else none
theorem del_ok {R0 K K' : List Nat} {q len : Nat} {mo mo' : Option Nat} (i : Inv R0 K q mo) (h : del K mo len = some (K', mo')) : 0 < len ∧ len + 2 ≤ K.length ∧ K' = K.drop len ∧ Inv R0 K' q mo' ∧ q + len ≤ (wd R0 K).length := by
  unfold del at h
  split at h
  · rename_i h1
    have hl : (K.drop len).length = K.length - len := List.length_drop
    have hb := i.big
    have ho := i.one
    cases mo with
    | none =>
      have h : some (K.drop len, none) = some (K', mo') := h
      injection h with h
      injection h with e1 e2
      subst e1 e2
      have p : q ≤ R0.length := i.pos
      exact ⟨h1.1, h1.2, rfl, ⟨p, by omega, ho, by omega⟩, by rw [wd_len]; omega⟩
    | some m =>
      dsimp only at h
      split at h
      · rename_i h2
        injection h with h
        injection h with e1 e2
        subst e1 e2
        have p : q + m = R0.length + K.length ∧ m ≤ K.length := i.pos
        exact ⟨h1.1, h1.2, rfl, ⟨⟨by omega, by omega⟩, by omega, ho, by omega⟩, by rw [wd_len]; omega⟩
      · cases h
  · cases h

/-! ## the tops' tables and sets -/
def HasT (g : Sg) (k : Cls) (a : Att) (tbl : List Entry) : Prop := ∃ la, g.gattr k a = some la ∧ Tab g la tbl
def HasS (g : Sg) (k : Cls) (a : Att) (N : List Nat) : Prop := ∃ l S, g.gattr k a = some l ∧ g.set l = some S ∧ ∀ x, inS S x = N.contains x

section
variable {g : Sg} {M : Meths} {n : Nat}

def KM (K : List Nat) (mo : Option Nat) := (K, mo)
/-- a stage that changes nothing when its table finds nothing -/
def none1 (tbl : List Entry) (K : List Nat) (mo : Option Nat) : Bool := match tk tbl mo K with
  | some none => true
  | _ => false
theorem none1_ok {tbl : List Entry} {K : List Nat} {mo : Option Nat} (h : none1 tbl K mo = true) : tk tbl mo K = some none := by
  unfold none1 at h
  split at h
  · assumption
  · cases h

theorem stg_cons2 (hM : Base M) {k : Cls} {a : Att} (hm : M .r_cons = some ([], P_cons2 k a)) {tbl : List Entry} (T : HasT g k a tbl) {R0 K : List Nat} {q : Nat} {mo : Option Nat} (i : Inv R0 K q mo) (h : none1 tbl K mo = true) : Stg g M (n + 4) .r_cons q (wd R0 K) (wd R0 K) := by
  obtain ⟨la, h1, h2⟩ := T
  exact fun br kt => ⟨_, _, _, _, cons2_none hM hm h1 h2 i.q i.len (i.tk (none1_ok h))⟩
theorem stg_cons_sv (hM : Base M) (hm : M .r_cons = some ([], P_cons_sv)) {tbl : List Entry} (T : HasT g .sv .a_2 tbl) {R0 K : List Nat} {q : Nat} {mo : Option Nat} (i : Inv R0 K q mo) (h : none1 tbl K mo = true) : Stg g M (n + 4) .r_cons q (wd R0 K) (wd R0 K) := by
  obtain ⟨la, h1, h2⟩ := T
  exact fun br kt => ⟨_, _, _, _, cons_sv_none hM hm h1 h2 i.q i.len (i.tk (none1_ok h))⟩

/-- Danish -/
def daMain (K : List Nat) (mo : Option Nat) : Option (List Nat × Option Nat) := match tk A_da_0 mo K with
  | some none => some (K, mo)
  | some (some (len, res)) => if res = 1 then del K mo len else if res = 2 ∧ N_da_s_ending.contains (K.getD len 0) = true then del K mo len else none
  | none => none
theorem stg_da_main (hM : Base M) (hm : M .r_main = some ([], P_main_da)) (T : HasT g .da .a_0 A_da_0) (S : HasS g .da .g_s_ending N_da_s_ending) {R0 K K' : List Nat} {q : Nat} {mo mo' : Option Nat} (i : Inv R0 K q mo) (h : daMain K mo = some (K', mo')) :
    Stg g M (n + 4) .r_main q (wd R0 K) (wd R0 K') ∧ Inv R0 K' q mo' := by
  obtain ⟨la, h1, h2⟩ := T
  obtain ⟨ls, S, h3, h4, h5⟩ := S
  unfold daMain at h
  split at h
  · rename_i ht
    injection h with h
    injection h with e1 e2
    subst e1 e2
    exact ⟨fun br kt => ⟨_, _, _, _, main_none hM hm (by decide) h1 h2 i.q i.len (i.tk ht)⟩, i⟩
  · rename_i len res ht
    split at h
    · rename_i hr
      subst hr
      obtain ⟨d1, d2, rfl, d4, d5⟩ := del_ok i h
      refine ⟨fun br kt => ?_, d4⟩
      rw [← wd_take (R0 := R0) (by omega : len ≤ K.length)]
      exact da_main_1 hM hm h1 h2 i.q i.len (i.tk ht) (by rw [wd_len]; omega) d1
    · split at h
      · rename_i hr
        obtain ⟨rfl, hr⟩ := hr
        obtain ⟨d1, d2, rfl, d4, d5⟩ := del_ok i h
        refine ⟨fun br kt => ?_, d4⟩
        rw [← wd_take (R0 := R0) (by omega : len ≤ K.length)]
        exact da_main_2 hM hm h1 h3 h4 h2 i.q i.len (i.tk ht) (by rw [wd_len]; omega) d1 (by rw [wd_get (R0 := R0) (j := len) (by omega) rfl, h5]; exact hr)
      · cases h
  · cases h
def daOther (K : List Nat) (mo : Option Nat) : Option (List Nat × Option Nat) := if [115, 116].reverse.isPrefixOf K = true then none else match tk A_da_2 mo K with
  | some none => some (K, mo)
  | some (some (len, res)) => if res = 1 then (match del K mo len with
    | some (K', mo') => if none1 A_da_1 K' mo' = true then some (K', mo') else none
    | none => none) else none
  | none => none
theorem stg_da_other (hM : Base M) (hm : M .r_other = some ([], P_other_da)) (hc : M .r_cons = some ([], P_cons2 .da .a_1)) (T : HasT g .da .a_2 A_da_2) (T1 : HasT g .da .a_1 A_da_1) {R0 K K' : List Nat} {q : Nat} {mo mo' : Option Nat} (i : Inv R0 K q mo) (h : daOther K mo = some (K', mo')) :
    Stg g M (n + 6) .r_other q (wd R0 K) (wd R0 K') ∧ Inv R0 K' q mo' := by
  obtain ⟨la, h1, h2⟩ := T
  obtain ⟨la1, h3, h4⟩ := T1
  unfold daOther at h
  split at h
  · cases h
  rename_i hst
  have hs : [115, 116].isSuffixOf (wd R0 K) = false := by rw [wd_suf (x := [115, 116]) (show 2 ≤ K.length from i.two)]; exact Bool.eq_false_iff.mpr hst
  split at h
  · rename_i ht
    injection h with h
    injection h with e1 e2
    subst e1 e2
    exact ⟨fun br kt => ⟨_, _, _, _, other_da_none (n := n + 1) hM hm h1 h2 i.q i.len hs (i.tk ht)⟩, i⟩
  · rename_i len res ht
    split at h
    · rename_i hr
      subst hr
      split at h
      · rename_i K1 m1 hd
        split at h
        · rename_i hn
          injection h with h
          injection h with e1 e2
          subst e1 e2
          obtain ⟨d1, d2, rfl, d4, d5⟩ := del_ok i hd
          refine ⟨fun br kt => ?_, d4⟩
          rw [← wd_take (R0 := R0) (by omega : len ≤ K.length)]
          exact other_da_1 hM hm hc h1 h2 h3 h4 i.q i.len hs (i.tk ht) d1 d5 (by rw [wd_take (by omega)]; exact d4.tk (none1_ok hn))
        · cases h
      · cases h
    · cases h
  · cases h
def daUn (K : List Nat) (mo : Option Nat) : Bool := match mo with
  | some 0 => true
  | _ => !N_da_undouble_c.contains (K.getD 0 0) || !(K.getD 1 0 == K.getD 0 0)
theorem stg_da_un (hM : Base M) (hm : M .r_undouble = some ([], P_undouble)) (S : HasS g .da .g_undouble_c N_da_undouble_c) {R0 K : List Nat} {q : Nat} {mo : Option Nat} (i : Inv R0 K q mo) (h : daUn K mo = true) : Stg g M (n + 4) .r_undouble q (wd R0 K) (wd R0 K) := by
  obtain ⟨ls, S, h3, h4, h5⟩ := S
  have h2 := i.two
  refine fun br kt => undouble_ex hM hm h3 h4 i.q i.len (by rw [wd_len]; omega) fun hlt hin => ?_
  rw [wd_get (R0 := R0) (j := 0) (by omega) (by omega), h5] at hin
  rw [wd_get (R0 := R0) (j := 0) (by omega) (by omega), wd_take (by omega), wd_suf (by rw [List.length_drop]; simp; omega)]
  have h' : (K.getD 1 0 == K.getD 0 0) = false := by
    unfold daUn at h
    split at h
    · have p : q + 0 = R0.length + K.length ∧ 0 ≤ K.length := i.pos
      rw [wd_len] at hlt; omega
    · rw [hin] at h; simpa using h
  match K, h2 with
  | a :: b :: K, _ =>
    show ((a == b) && true) = false
    rw [Bool.and_true]
    have h' : (b == a) = false := h'
    rw [beq_eq_false_iff_ne] at h' ⊢
    exact Ne.symm h'

/-- Norwegian -/
def noMain (K : List Nat) (mo : Option Nat) : Option (List Nat × Option Nat) := match tk A_no_1 mo K with
  | some none => some (K, mo)
  | some (some (len, res)) => if res = 1 then del K mo len else if res = 3 ∧ N_no_s_ending.contains (K.getD len 0) = true then del K mo len else none
  | none => none
theorem stg_no_main (hM : Base M) (hm : M .r_main = some ([], P_main_no)) (T : HasT g .no .a_1 A_no_1) (S : HasS g .no .g_s_ending N_no_s_ending) {R0 K K' : List Nat} {q : Nat} {mo mo' : Option Nat} (i : Inv R0 K q mo) (h : noMain K mo = some (K', mo')) :
    Stg g M (n + 4) .r_main q (wd R0 K) (wd R0 K') ∧ Inv R0 K' q mo' := by
  obtain ⟨la, h1, h2⟩ := T
  obtain ⟨ls, S, h3, h4, h5⟩ := S
  unfold noMain at h
  split at h
  · rename_i ht
    injection h with h
    injection h with e1 e2
    subst e1 e2
    exact ⟨fun br kt => ⟨_, _, _, _, main_none hM hm (by decide) h1 h2 i.q i.len (i.tk ht)⟩, i⟩
  · rename_i len res ht
    split at h
    · rename_i hr
      subst hr
      obtain ⟨d1, d2, rfl, d4, d5⟩ := del_ok i h
      refine ⟨fun br kt => ?_, d4⟩
      rw [← wd_take (R0 := R0) (by omega : len ≤ K.length)]
      exact no_main_1 hM hm h1 h2 i.q i.len (i.tk ht) (by rw [wd_len]; omega) d1
    · split at h
      · rename_i hr
        obtain ⟨rfl, hr⟩ := hr
        obtain ⟨d1, d2, rfl, d4, d5⟩ := del_ok i h
        refine ⟨fun br kt => ?_, d4⟩
        rw [← wd_take (R0 := R0) (by omega : len ≤ K.length)]
        exact no_main_3 hM hm h1 h3 h4 h2 i.q i.len (i.tk ht) (by rw [wd_len]; omega) d1 (by rw [wd_get (R0 := R0) (j := len) (by omega) rfl, h5]; exact hr)
      · cases h
  · cases h
def noOther (K : List Nat) (mo : Option Nat) : Option (List Nat × Option Nat) := match tk A_no_3 mo K with
  | some none => some (K, mo)
  | some (some (len, res)) => if res = 0 then none else del K mo len
  | none => none
theorem stg_no_other (hM : Base M) (hm : M .r_other = some ([], P_other_no)) (T : HasT g .no .a_3 A_no_3) {R0 K K' : List Nat} {q : Nat} {mo mo' : Option Nat} (i : Inv R0 K q mo) (h : noOther K mo = some (K', mo')) :
    Stg g M (n + 4) .r_other q (wd R0 K) (wd R0 K') ∧ Inv R0 K' q mo' := by
  obtain ⟨la, h1, h2⟩ := T
  unfold noOther at h
  split at h
  · rename_i ht
    injection h with h
    injection h with e1 e2
    subst e1 e2
    exact ⟨fun br kt => ⟨_, _, _, _, other_no_none hM hm h1 h2 i.q i.len (i.tk ht)⟩, i⟩
  · rename_i len res ht
    split at h
    · cases h
    · rename_i hr
      obtain ⟨d1, d2, rfl, d4, d5⟩ := del_ok i h
      refine ⟨fun br kt => ?_, d4⟩
      rw [← wd_take (R0 := R0) (by omega : len ≤ K.length)]
      exact other_no_some hM hm h1 h2 i.q i.len (i.tk ht) hr (by rw [wd_len]; omega) d1
  · cases h

/-- Swedish -/
def etOk (K : List Nat) (len : Nat) : Bool := !N_sv_v.contains (K.getD len 0) && N_sv_v.contains (K.getD (len + 1) 0) && (match fbP A_sv_0 (K.drop len) with | some none => true | _ => false)
theorem etOk_ok {R0 K : List Nat} {q len : Nat} {mo : Option Nat} {V : List Str} (i : Inv R0 K q mo) (hV : ∀ x, inS V x = N_sv_v.contains x) (hl : len + 2 ≤ K.length) (h : etOk K len = true) : EtOk A_sv_0 V (wd R0 K) ((wd R0 K).length - len) := by
  have ho := i.one
  unfold etOk at h
  obtain ⟨h12, h3⟩ := Bool.and_eq_true_iff.mp h
  obtain ⟨h1, h2⟩ := Bool.and_eq_true_iff.mp h12
  refine ⟨by rw [wd_len]; omega, ?_, ?_, ?_⟩
  · rw [wd_get (R0 := R0) (j := len) (by omega) rfl, hV]; simpa using h1
  · rw [wd_get (R0 := R0) (j := len + 1) (by omega) (by omega), hV]; exact h2
  · show fb A_sv_0 (((wd R0 K).take ((wd R0 K).length - len)).drop 0).reverse = _
    rw [wd_take (by omega), List.drop_zero, List.reverse_append, List.reverse_reverse]
    apply fbP_app
    split at h3
    · assumption
    · cases h3
def svMain (K : List Nat) (mo : Option Nat) : Option (List Nat × Option Nat) := match tk A_sv_1 mo K with
  | some none => some (K, mo)
  | some (some (len, res)) => if res = 1 then del K mo len else if res = 2 then (if len + 2 ≤ K.length then (if [101, 116].reverse.isPrefixOf (K.drop len) = true then (if etOk K (len + 2) = true ∧ len + 4 ≤ K.length ∧ 0 < len then del K mo (len + 2) else none) else if N_sv_s_ending.contains (K.getD len 0) = true then del K mo len else none) else none)
    else if res = 3 ∧ etOk K len = true then del K mo len else none
  | none => none
theorem stg_sv_main (hM : Base M) (hm : M .r_main = some ([], P_main_sv)) (he : M .r_et = some ([], P_et)) (T : HasT g .sv .a_1 A_sv_1) (T0 : HasT g .sv .a_0 A_sv_0) (S : HasS g .sv .g_s_ending N_sv_s_ending) (V : HasS g .sv .g_v N_sv_v) {R0 K K' : List Nat} {q : Nat} {mo mo' : Option Nat} (i : Inv R0 K q mo) (h : svMain K mo = some (K', mo')) :
    Stg g M (n + 4) .r_main q (wd R0 K) (wd R0 K') ∧ Inv R0 K' q mo' := by
  obtain ⟨la, h1, h2⟩ := T
  obtain ⟨la0, t1, t2⟩ := T0
  obtain ⟨ls, S, h3, h4, h5⟩ := S
  obtain ⟨lv, V, v1, v2, v3⟩ := V
  unfold svMain at h
  split at h
  · rename_i ht
    injection h with h
    injection h with e1 e2
    subst e1 e2
    exact ⟨fun br kt => ⟨_, _, _, _, main_none hM hm (by decide) h1 h2 i.q i.len (i.tk ht)⟩, i⟩
  · rename_i len res ht
    split at h
    · rename_i hr
      subst hr
      obtain ⟨d1, d2, rfl, d4, d5⟩ := del_ok i h
      refine ⟨fun br kt => ?_, d4⟩
      rw [← wd_take (R0 := R0) (by omega : len ≤ K.length)]
      exact sv_main_1 hM hm h1 h2 i.q i.len (i.tk ht) (by rw [wd_len]; omega) d1
    · split at h
      · rename_i hr
        subst hr
        split at h
        · rename_i hl
          have hw := wd_take (R0 := R0) (by omega : len ≤ K.length)
          split at h
          · rename_i hp
            split at h
            · rename_i hE
              obtain ⟨d1, d2, rfl, d4, d5⟩ := del_ok i h
              refine ⟨fun br kt => ?_, d4⟩
              rw [← wd_take (R0 := R0) (by omega : len + 2 ≤ K.length), show (wd R0 K).length - (len + 2) = (wd R0 K).length - len - 2 by omega]
              have E := etOk_ok (R0 := R0) i v3 (by omega : len + 2 + 2 ≤ K.length) hE.1
              rw [show (wd R0 K).length - (len + 2) = (wd R0 K).length - len - 2 by omega] at E
              exact sv_main_2e hM hm he h1 h2 t1 t2 v1 v2 i.q i.len (i.tk ht) (by rw [wd_len]; omega) hE.2.2 (by rw [hw, wd_suf (by rw [List.length_drop]; simp; omega)]; exact hp) E
            · cases h
          · rename_i hp
            split at h
            · rename_i hs
              obtain ⟨d1, d2, rfl, d4, d5⟩ := del_ok i h
              refine ⟨fun br kt => ?_, d4⟩
              rw [← hw]
              exact sv_main_2 hM hm h1 h2 h3 h4 i.q i.len (i.tk ht) (by rw [wd_len]; omega) d1 (by rw [wd_get (R0 := R0) (j := len) (by omega) rfl, h5]; exact hs) (by rw [hw, wd_suf (by rw [List.length_drop]; simp; omega)]; exact Bool.eq_false_iff.mpr hp)
            · cases h
        · cases h
      · split at h
        · rename_i hr
          obtain ⟨rfl, hE⟩ := hr
          obtain ⟨d1, d2, rfl, d4, d5⟩ := del_ok i h
          refine ⟨fun br kt => ?_, d4⟩
          rw [← wd_take (R0 := R0) (by omega : len ≤ K.length)]
          exact sv_main_3 hM hm he h1 h2 t1 t2 v1 v2 i.q i.len (i.tk ht) (by rw [wd_len]; omega) d1 (etOk_ok (R0 := R0) i v3 d2 hE)
        · cases h
  · cases h
def svOther (K : List Nat) (mo : Option Nat) : Option (List Nat × Option Nat) := match tk A_sv_3 mo K with
  | some none => some (K, mo)
  | some (some (len, res)) => if res = 1 then del K mo len else none
  | none => none
theorem stg_sv_other (hM : Base M) (hm : M .r_other = some ([], P_other_sv)) (T : HasT g .sv .a_3 A_sv_3) {R0 K K' : List Nat} {q : Nat} {mo mo' : Option Nat} (i : Inv R0 K q mo) (h : svOther K mo = some (K', mo')) :
    Stg g M (n + 4) .r_other q (wd R0 K) (wd R0 K') ∧ Inv R0 K' q mo' := by
  obtain ⟨la, h1, h2⟩ := T
  unfold svOther at h
  split at h
  · rename_i ht
    injection h with h
    injection h with e1 e2
    subst e1 e2
    exact ⟨fun br kt => ⟨_, _, _, _, main_none hM hm (by decide) h1 h2 i.q i.len (i.tk ht)⟩, i⟩
  · rename_i len res ht
    split at h
    · rename_i hr
      subst hr
      obtain ⟨d1, d2, rfl, d4, d5⟩ := del_ok i h
      refine ⟨fun br kt => ?_, d4⟩
      rw [← wd_take (R0 := R0) (by omega : len ≤ K.length)]
      exact other_sv_1 hM hm h1 h2 i.q i.len (i.tk ht) (by rw [wd_len]; omega) d1
    · cases h
  · cases h
end

/-! ## the whole on ends of words -/
def daAll (K : List Nat) (mo : Option Nat) : Option (List Nat) := match daMain K mo with
  | none => none
  | some (K1, m1) => if none1 A_da_1 K1 m1 = true then (match daOther K1 m1 with
    | none => none
    | some (K2, m2) => if daUn K2 m2 = true ∧ K2.getD 0 0 ≠ 39 then some K2 else none) else none
def noAll (K : List Nat) (mo : Option Nat) : Option (List Nat) := match noMain K mo with
  | none => none
  | some (K1, m1) => if none1 A_no_2 K1 m1 = true then (match noOther K1 m1 with
    | none => none
    | some (K2, _) => if K2.getD 0 0 ≠ 39 then some K2 else none) else none
def svAll (K : List Nat) (mo : Option Nat) : Option (List Nat) := match svMain K mo with
  | none => none
  | some (K1, m1) => if none1 A_sv_2 K1 m1 = true then (match svOther K1 m1 with
    | none => none
    | some (K2, _) => some K2) else none

def endings : List (List Nat) := [[], [101], [101, 110], [101, 114], [101, 115], [101, 110, 115], [101, 116], [101, 116, 115], [115]]
def middles : List (List Nat) := [[], [105, 103], [108, 105, 103]]
def els : List Nat := [101, 108, 115]
def forms : List (List Nat) := (middles.flatMap fun m => endings.map fun e => m ++ e) ++ ((endings.drop 1).take 5).map fun e => els ++ e
def vows : List Nat := [101, 105, 117, 121]
def conss : List Nat := [98, 99, 106, 109]
def rootEnds : List (List Nat) := conss.flatMap fun c => vows.map fun v => [c, v]
def goodEnd (all : List Nat → Option Nat → Option (List Nat)) (f e : List Nat) : Bool :=
  let K := f.reverse ++ e
  decide (all K none = some e) && decide (all K (some f.length) = some e) && decide (all K (some (f.length + 1)) = some e)
def goodAll (all : List Nat → Option Nat → Option (List Nat)) : Bool := forms.all fun f => rootEnds.all fun e => goodEnd all f e
theorem good_da : goodAll daAll = true := by kernel_rfl
theorem good_no : goodAll noAll = true := by kernel_rfl
theorem good_sv : goodAll svAll = true := by kernel_rfl
end Sb
end

section
open PySem
set_option Elab.async false
set_option maxRecDepth 100000
set_option linter.constructorNameAsVariable false
set_option linter.unusedVariables false
set_option linter.unusedSimpArgs false
namespace Sb

theorem least (p : Nat → Bool) : ∀ (d s : Nat), p (s + d) = true → ∃ j, s ≤ j ∧ j ≤ s + d ∧ p j = true ∧ ∀ m, s ≤ m → m < j → p m = false
  | 0, s, h => ⟨s, Nat.le_refl _, Nat.le_refl _, h, fun m h1 h2 => by omega⟩
  | d + 1, s, h => by
    cases hs : p s with
    | true => exact ⟨s, Nat.le_refl _, by omega, hs, fun m h1 h2 => by omega⟩
    | false =>
      obtain ⟨j, h1, h2, h3, h4⟩ := least p d (s + 1) (by rw [show s + 1 + d = s + (d + 1) by omega]; exact h)
      refine ⟨j, by omega, by omega, h3, fun m h5 h6 => ?_⟩
      by_cases hm : m = s
      · rw [hm]; exact hs
      · exact h4 m (by omega) h6

/-- what the ends of the roots are: a vowel, and a sign that is none -/
structure EndOk (V : List Nat) (e : List Nat) : Prop where
  two : e.length = 2
  con : V.contains (e.getD 0 0) = false
  vow : V.contains (e.getD 1 0) = true
def endOk (V : List Nat) (e : List Nat) : Bool := decide (e.length = 2) && !V.contains (e.getD 0 0) && V.contains (e.getD 1 0) && e.all (fun x => decide (x ≠ 39))
theorem ends_da : (rootEnds.all (endOk N_da_v)) = true := by decide +kernel
theorem ends_no : (rootEnds.all (endOk N_no_v)) = true := by decide +kernel
theorem ends_sv : (rootEnds.all (endOk N_sv_v)) = true := by decide +kernel
theorem forms_39 : (forms.all fun f => f.all fun x => decide (x ≠ 39)) = true := by decide +kernel

section
variable {g : Sg} {n : Nat}

theorem mk_of {V : List Str} {N : List Nat} (hV : ∀ x, inS V x = N.contains x) {R0 e f : List Nat} (he : EndOk N e) : ∃ i, i ≤ R0.length + 1 ∧ Mk V (wd R0 (f.reverse ++ e)) i := by
  have hL : (wd R0 (f.reverse ++ e)).length = R0.length + (f.length + 2) := by rw [wd_len]; simp [he.two]
  have g1 : (wd R0 (f.reverse ++ e)).getD R0.length 0 = e.getD 1 0 := by
    rw [wd_get (R0 := R0) (K := f.reverse ++ e) (j := f.length + 1) (by simp [he.two]) (by rw [hL]; omega)]
    rw [List.getD_eq_getElem?_getD, List.getElem?_append_right (by simp), List.getD_eq_getElem?_getD]
    simp
  have g0 : (wd R0 (f.reverse ++ e)).getD (R0.length + 1) 0 = e.getD 0 0 := by
    rw [wd_get (R0 := R0) (K := f.reverse ++ e) (j := f.length) (by simp [he.two]) (by rw [hL]; omega)]
    rw [List.getD_eq_getElem?_getD, List.getElem?_append_right (by simp), List.getD_eq_getElem?_getD]
    simp
  obtain ⟨j, _, h2, h3, h4⟩ := least (fun m => inS V ((wd R0 (f.reverse ++ e)).getD m 0)) R0.length 0 (by
    show inS V ((wd R0 (f.reverse ++ e)).getD (0 + R0.length) 0) = true
    rw [Nat.zero_add, g1, hV]; exact he.vow)
  obtain ⟨i, i1, i2, i3, i4⟩ := least (fun m => !inS V ((wd R0 (f.reverse ++ e)).getD m 0)) (R0.length - j) (j + 1) (by
    show (!inS V ((wd R0 (f.reverse ++ e)).getD (j + 1 + (R0.length - j)) 0)) = true
    rw [show j + 1 + (R0.length - j) = R0.length + 1 by omega, g0, hV, he.con]; rfl)
  refine ⟨i, by omega, ⟨j, by omega, h3, fun m hm => h4 m (Nat.zero_le _) hm, fun m h1 h2 => by simpa using i4 m h1 h2⟩, by simpa using i3, by rw [hL]; omega⟩

theorem no39 {R0 e f : List Nat} (h0 : ∀ x ∈ R0, x ≠ 39) (he : ∀ x ∈ e, x ≠ 39) (hf : ∀ x ∈ f, x ≠ 39) : ∀ i, i < (wd R0 (f.reverse ++ e)).length → (wd R0 (f.reverse ++ e)).getD i 0 ≠ 39 := by
  intro i hi
  rw [List.getD_eq_getElem?_getD, List.getElem?_eq_getElem hi]
  have hm : (wd R0 (f.reverse ++ e))[i] ∈ wd R0 (f.reverse ++ e) := List.getElem_mem hi
  show (wd R0 (f.reverse ++ e))[i] ≠ 39
  rcases List.mem_append.mp hm with h | h
  · exact h0 _ h
  · rcases List.mem_append.mp (List.mem_reverse.mp h) with h | h
    · exact hf _ (List.mem_reverse.mp h)
    · exact he _ h

theorem end_of {V : List Nat} (h : (rootEnds.all (endOk V)) = true) {e : List Nat} (he : e ∈ rootEnds) : EndOk V e ∧ ∀ x ∈ e, x ≠ 39 := by
  have := List.all_eq_true.mp h e he
  unfold endOk at this
  obtain ⟨h123, h4⟩ := Bool.and_eq_true_iff.mp this
  obtain ⟨h12, h3⟩ := Bool.and_eq_true_iff.mp h123
  obtain ⟨h1, h2⟩ := Bool.and_eq_true_iff.mp h12
  exact ⟨⟨of_decide_eq_true h1, by simpa using h2, h3⟩, fun x hx => of_decide_eq_true (List.all_eq_true.mp h4 x hx)⟩
theorem form_39 {f : List Nat} (hf : f ∈ forms) : ∀ x ∈ f, x ≠ 39 := fun x hx => of_decide_eq_true (List.all_eq_true.mp (List.all_eq_true.mp forms_39 f hf) x hx)

/-- which text lies behind q -/
theorem pick {all : List Nat → Option Nat → Option (List Nat)} (h : goodAll all = true) {R0 e f : List Nat} {i : Nat} (hf : f ∈ forms) (he : e ∈ rootEnds) (h2 : e.length = 2) (h0 : 1 ≤ R0.length) (hi : i ≤ R0.length + 1) (hb : R0.length + f.length + 2 ≤ bigLine) :
    ∃ mo, Inv R0 (f.reverse ++ e) (mkQ i) mo ∧ all (f.reverse ++ e) mo = some e := by
  have hg := List.all_eq_true.mp (List.all_eq_true.mp h f hf) e he
  unfold goodEnd at hg
  obtain ⟨g12, g3⟩ := Bool.and_eq_true_iff.mp hg
  obtain ⟨g1, g2⟩ := Bool.and_eq_true_iff.mp g12
  have hq : mkQ i ≤ R0.length + 2 := by unfold mkQ; split <;> omega
  have hK : (f.reverse ++ e).length = f.length + 2 := by simp [h2]
  by_cases c1 : mkQ i ≤ R0.length
  · exact ⟨none, ⟨c1, by omega, h0, by omega⟩, of_decide_eq_true g1⟩
  · by_cases c2 : mkQ i = R0.length + 2
    · exact ⟨some f.length, ⟨⟨by omega, by omega⟩, by omega, h0, by omega⟩, of_decide_eq_true g2⟩
    · exact ⟨some (f.length + 1), ⟨⟨by omega, by omega⟩, by omega, h0, by omega⟩, of_decide_eq_true g3⟩

structure TopDa (g : Sg) : Prop where
  a0 : HasT g .da .a_0 A_da_0
  a1 : HasT g .da .a_1 A_da_1
  a2 : HasT g .da .a_2 A_da_2
  v : HasS g .da .g_v N_da_v
  s : HasS g .da .g_s_ending N_da_s_ending
  u : HasS g .da .g_undouble_c N_da_undouble_c
structure TopNo (g : Sg) : Prop where
  a1 : HasT g .no .a_1 A_no_1
  a2 : HasT g .no .a_2 A_no_2
  a3 : HasT g .no .a_3 A_no_3
  v : HasS g .no .g_v N_no_v
  s : HasS g .no .g_s_ending N_no_s_ending
structure TopSv (g : Sg) : Prop where
  a0 : HasT g .sv .a_0 A_sv_0
  a1 : HasT g .sv .a_1 A_sv_1
  a2 : HasT g .sv .a_2 A_sv_2
  a3 : HasT g .sv .a_3 A_sv_3
  v : HasS g .sv .g_v N_sv_v
  s : HasS g .sv .g_s_ending N_sv_s_ending
structure TopAll (g : Sg) : Prop where
  da : TopDa g
  no : TopNo g
  sv : TopSv g

theorem last_ne {R0 K : List Nat} (h2 : 2 ≤ K.length) (h : K.getD 0 0 ≠ 39) : (wd R0 K).getD ((wd R0 K).length - 1) 0 ≠ 39 := by
  rw [wd_get (R0 := R0) (j := 0) (by omega) (by omega)]; exact h

theorem word_da (T : TopDa g) {R0 e f : List Nat} (hf : f ∈ forms) (he : e ∈ rootEnds) (h0 : 1 ≤ R0.length) (hno : ∀ x ∈ R0, x ≠ 39) (hb : R0.length + f.length + 2 ≤ bigLine) {fl : List (Fld × MV)} (hfl : GoodF fl) :
    ∃ fl', GoodF fl' ∧ Ex g (meths .da) (n + 8) (.mth .stemWord [.str (st (wd R0 (f.reverse ++ e)))] fl (.str (st (wd R0 e))) fl') := by
  obtain ⟨hE, h39⟩ := end_of ends_da he
  obtain ⟨lv, V, v1, v2, v3⟩ := T.v
  obtain ⟨i, hi, mk⟩ := mk_of (R0 := R0) (f := f) v3 hE
  obtain ⟨mo, I, hall⟩ := pick good_da hf he hE.two h0 hi hb
  refine stemWord_ex (base_of_meths .da) I.len (fun fs hs => ?_) hfl
  have hm := mark2_ex (n := n + 4) (base_of_meths .da) (k := .da) rfl v1 v2 I.len (by rw [wd_len]; simp [hE.two]; omega) (no39 hno h39 (form_39 hf)) mk hs
  unfold daAll at hall
  split at hall
  · cases hall
  rename_i K1 m1 e1
  split at hall
  · rename_i e2
    split at hall
    · cases hall
    rename_i K2 m2 e3
    split at hall
    · rename_i e4
      cases hall
      obtain ⟨s1, I1⟩ := stg_da_main (n := n + 2) (base_of_meths .da) rfl T.a0 T.s I e1
      have s2 := stg_cons2 (n := n + 2) (base_of_meths .da) rfl T.a1 I1 e2
      obtain ⟨s3, I2⟩ := stg_da_other (n := n) (base_of_meths .da) rfl rfl T.a2 T.a1 I1 e3
      have s4 := stg_da_un (n := n + 2) (base_of_meths .da) rfl T.u I2 e4.1
      obtain ⟨v, c, l, b, br, k, h⟩ := stem_da_ex (N := n + 6) rfl hm s1 s2 s3 s4 I2.len (by rw [wd_len]; omega) (last_ne I2.two e4.2)
      exact ⟨v, c, l, b, br, k, _, h⟩
    · cases hall
  · cases hall
theorem word_no (T : TopNo g) {R0 e f : List Nat} (hf : f ∈ forms) (he : e ∈ rootEnds) (h0 : 1 ≤ R0.length) (hno : ∀ x ∈ R0, x ≠ 39) (hb : R0.length + f.length + 2 ≤ bigLine) {fl : List (Fld × MV)} (hfl : GoodF fl) :
    ∃ fl', GoodF fl' ∧ Ex g (meths .no) (n + 8) (.mth .stemWord [.str (st (wd R0 (f.reverse ++ e)))] fl (.str (st (wd R0 e))) fl') := by
  obtain ⟨hE, h39⟩ := end_of ends_no he
  obtain ⟨lv, V, v1, v2, v3⟩ := T.v
  obtain ⟨i, hi, mk⟩ := mk_of (R0 := R0) (f := f) v3 hE
  obtain ⟨mo, I, hall⟩ := pick good_no hf he hE.two h0 hi hb
  refine stemWord_ex (base_of_meths .no) I.len (fun fs hs => ?_) hfl
  have hm := mark2_ex (n := n + 4) (base_of_meths .no) (k := .no) rfl v1 v2 I.len (by rw [wd_len]; simp [hE.two]; omega) (no39 hno h39 (form_39 hf)) mk hs
  unfold noAll at hall
  split at hall
  · cases hall
  rename_i K1 m1 e1
  split at hall
  · rename_i e2
    split at hall
    · cases hall
    rename_i K2 m2 e3
    split at hall
    · rename_i e4
      cases hall
      obtain ⟨s1, I1⟩ := stg_no_main (n := n + 2) (base_of_meths .no) rfl T.a1 T.s I e1
      have s2 := stg_cons2 (n := n + 2) (base_of_meths .no) rfl T.a2 I1 e2
      obtain ⟨s3, I2⟩ := stg_no_other (n := n + 2) (base_of_meths .no) rfl T.a3 I1 e3
      obtain ⟨v, c, l, b, br, k, h⟩ := stem_no_ex (N := n + 6) rfl hm s1 s2 s3 I2.len (by rw [wd_len]; omega) (last_ne I2.two e4)
      exact ⟨v, c, l, b, br, k, _, h⟩
    · cases hall
  · cases hall
theorem set_cur {W : List Nat} {f : List (Fld × MV)} (h : SetTo W f) : getA .cursor f = some (.int 0) := by cases h <;> rfl
theorem word_sv (T : TopSv g) {R0 e f : List Nat} (hf : f ∈ forms) (he : e ∈ rootEnds) (h0 : 1 ≤ R0.length) (hno : ∀ x ∈ R0, x ≠ 39) (hb : R0.length + f.length + 2 ≤ bigLine) {fl : List (Fld × MV)} (hfl : GoodF fl) :
    ∃ fl', GoodF fl' ∧ Ex g (meths .sv) (n + 8) (.mth .stemWord [.str (st (wd R0 (f.reverse ++ e)))] fl (.str (st (wd R0 e))) fl') := by
  obtain ⟨hE, h39⟩ := end_of ends_sv he
  obtain ⟨lv, V, v1, v2, v3⟩ := T.v
  obtain ⟨i, hi, mk⟩ := mk_of (R0 := R0) (f := f) v3 hE
  obtain ⟨mo, I, hall⟩ := pick good_sv hf he hE.two h0 hi hb
  refine stemWord_ex (base_of_meths .sv) I.len (fun fs hs => ?_) hfl
  have hm := mark_sv_ex (n := n + 4) (base_of_meths .sv) rfl v1 v2 I.len (by rw [wd_len]; simp [hE.two]; omega) mk hs
  unfold svAll at hall
  split at hall
  · cases hall
  rename_i K1 m1 e1
  split at hall
  · rename_i e2
    split at hall
    · cases hall
    rename_i K2 m2 e3
    cases hall
    obtain ⟨s1, I1⟩ := stg_sv_main (n := n + 2) (base_of_meths .sv) rfl rfl T.a1 T.a0 T.s T.v I e1
    have s2 := stg_cons_sv (n := n + 2) (base_of_meths .sv) rfl T.a2 I1 e2
    obtain ⟨s3, I2⟩ := stg_sv_other (n := n + 2) (base_of_meths .sv) rfl T.a3 I1 e3
    obtain ⟨v, c, l, b, br, k, h⟩ := stem_sv_ex (N := n + 6) rfl (set_cur hs) hm s1 s2 s3
    exact ⟨v, c, l, b, br, k, _, h⟩
  · cases hall
theorem word_ex (T : TopAll g) (k : Cls) {R0 e f : List Nat} (hf : f ∈ forms) (he : e ∈ rootEnds) (h0 : 1 ≤ R0.length) (hno : ∀ x ∈ R0, x ≠ 39) (hb : R0.length + f.length + 2 ≤ bigLine) {fl : List (Fld × MV)} (hfl : GoodF fl) :
    ∃ fl', GoodF fl' ∧ Ex g (meths k) (n + 8) (.mth .stemWord [.str (st (wd R0 (f.reverse ++ e)))] fl (.str (st (wd R0 e))) fl') := by
  cases k
  · exact word_da T.da hf he h0 hno hb hfl
  · exact word_no T.no hf he h0 hno hb hfl
  · exact word_sv T.sv hf he h0 hno hb hfl
end
end Sb
end

section
open PySem PySem.W PyProof.Rows PySem.Calls PySem.Spec
set_option Elab.async false
set_option maxRecDepth 100000
set_option linter.constructorNameAsVariable false
set_option linter.unusedVariables false
set_option linter.unusedSimpArgs false
namespace Sb

section
variable (P : Params) (d0 d1 d2 d3 d4 d5 d6 d7 : SD)
/-- what ClsOk asks of a method's function -/
def FnOk (K : Frag) (f : Addr) (ps : List Loc) (b : List IS) : Prop := ∃ qual params body scope kV doc pm cdv ct oc an od osl nm,
    isFn K (.ref f) = true ∧ keepIn K (.ref f) = true ∧
    K.lookup f = some ⟨oc, od, .func (fnOf nm qual params body scope .none kV doc pm an cdv ct), osl⟩ ∧ codeIn K cdv qual = true ∧ ckM params scope body ps b = true

theorem fn_35 : FnOk (KS P d0 d1 d2 d3 d4 d5 d6 d7) 35 [] P_init := ⟨(q "BaseStemmer.__init__"), (defIn2 2 0).1, (defIn2 2 0).2.1, (defIn2 2 0).2.2, .none, .none, (.str (q "snowballstemmer.basestemmer") 194), (.ref 34), .none, .type "function", none, none, #[], q "__init__", by kernel_rfl, by kernel_rfl, by kernel_rfl, by kernel_rfl, by kernel_rfl⟩
theorem fn_42 : FnOk (KS P d0 d1 d2 d3 d4 d5 d6 d7) 42 [.value] P_set_current := ⟨(q "BaseStemmer.set_current"), (defIn2 2 1).1, (defIn2 2 1).2.1, (defIn2 2 1).2.2, .none, .none, (.str (q "snowballstemmer.basestemmer") 194), (.ref 41), .none, .type "function", none, none, #[], q "set_current", by kernel_rfl, by kernel_rfl, by kernel_rfl, by kernel_rfl, by kernel_rfl⟩
theorem fn_49 : FnOk (KS P d0 d1 d2 d3 d4 d5 d6 d7) 49 [] P_get_current := ⟨(q "BaseStemmer.get_current"), (defIn2 2 2).1, (defIn2 2 2).2.1, (defIn2 2 2).2.2, .none, .none, (.str (q "snowballstemmer.basestemmer") 194), (.ref 48), .none, .type "function", none, none, #[], q "get_current", by kernel_rfl, by kernel_rfl, by kernel_rfl, by kernel_rfl, by kernel_rfl⟩
theorem fn_70 : FnOk (KS P d0 d1 d2 d3 d4 d5 d6 d7) 70 [.s] P_go_in := ⟨(q "BaseStemmer.go_in_grouping"), (defIn2 2 5).1, (defIn2 2 5).2.1, (defIn2 2 5).2.2, .none, .none, (.str (q "snowballstemmer.basestemmer") 194), (.ref 69), .none, .type "function", none, none, #[], q "go_in_grouping", by kernel_rfl, by kernel_rfl, by kernel_rfl, by kernel_rfl, by kernel_rfl⟩
theorem fn_98 : FnOk (KS P d0 d1 d2 d3 d4 d5 d6 d7) 98 [.s] P_go_out := ⟨(q "BaseStemmer.go_out_grouping"), (defIn2 2 9).1, (defIn2 2 9).2.1, (defIn2 2 9).2.2, .none, .none, (.str (q "snowballstemmer.basestemmer") 194), (.ref 97), .none, .type "function", none, none, #[], q "go_out_grouping", by kernel_rfl, by kernel_rfl, by kernel_rfl, by kernel_rfl, by kernel_rfl⟩
theorem fn_77 : FnOk (KS P d0 d1 d2 d3 d4 d5 d6 d7) 77 [.s] P_in_b := ⟨(q "BaseStemmer.in_grouping_b"), (defIn2 2 6).1, (defIn2 2 6).2.1, (defIn2 2 6).2.2, .none, .none, (.str (q "snowballstemmer.basestemmer") 194), (.ref 76), .none, .type "function", none, none, #[], q "in_grouping_b", by kernel_rfl, by kernel_rfl, by kernel_rfl, by kernel_rfl, by kernel_rfl⟩
theorem fn_105 : FnOk (KS P d0 d1 d2 d3 d4 d5 d6 d7) 105 [.s] P_out_b := ⟨(q "BaseStemmer.out_grouping_b"), (defIn2 2 10).1, (defIn2 2 10).2.1, (defIn2 2 10).2.2, .none, .none, (.str (q "snowballstemmer.basestemmer") 194), (.ref 104), .none, .type "function", none, none, #[], q "out_grouping_b", by kernel_rfl, by kernel_rfl, by kernel_rfl, by kernel_rfl, by kernel_rfl⟩
theorem fn_126 : FnOk (KS P d0 d1 d2 d3 d4 d5 d6 d7) 126 [.s] P_eq_s_b := ⟨(q "BaseStemmer.eq_s_b"), (defIn2 2 13).1, (defIn2 2 13).2.1, (defIn2 2 13).2.2, .none, .none, (.str (q "snowballstemmer.basestemmer") 194), (.ref 125), .none, .type "function", none, none, #[], q "eq_s_b", by kernel_rfl, by kernel_rfl, by kernel_rfl, by kernel_rfl, by kernel_rfl⟩
theorem fn_140 : FnOk (KS P d0 d1 d2 d3 d4 d5 d6 d7) 140 [.v] P_find_b := ⟨(q "BaseStemmer.find_among_b"), (defIn2 2 15).1, (defIn2 2 15).2.1, (defIn2 2 15).2.2, .none, .none, (.str (q "snowballstemmer.basestemmer") 194), (.ref 139), .none, .type "function", none, none, #[], q "find_among_b", by kernel_rfl, by kernel_rfl, by kernel_rfl, by kernel_rfl, by kernel_rfl⟩
theorem fn_147 : FnOk (KS P d0 d1 d2 d3 d4 d5 d6 d7) 147 [.c_bra, .c_ket, .s] P_replace_s := ⟨(q "BaseStemmer.replace_s"), (defIn2 2 16).1, (defIn2 2 16).2.1, (defIn2 2 16).2.2, .none, .none, (.str (q "snowballstemmer.basestemmer") 194), (.ref 146), .none, .type "function", none, none, #[], q "replace_s", by kernel_rfl, by kernel_rfl, by kernel_rfl, by kernel_rfl, by kernel_rfl⟩
theorem fn_154 : FnOk (KS P d0 d1 d2 d3 d4 d5 d6 d7) 154 [.s] P_slice_from := ⟨(q "BaseStemmer.slice_from"), (defIn2 2 17).1, (defIn2 2 17).2.1, (defIn2 2 17).2.2, .none, .none, (.str (q "snowballstemmer.basestemmer") 194), (.ref 153), .none, .type "function", none, none, #[], q "slice_from", by kernel_rfl, by kernel_rfl, by kernel_rfl, by kernel_rfl, by kernel_rfl⟩
theorem fn_161 : FnOk (KS P d0 d1 d2 d3 d4 d5 d6 d7) 161 [] P_slice_del := ⟨(q "BaseStemmer.slice_del"), (defIn2 2 18).1, (defIn2 2 18).2.1, (defIn2 2 18).2.2, .none, .none, (.str (q "snowballstemmer.basestemmer") 194), (.ref 160), .none, .type "function", none, none, #[], q "slice_del", by kernel_rfl, by kernel_rfl, by kernel_rfl, by kernel_rfl, by kernel_rfl⟩
theorem fn_175 : FnOk (KS P d0 d1 d2 d3 d4 d5 d6 d7) 175 [] P_slice_to := ⟨(q "BaseStemmer.slice_to"), (defIn2 2 20).1, (defIn2 2 20).2.1, (defIn2 2 20).2.2, .none, .none, (.str (q "snowballstemmer.basestemmer") 194), (.ref 174), .none, .type "function", none, none, #[], q "slice_to", by kernel_rfl, by kernel_rfl, by kernel_rfl, by kernel_rfl, by kernel_rfl⟩
theorem fn_189 : FnOk (KS P d0 d1 d2 d3 d4 d5 d6 d7) 189 [.word] P_stemWord := ⟨(q "BaseStemmer.stemWord"), (defIn2 2 22).1, (defIn2 2 22).2.1, (defIn2 2 22).2.2, .none, .none, (.str (q "snowballstemmer.basestemmer") 194), (.ref 188), .none, .type "function", none, none, #[], q "stemWord", by kernel_rfl, by kernel_rfl, by kernel_rfl, by kernel_rfl, by kernel_rfl⟩
theorem fn_239 : FnOk (KS P d0 d1 d2 d3 d4 d5 d6 d7) 239 [] (P_mark2 .da) := ⟨(q "DanishStemmer.r_mark_regions"), (defIn2 6 4).1, (defIn2 6 4).2.1, (defIn2 6 4).2.2, .none, .none, (.str (q "snowballstemmer.danish_stemmer") 459), (.ref 238), .none, .type "function", none, none, #[], q "r_mark_regions", by kernel_rfl, by kernel_rfl, by kernel_rfl, by kernel_rfl, by kernel_rfl⟩
theorem fn_246 : FnOk (KS P d0 d1 d2 d3 d4 d5 d6 d7) 246 [] P_main_da := ⟨(q "DanishStemmer.r_main_suffix"), (defIn2 6 5).1, (defIn2 6 5).2.1, (defIn2 6 5).2.2, .none, .none, (.str (q "snowballstemmer.danish_stemmer") 459), (.ref 245), .none, .type "function", none, none, #[], q "r_main_suffix", by kernel_rfl, by kernel_rfl, by kernel_rfl, by kernel_rfl, by kernel_rfl⟩
theorem fn_253 : FnOk (KS P d0 d1 d2 d3 d4 d5 d6 d7) 253 [] (P_cons2 .da .a_1) := ⟨(q "DanishStemmer.r_consonant_pair"), (defIn2 6 6).1, (defIn2 6 6).2.1, (defIn2 6 6).2.2, .none, .none, (.str (q "snowballstemmer.danish_stemmer") 459), (.ref 252), .none, .type "function", none, none, #[], q "r_consonant_pair", by kernel_rfl, by kernel_rfl, by kernel_rfl, by kernel_rfl, by kernel_rfl⟩
theorem fn_260 : FnOk (KS P d0 d1 d2 d3 d4 d5 d6 d7) 260 [] P_other_da := ⟨(q "DanishStemmer.r_other_suffix"), (defIn2 6 7).1, (defIn2 6 7).2.1, (defIn2 6 7).2.2, .none, .none, (.str (q "snowballstemmer.danish_stemmer") 459), (.ref 259), .none, .type "function", none, none, #[], q "r_other_suffix", by kernel_rfl, by kernel_rfl, by kernel_rfl, by kernel_rfl, by kernel_rfl⟩
theorem fn_267 : FnOk (KS P d0 d1 d2 d3 d4 d5 d6 d7) 267 [] P_undouble := ⟨(q "DanishStemmer.r_undouble"), (defIn2 6 8).1, (defIn2 6 8).2.1, (defIn2 6 8).2.2, .none, .none, (.str (q "snowballstemmer.danish_stemmer") 459), (.ref 266), .none, .type "function", none, none, #[], q "r_undouble", by kernel_rfl, by kernel_rfl, by kernel_rfl, by kernel_rfl, by kernel_rfl⟩
theorem fn_274 : FnOk (KS P d0 d1 d2 d3 d4 d5 d6 d7) 274 [] P_stem_da := ⟨(q "DanishStemmer._stem"), (defIn2 6 9).1, (defIn2 6 9).2.1, (defIn2 6 9).2.2, .none, .none, (.str (q "snowballstemmer.danish_stemmer") 459), (.ref 273), .none, .type "function", none, none, #[], q "_stem", by kernel_rfl, by kernel_rfl, by kernel_rfl, by kernel_rfl, by kernel_rfl⟩
theorem fn_460 : FnOk (KS P d0 d1 d2 d3 d4 d5 d6 d7) 460 [] (P_mark2 .no) := ⟨(q "NorwegianStemmer.r_mark_regions"), (defIn2 14 3).1, (defIn2 14 3).2.1, (defIn2 14 3).2.2, .none, .none, (.str (q "snowballstemmer.norwegian_stemmer") 1247), (.ref 459), .none, .type "function", none, none, #[], q "r_mark_regions", by kernel_rfl, by kernel_rfl, by kernel_rfl, by kernel_rfl, by kernel_rfl⟩
theorem fn_467 : FnOk (KS P d0 d1 d2 d3 d4 d5 d6 d7) 467 [] P_main_no := ⟨(q "NorwegianStemmer.r_main_suffix"), (defIn2 14 4).1, (defIn2 14 4).2.1, (defIn2 14 4).2.2, .none, .none, (.str (q "snowballstemmer.norwegian_stemmer") 1247), (.ref 466), .none, .type "function", none, none, #[], q "r_main_suffix", by kernel_rfl, by kernel_rfl, by kernel_rfl, by kernel_rfl, by kernel_rfl⟩
theorem fn_474 : FnOk (KS P d0 d1 d2 d3 d4 d5 d6 d7) 474 [] (P_cons2 .no .a_2) := ⟨(q "NorwegianStemmer.r_consonant_pair"), (defIn2 14 5).1, (defIn2 14 5).2.1, (defIn2 14 5).2.2, .none, .none, (.str (q "snowballstemmer.norwegian_stemmer") 1247), (.ref 473), .none, .type "function", none, none, #[], q "r_consonant_pair", by kernel_rfl, by kernel_rfl, by kernel_rfl, by kernel_rfl, by kernel_rfl⟩
theorem fn_481 : FnOk (KS P d0 d1 d2 d3 d4 d5 d6 d7) 481 [] P_other_no := ⟨(q "NorwegianStemmer.r_other_suffix"), (defIn2 14 6).1, (defIn2 14 6).2.1, (defIn2 14 6).2.2, .none, .none, (.str (q "snowballstemmer.norwegian_stemmer") 1247), (.ref 480), .none, .type "function", none, none, #[], q "r_other_suffix", by kernel_rfl, by kernel_rfl, by kernel_rfl, by kernel_rfl, by kernel_rfl⟩
theorem fn_488 : FnOk (KS P d0 d1 d2 d3 d4 d5 d6 d7) 488 [] P_stem_no := ⟨(q "NorwegianStemmer._stem"), (defIn2 14 7).1, (defIn2 14 7).2.1, (defIn2 14 7).2.2, .none, .none, (.str (q "snowballstemmer.norwegian_stemmer") 1247), (.ref 487), .none, .type "function", none, none, #[], q "_stem", by kernel_rfl, by kernel_rfl, by kernel_rfl, by kernel_rfl, by kernel_rfl⟩
theorem fn_724 : FnOk (KS P d0 d1 d2 d3 d4 d5 d6 d7) 724 [] P_mark_sv := ⟨(q "SwedishStemmer.r_mark_regions"), (defIn2 22 4).1, (defIn2 22 4).2.1, (defIn2 22 4).2.2, .none, .none, (.str (q "snowballstemmer.swedish_stemmer") 2216), (.ref 723), .none, .type "function", none, none, #[], q "r_mark_regions", by kernel_rfl, by kernel_rfl, by kernel_rfl, by kernel_rfl, by kernel_rfl⟩
theorem fn_738 : FnOk (KS P d0 d1 d2 d3 d4 d5 d6 d7) 738 [] P_main_sv := ⟨(q "SwedishStemmer.r_main_suffix"), (defIn2 22 6).1, (defIn2 22 6).2.1, (defIn2 22 6).2.2, .none, .none, (.str (q "snowballstemmer.swedish_stemmer") 2216), (.ref 737), .none, .type "function", none, none, #[], q "r_main_suffix", by kernel_rfl, by kernel_rfl, by kernel_rfl, by kernel_rfl, by kernel_rfl⟩
theorem fn_745 : FnOk (KS P d0 d1 d2 d3 d4 d5 d6 d7) 745 [] P_cons_sv := ⟨(q "SwedishStemmer.r_consonant_pair"), (defIn2 22 7).1, (defIn2 22 7).2.1, (defIn2 22 7).2.2, .none, .none, (.str (q "snowballstemmer.swedish_stemmer") 2216), (.ref 744), .none, .type "function", none, none, #[], q "r_consonant_pair", by kernel_rfl, by kernel_rfl, by kernel_rfl, by kernel_rfl, by kernel_rfl⟩
theorem fn_752 : FnOk (KS P d0 d1 d2 d3 d4 d5 d6 d7) 752 [] P_other_sv := ⟨(q "SwedishStemmer.r_other_suffix"), (defIn2 22 8).1, (defIn2 22 8).2.1, (defIn2 22 8).2.2, .none, .none, (.str (q "snowballstemmer.swedish_stemmer") 2216), (.ref 751), .none, .type "function", none, none, #[], q "r_other_suffix", by kernel_rfl, by kernel_rfl, by kernel_rfl, by kernel_rfl, by kernel_rfl⟩
theorem fn_731 : FnOk (KS P d0 d1 d2 d3 d4 d5 d6 d7) 731 [] P_et := ⟨(q "SwedishStemmer.r_et_condition"), (defIn2 22 5).1, (defIn2 22 5).2.1, (defIn2 22 5).2.2, .none, .none, (.str (q "snowballstemmer.swedish_stemmer") 2216), (.ref 730), .none, .type "function", none, none, #[], q "r_et_condition", by kernel_rfl, by kernel_rfl, by kernel_rfl, by kernel_rfl, by kernel_rfl⟩
theorem fn_759 : FnOk (KS P d0 d1 d2 d3 d4 d5 d6 d7) 759 [] P_stem_sv := ⟨(q "SwedishStemmer._stem"), (defIn2 22 9).1, (defIn2 22 9).2.1, (defIn2 22 9).2.2, .none, .none, (.str (q "snowballstemmer.swedish_stemmer") 2216), (.ref 758), .none, .type "function", none, none, #[], q "_stem", by kernel_rfl, by kernel_rfl, by kernel_rfl, by kernel_rfl, by kernel_rfl⟩

theorem mth_of {K : Frag} {C f : Addr} {m : Mth} {ps ps' : List Loc} {b b' : List IS} (h : some (ps, b) = some (ps', b')) (hf : findIn K (.ref C) m.name = some (some (.ref f))) (x : FnOk K f ps b) :
    ∃ f qual params body scope kV doc pm cdv ct oc an od osl nm, findIn K (.ref C) m.name = some (some (.ref f)) ∧ isFn K (.ref f) = true ∧ keepIn K (.ref f) = true ∧
    K.lookup f = some ⟨oc, od, .func (fnOf nm qual params body scope .none kV doc pm an cdv ct), osl⟩ ∧ codeIn K cdv qual = true ∧ ckM params scope body ps' b' = true := by
  cases h
  obtain ⟨a1, a2, a3, a4, a5, a6, a7, a8, a9, b1, b2, b3, b4, b5, h1, h2, h3, h4, h5⟩ := x
  exact ⟨f, a1, a2, a3, a4, a5, a6, a7, a8, a9, b1, b2, b3, b4, b5, hf, h1, h2, h3, h4, h5⟩

theorem cls_da : ClsOk (KS P d0 d1 d2 d3 d4 d5 d6 d7) 403 (meths .da) := by
  refine ⟨fun m ps b h => ?_, by kernel_rfl, by kernel_rfl, by kernel_rfl, by kernel_rfl, fun f => ?_⟩
  · cases m
    · exact mth_of (m := .init) (C := 403) (f := 35) h (by kernel_rfl) (fn_35 P d0 d1 d2 d3 d4 d5 d6 d7)
    · exact mth_of (m := .set_current) (C := 403) (f := 42) h (by kernel_rfl) (fn_42 P d0 d1 d2 d3 d4 d5 d6 d7)
    · exact mth_of (m := .get_current) (C := 403) (f := 49) h (by kernel_rfl) (fn_49 P d0 d1 d2 d3 d4 d5 d6 d7)
    · exact mth_of (m := .go_in) (C := 403) (f := 70) h (by kernel_rfl) (fn_70 P d0 d1 d2 d3 d4 d5 d6 d7)
    · exact mth_of (m := .go_out) (C := 403) (f := 98) h (by kernel_rfl) (fn_98 P d0 d1 d2 d3 d4 d5 d6 d7)
    · exact mth_of (m := .in_b) (C := 403) (f := 77) h (by kernel_rfl) (fn_77 P d0 d1 d2 d3 d4 d5 d6 d7)
    · exact mth_of (m := .out_b) (C := 403) (f := 105) h (by kernel_rfl) (fn_105 P d0 d1 d2 d3 d4 d5 d6 d7)
    · exact mth_of (m := .eq_s_b) (C := 403) (f := 126) h (by kernel_rfl) (fn_126 P d0 d1 d2 d3 d4 d5 d6 d7)
    · exact mth_of (m := .find_b) (C := 403) (f := 140) h (by kernel_rfl) (fn_140 P d0 d1 d2 d3 d4 d5 d6 d7)
    · exact mth_of (m := .replace_s) (C := 403) (f := 147) h (by kernel_rfl) (fn_147 P d0 d1 d2 d3 d4 d5 d6 d7)
    · exact mth_of (m := .slice_from) (C := 403) (f := 154) h (by kernel_rfl) (fn_154 P d0 d1 d2 d3 d4 d5 d6 d7)
    · exact mth_of (m := .slice_del) (C := 403) (f := 161) h (by kernel_rfl) (fn_161 P d0 d1 d2 d3 d4 d5 d6 d7)
    · exact mth_of (m := .slice_to) (C := 403) (f := 175) h (by kernel_rfl) (fn_175 P d0 d1 d2 d3 d4 d5 d6 d7)
    · exact mth_of (m := .stemWord) (C := 403) (f := 189) h (by kernel_rfl) (fn_189 P d0 d1 d2 d3 d4 d5 d6 d7)
    · exact mth_of (m := .r_mark) (C := 403) (f := 239) h (by kernel_rfl) (fn_239 P d0 d1 d2 d3 d4 d5 d6 d7)
    · exact mth_of (m := .r_main) (C := 403) (f := 246) h (by kernel_rfl) (fn_246 P d0 d1 d2 d3 d4 d5 d6 d7)
    · exact mth_of (m := .r_cons) (C := 403) (f := 253) h (by kernel_rfl) (fn_253 P d0 d1 d2 d3 d4 d5 d6 d7)
    · exact mth_of (m := .r_other) (C := 403) (f := 260) h (by kernel_rfl) (fn_260 P d0 d1 d2 d3 d4 d5 d6 d7)
    · exact mth_of (m := .r_undouble) (C := 403) (f := 267) h (by kernel_rfl) (fn_267 P d0 d1 d2 d3 d4 d5 d6 d7)
    · exact absurd h (by intro z; cases (show none = some _ from z))
    · exact mth_of (m := .stem) (C := 403) (f := 274) h (by kernel_rfl) (fn_274 P d0 d1 d2 d3 d4 d5 d6 d7)
  · cases f
    · exact ⟨⟨none, by kernel_rfl, by kernel_rfl⟩, by kernel_rfl⟩
    · exact ⟨⟨none, by kernel_rfl, by kernel_rfl⟩, by kernel_rfl⟩
    · exact ⟨⟨none, by kernel_rfl, by kernel_rfl⟩, by kernel_rfl⟩
    · exact ⟨⟨none, by kernel_rfl, by kernel_rfl⟩, by kernel_rfl⟩
    · exact ⟨⟨none, by kernel_rfl, by kernel_rfl⟩, by kernel_rfl⟩
    · exact ⟨⟨none, by kernel_rfl, by kernel_rfl⟩, by kernel_rfl⟩
    · exact ⟨⟨some (.int (0) 560), by kernel_rfl, by kernel_rfl⟩, by kernel_rfl⟩

theorem cls_no : ClsOk (KS P d0 d1 d2 d3 d4 d5 d6 d7) 666 (meths .no) := by
  refine ⟨fun m ps b h => ?_, by kernel_rfl, by kernel_rfl, by kernel_rfl, by kernel_rfl, fun f => ?_⟩
  · cases m
    · exact mth_of (m := .init) (C := 666) (f := 35) h (by kernel_rfl) (fn_35 P d0 d1 d2 d3 d4 d5 d6 d7)
    · exact mth_of (m := .set_current) (C := 666) (f := 42) h (by kernel_rfl) (fn_42 P d0 d1 d2 d3 d4 d5 d6 d7)
    · exact mth_of (m := .get_current) (C := 666) (f := 49) h (by kernel_rfl) (fn_49 P d0 d1 d2 d3 d4 d5 d6 d7)
    · exact mth_of (m := .go_in) (C := 666) (f := 70) h (by kernel_rfl) (fn_70 P d0 d1 d2 d3 d4 d5 d6 d7)
    · exact mth_of (m := .go_out) (C := 666) (f := 98) h (by kernel_rfl) (fn_98 P d0 d1 d2 d3 d4 d5 d6 d7)
    · exact mth_of (m := .in_b) (C := 666) (f := 77) h (by kernel_rfl) (fn_77 P d0 d1 d2 d3 d4 d5 d6 d7)
    · exact mth_of (m := .out_b) (C := 666) (f := 105) h (by kernel_rfl) (fn_105 P d0 d1 d2 d3 d4 d5 d6 d7)
    · exact mth_of (m := .eq_s_b) (C := 666) (f := 126) h (by kernel_rfl) (fn_126 P d0 d1 d2 d3 d4 d5 d6 d7)
    · exact mth_of (m := .find_b) (C := 666) (f := 140) h (by kernel_rfl) (fn_140 P d0 d1 d2 d3 d4 d5 d6 d7)
    · exact mth_of (m := .replace_s) (C := 666) (f := 147) h (by kernel_rfl) (fn_147 P d0 d1 d2 d3 d4 d5 d6 d7)
    · exact mth_of (m := .slice_from) (C := 666) (f := 154) h (by kernel_rfl) (fn_154 P d0 d1 d2 d3 d4 d5 d6 d7)
    · exact mth_of (m := .slice_del) (C := 666) (f := 161) h (by kernel_rfl) (fn_161 P d0 d1 d2 d3 d4 d5 d6 d7)
    · exact mth_of (m := .slice_to) (C := 666) (f := 175) h (by kernel_rfl) (fn_175 P d0 d1 d2 d3 d4 d5 d6 d7)
    · exact mth_of (m := .stemWord) (C := 666) (f := 189) h (by kernel_rfl) (fn_189 P d0 d1 d2 d3 d4 d5 d6 d7)
    · exact mth_of (m := .r_mark) (C := 666) (f := 460) h (by kernel_rfl) (fn_460 P d0 d1 d2 d3 d4 d5 d6 d7)
    · exact mth_of (m := .r_main) (C := 666) (f := 467) h (by kernel_rfl) (fn_467 P d0 d1 d2 d3 d4 d5 d6 d7)
    · exact mth_of (m := .r_cons) (C := 666) (f := 474) h (by kernel_rfl) (fn_474 P d0 d1 d2 d3 d4 d5 d6 d7)
    · exact mth_of (m := .r_other) (C := 666) (f := 481) h (by kernel_rfl) (fn_481 P d0 d1 d2 d3 d4 d5 d6 d7)
    · exact absurd h (by intro z; cases (show none = some _ from z))
    · exact absurd h (by intro z; cases (show none = some _ from z))
    · exact mth_of (m := .stem) (C := 666) (f := 488) h (by kernel_rfl) (fn_488 P d0 d1 d2 d3 d4 d5 d6 d7)
  · cases f
    · exact ⟨⟨none, by kernel_rfl, by kernel_rfl⟩, by kernel_rfl⟩
    · exact ⟨⟨none, by kernel_rfl, by kernel_rfl⟩, by kernel_rfl⟩
    · exact ⟨⟨none, by kernel_rfl, by kernel_rfl⟩, by kernel_rfl⟩
    · exact ⟨⟨none, by kernel_rfl, by kernel_rfl⟩, by kernel_rfl⟩
    · exact ⟨⟨none, by kernel_rfl, by kernel_rfl⟩, by kernel_rfl⟩
    · exact ⟨⟨none, by kernel_rfl, by kernel_rfl⟩, by kernel_rfl⟩
    · exact ⟨⟨some (.int (0) 1321), by kernel_rfl, by kernel_rfl⟩, by kernel_rfl⟩

theorem cls_sv : ClsOk (KS P d0 d1 d2 d3 d4 d5 d6 d7) 979 (meths .sv) := by
  refine ⟨fun m ps b h => ?_, by kernel_rfl, by kernel_rfl, by kernel_rfl, by kernel_rfl, fun f => ?_⟩
  · cases m
    · exact mth_of (m := .init) (C := 979) (f := 35) h (by kernel_rfl) (fn_35 P d0 d1 d2 d3 d4 d5 d6 d7)
    · exact mth_of (m := .set_current) (C := 979) (f := 42) h (by kernel_rfl) (fn_42 P d0 d1 d2 d3 d4 d5 d6 d7)
    · exact mth_of (m := .get_current) (C := 979) (f := 49) h (by kernel_rfl) (fn_49 P d0 d1 d2 d3 d4 d5 d6 d7)
    · exact mth_of (m := .go_in) (C := 979) (f := 70) h (by kernel_rfl) (fn_70 P d0 d1 d2 d3 d4 d5 d6 d7)
    · exact mth_of (m := .go_out) (C := 979) (f := 98) h (by kernel_rfl) (fn_98 P d0 d1 d2 d3 d4 d5 d6 d7)
    · exact mth_of (m := .in_b) (C := 979) (f := 77) h (by kernel_rfl) (fn_77 P d0 d1 d2 d3 d4 d5 d6 d7)
    · exact mth_of (m := .out_b) (C := 979) (f := 105) h (by kernel_rfl) (fn_105 P d0 d1 d2 d3 d4 d5 d6 d7)
    · exact mth_of (m := .eq_s_b) (C := 979) (f := 126) h (by kernel_rfl) (fn_126 P d0 d1 d2 d3 d4 d5 d6 d7)
    · exact mth_of (m := .find_b) (C := 979) (f := 140) h (by kernel_rfl) (fn_140 P d0 d1 d2 d3 d4 d5 d6 d7)
    · exact mth_of (m := .replace_s) (C := 979) (f := 147) h (by kernel_rfl) (fn_147 P d0 d1 d2 d3 d4 d5 d6 d7)
    · exact mth_of (m := .slice_from) (C := 979) (f := 154) h (by kernel_rfl) (fn_154 P d0 d1 d2 d3 d4 d5 d6 d7)
    · exact mth_of (m := .slice_del) (C := 979) (f := 161) h (by kernel_rfl) (fn_161 P d0 d1 d2 d3 d4 d5 d6 d7)
    · exact mth_of (m := .slice_to) (C := 979) (f := 175) h (by kernel_rfl) (fn_175 P d0 d1 d2 d3 d4 d5 d6 d7)
    · exact mth_of (m := .stemWord) (C := 979) (f := 189) h (by kernel_rfl) (fn_189 P d0 d1 d2 d3 d4 d5 d6 d7)
    · exact mth_of (m := .r_mark) (C := 979) (f := 724) h (by kernel_rfl) (fn_724 P d0 d1 d2 d3 d4 d5 d6 d7)
    · exact mth_of (m := .r_main) (C := 979) (f := 738) h (by kernel_rfl) (fn_738 P d0 d1 d2 d3 d4 d5 d6 d7)
    · exact mth_of (m := .r_cons) (C := 979) (f := 745) h (by kernel_rfl) (fn_745 P d0 d1 d2 d3 d4 d5 d6 d7)
    · exact mth_of (m := .r_other) (C := 979) (f := 752) h (by kernel_rfl) (fn_752 P d0 d1 d2 d3 d4 d5 d6 d7)
    · exact absurd h (by intro z; cases (show none = some _ from z))
    · exact mth_of (m := .r_et) (C := 979) (f := 731) h (by kernel_rfl) (fn_731 P d0 d1 d2 d3 d4 d5 d6 d7)
    · exact mth_of (m := .stem) (C := 979) (f := 759) h (by kernel_rfl) (fn_759 P d0 d1 d2 d3 d4 d5 d6 d7)
  · cases f
    · exact ⟨⟨none, by kernel_rfl, by kernel_rfl⟩, by kernel_rfl⟩
    · exact ⟨⟨none, by kernel_rfl, by kernel_rfl⟩, by kernel_rfl⟩
    · exact ⟨⟨none, by kernel_rfl, by kernel_rfl⟩, by kernel_rfl⟩
    · exact ⟨⟨none, by kernel_rfl, by kernel_rfl⟩, by kernel_rfl⟩
    · exact ⟨⟨none, by kernel_rfl, by kernel_rfl⟩, by kernel_rfl⟩
    · exact ⟨⟨none, by kernel_rfl, by kernel_rfl⟩, by kernel_rfl⟩
    · exact ⟨⟨some (.int (0) 2303), by kernel_rfl, by kernel_rfl⟩, by kernel_rfl⟩

def gatL : Cls → Att → Option Addr
  | .da, .g_undouble_c => some 230
  | .da, .g_v => some 231
  | .da, .g_s_ending => some 232
  | .da, .a_0 => some 371
  | .da, .a_1 => some 384
  | .da, .a_2 => some 400
  | .no, .g_v => some 452
  | .no, .g_s_ending => some 453
  | .no, .a_0 => some 534
  | .no, .a_1 => some 622
  | .no, .a_2 => some 629
  | .no, .a_3 => some 663
  | .sv, .g_v => some 715
  | .sv, .g_s_ending => some 716
  | .sv, .g_ost_ending => some 717
  | .sv, .a_0 => some 823
  | .sv, .a_1 => some 938
  | .sv, .a_2 => some 960
  | .sv, .a_3 => some 976
  | _, _ => none
def L_da_0 : List Addr := [276, 279, 282, 285, 288, 291, 294, 297, 300, 303, 306, 309, 312, 315, 318, 321, 324, 327, 330, 333, 336, 339, 342, 345, 348, 351, 354, 357, 360, 363, 366, 369]
def L_da_1 : List Addr := [373, 376, 379, 382]
def L_da_2 : List Addr := [386, 389, 392, 395, 398]
def L_no_0 : List Addr := [490, 493, 496, 499, 502, 505, 508, 511, 514, 517, 520, 523, 526, 529, 532]
def L_no_1 : List Addr := [536, 539, 542, 545, 548, 551, 554, 557, 560, 563, 566, 569, 572, 575, 578, 581, 584, 587, 590, 593, 596, 599, 602, 605, 608, 611, 614, 617, 620]
def L_no_2 : List Addr := [624, 627]
def L_no_3 : List Addr := [631, 634, 637, 640, 643, 646, 649, 652, 655, 658, 661]
def L_sv_0 : List Addr := [761, 764, 767, 770, 773, 776, 779, 782, 785, 788, 791, 794, 797, 800, 803, 806, 809, 812, 815, 818, 821]
def L_sv_1 : List Addr := [825, 828, 831, 834, 837, 840, 843, 846, 849, 852, 855, 858, 861, 864, 867, 870, 873, 876, 879, 882, 885, 888, 891, 894, 897, 900, 903, 906, 909, 912, 915, 918, 921, 924, 927, 930, 933, 936]
def L_sv_2 : List Addr := [940, 943, 946, 949, 952, 955, 958]
def L_sv_3 : List Addr := [962, 965, 968, 971, 974]
def lstL : List (Addr × List Addr) := [(371, L_da_0), (384, L_da_1), (400, L_da_2), (534, L_no_0), (622, L_no_1), (629, L_no_2), (663, L_no_3), (823, L_sv_0), (938, L_sv_1), (960, L_sv_2), (976, L_sv_3)]
def amgL : List (Addr × Entry) := L_da_0.zip A_da_0 ++ L_da_1.zip A_da_1 ++ L_da_2.zip A_da_2 ++ L_no_0.zip A_no_0 ++ L_no_1.zip A_no_1 ++ L_no_2.zip A_no_2 ++ L_no_3.zip A_no_3 ++ L_sv_0.zip A_sv_0 ++ L_sv_1.zip A_sv_1 ++ L_sv_2.zip A_sv_2 ++ L_sv_3.zip A_sv_3
abbrev strsOf (N : List Nat) : List Str := N.map fun x => st [x]
def setL : List (Addr × List Str) := [(230, strsOf N_da_undouble_c), (231, strsOf N_da_v), (232, strsOf N_da_s_ending), (452, strsOf N_no_v), (453, strsOf N_no_s_ending), (715, strsOf N_sv_v), (716, strsOf N_sv_s_ending), (717, strsOf N_sv_ost_ending)]
def sgL : Sg where
  gattr := gatL
  lst a := lstL.lookup a
  amg a := (amgL.lookup a).map fun e => (st e.1, e.2.1, e.2.2)
  set a := setL.lookup a

theorem mem_of_lookup {α : Type} {l : List (Addr × α)} {a : Addr} {x : α} (h : l.lookup a = some x) : (a, x) ∈ l := by
  induction l with
  | nil => cases h
  | cons p l ih =>
    rw [show p = (p.1, p.2) from rfl, List.lookup_cons] at h
    split at h
    · rename_i hb; cases h; rw [eq_of_beq hb]; exact .head _
    · exact .tail _ (ih h)
def mvEq : Option MV → MV → Bool
  | some (.int i), .int j => i == j
  | some (.str s), .str t => s == t
  | _, _ => false
theorem mvEq_ok {a : Option MV} {b : MV} (h : mvEq a b = true) : a = some b := by
  unfold mvEq at h
  split at h
  · rw [eq_of_beq h]
  · rw [eq_of_beq h]
  · cases h
def amgK (K : Frag) (t : Str × Int × Int) (es : List DictEntry) (k : Amf) : Bool := match findIn K (.ref 218) k.name with
  | some at_ => noGet K at_ && (match getL k.name es with
    | some (some v) => mvEq (MV.of v) (amf k t)
    | _ => false)
  | none => false
def amgC (K : Frag) (p : Addr × Entry) : Bool := match K.lookup p.1 with
  | some ⟨.ref C, some dx, .plain, sl⟩ => Nat.beq C 218 && sl.isEmpty && (match K.lookup dx with
    | some ⟨.type n, none, .dict es _, sl'⟩ => n == "dict" && sl'.isEmpty && (let t := (st p.2.1, p.2.2.1, p.2.2.2); amgK K t es.toList .s && amgK K t es.toList .sub && amgK K t es.toList .res)
    | _ => false)
  | _ => false
theorem amgK_ok {K : Frag} {t : Str × Int × Int} {es : List DictEntry} {k : Amf} (h : amgK K t es k = true) : ∃ at_ v, findIn K (.ref 218) k.name = some at_ ∧ noGet K at_ = true ∧ getL k.name es = some (some v) ∧ MV.of v = some (amf k t) := by
  unfold amgK at h
  split at h
  · rename_i at_ h1
    obtain ⟨h2, h3⟩ := Bool.and_eq_true_iff.mp h
    split at h3
    · rename_i v h4
      exact ⟨at_, v, h1, h2, h4, mvEq_ok h3⟩
    · cases h3
  · cases h
theorem amgC_ok {K : Frag} {p : Addr × Entry} (g1 : plainGet K 218 "" = true) (g2 : hasDictIn K 218 = true) (h : amgC K p = true) :
    ∃ C dx es n, K.lookup p.1 = some (instObj C dx) ∧ K.lookup dx = some (dictOf es n) ∧ plainGet K C "" = true ∧ hasDictIn K C = true ∧
    ∀ k : Amf, ∃ at_ v, findIn K (.ref C) k.name = some at_ ∧ noGet K at_ = true ∧ getL k.name es = some (some v) ∧ MV.of v = some (amf k (st p.2.1, p.2.2.1, p.2.2.2)) := by
  unfold amgC at h
  split at h
  · rename_i C dx sl h1
    obtain ⟨h23, h4⟩ := Bool.and_eq_true_iff.mp h
    obtain ⟨h2, h3⟩ := Bool.and_eq_true_iff.mp h23
    obtain rfl := Nat.eq_of_beq_eq_true h2
    split at h4
    · rename_i n es ep sl' h5
      obtain ⟨h67, h8⟩ := Bool.and_eq_true_iff.mp h4
      obtain ⟨h6, h7⟩ := Bool.and_eq_true_iff.mp h67
      obtain ⟨h9, h10⟩ := Bool.and_eq_true_iff.mp h8
      obtain ⟨h11, h12⟩ := Bool.and_eq_true_iff.mp h9
      have e1 : sl = #[] := by simpa using h3
      have e2 : sl' = #[] := by simpa using h7
      have e3 : n = "dict" := eq_of_beq h6
      subst e1 e2 e3
      refine ⟨218, dx, es.toList, ep, h1, h5, g1, g2, fun k => ?_⟩
      cases k
      · exact amgK_ok h11
      · exact amgK_ok h12
      · exact amgK_ok h10
    · cases h4
  · cases h
theorem amg_da_0 : (L_da_0.zip A_da_0).all (amgC (KS P d0 d1 d2 d3 d4 d5 d6 d7)) = true := by kernel_rfl
theorem amg_da_1 : (L_da_1.zip A_da_1).all (amgC (KS P d0 d1 d2 d3 d4 d5 d6 d7)) = true := by kernel_rfl
theorem amg_da_2 : (L_da_2.zip A_da_2).all (amgC (KS P d0 d1 d2 d3 d4 d5 d6 d7)) = true := by kernel_rfl
theorem amg_no_0 : (L_no_0.zip A_no_0).all (amgC (KS P d0 d1 d2 d3 d4 d5 d6 d7)) = true := by kernel_rfl
theorem amg_no_1 : (L_no_1.zip A_no_1).all (amgC (KS P d0 d1 d2 d3 d4 d5 d6 d7)) = true := by kernel_rfl
theorem amg_no_2 : (L_no_2.zip A_no_2).all (amgC (KS P d0 d1 d2 d3 d4 d5 d6 d7)) = true := by kernel_rfl
theorem amg_no_3 : (L_no_3.zip A_no_3).all (amgC (KS P d0 d1 d2 d3 d4 d5 d6 d7)) = true := by kernel_rfl
theorem amg_sv_0 : (L_sv_0.zip A_sv_0).all (amgC (KS P d0 d1 d2 d3 d4 d5 d6 d7)) = true := by kernel_rfl
theorem amg_sv_1 : (L_sv_1.zip A_sv_1).all (amgC (KS P d0 d1 d2 d3 d4 d5 d6 d7)) = true := by kernel_rfl
theorem amg_sv_2 : (L_sv_2.zip A_sv_2).all (amgC (KS P d0 d1 d2 d3 d4 d5 d6 d7)) = true := by kernel_rfl
theorem amg_sv_3 : (L_sv_3.zip A_sv_3).all (amgC (KS P d0 d1 d2 d3 d4 d5 d6 d7)) = true := by kernel_rfl
theorem amg_all : amgL.all (amgC (KS P d0 d1 d2 d3 d4 d5 d6 d7)) = true := by
  unfold amgL
  simp only [List.all_append, Bool.and_eq_true]
  exact ⟨⟨⟨⟨⟨⟨⟨⟨⟨⟨amg_da_0 .., amg_da_1 ..⟩, amg_da_2 ..⟩, amg_no_0 ..⟩, amg_no_1 ..⟩, amg_no_2 ..⟩, amg_no_3 ..⟩, amg_sv_0 ..⟩, amg_sv_1 ..⟩, amg_sv_2 ..⟩, amg_sv_3 ..⟩
theorem among_1 : plainGet (KS P d0 d1 d2 d3 d4 d5 d6 d7) 218 "" = true := by kernel_rfl
theorem among_2 : hasDictIn (KS P d0 d1 d2 d3 d4 d5 d6 d7) 218 = true := by kernel_rfl
def lstC (K : Frag) (p : Addr × List Addr) : Prop := p.2.length < 4096 ∧ ∃ dd n sl, K.lookup p.1 = some ⟨.type "list", dd, .seq (p.2.map Value.ref).toArray n, sl⟩
theorem lst_da_0 : lstC (KS P d0 d1 d2 d3 d4 d5 d6 d7) (371, L_da_0) := ⟨by decide, none, 0, #[], by kernel_rfl⟩
theorem lst_da_1 : lstC (KS P d0 d1 d2 d3 d4 d5 d6 d7) (384, L_da_1) := ⟨by decide, none, 0, #[], by kernel_rfl⟩
theorem lst_da_2 : lstC (KS P d0 d1 d2 d3 d4 d5 d6 d7) (400, L_da_2) := ⟨by decide, none, 0, #[], by kernel_rfl⟩
theorem lst_no_0 : lstC (KS P d0 d1 d2 d3 d4 d5 d6 d7) (534, L_no_0) := ⟨by decide, none, 0, #[], by kernel_rfl⟩
theorem lst_no_1 : lstC (KS P d0 d1 d2 d3 d4 d5 d6 d7) (622, L_no_1) := ⟨by decide, none, 0, #[], by kernel_rfl⟩
theorem lst_no_2 : lstC (KS P d0 d1 d2 d3 d4 d5 d6 d7) (629, L_no_2) := ⟨by decide, none, 0, #[], by kernel_rfl⟩
theorem lst_no_3 : lstC (KS P d0 d1 d2 d3 d4 d5 d6 d7) (663, L_no_3) := ⟨by decide, none, 0, #[], by kernel_rfl⟩
theorem lst_sv_0 : lstC (KS P d0 d1 d2 d3 d4 d5 d6 d7) (823, L_sv_0) := ⟨by decide, none, 0, #[], by kernel_rfl⟩
theorem lst_sv_1 : lstC (KS P d0 d1 d2 d3 d4 d5 d6 d7) (938, L_sv_1) := ⟨by decide, none, 0, #[], by kernel_rfl⟩
theorem lst_sv_2 : lstC (KS P d0 d1 d2 d3 d4 d5 d6 d7) (960, L_sv_2) := ⟨by decide, none, 0, #[], by kernel_rfl⟩
theorem lst_sv_3 : lstC (KS P d0 d1 d2 d3 d4 d5 d6 d7) (976, L_sv_3) := ⟨by decide, none, 0, #[], by kernel_rfl⟩

theorem set_of {w : World} {K : Frag} {g : Heap} (X : K.In g) {a : Addr} {l l' : List Str} {d : SD} (h1 : K.lookup a = some (setO d)) (h2 : IsSet prg w l d) (h3 : l = l') (h4 : l'.length < scanBound) :
    ∃ o n, g.get? a = some o ∧ o.SetObjOf (PySem.strKind prog w) (fun k => l'.contains k) n ∧ n < scanBound := by
  subst h3
  obtain ⟨S, s1, s2⟩ := h2
  rw [show S = fun k => l.contains k from funext s2] at s1
  exact ⟨_, _, X _ _ h1, s1, h4⟩

def labA : Cls → Lab → Addr
  | .da, .l0 => 415
  | .da, .l1 => 428
  | .da, .l2 => 441
  | .no, .l0 => 678
  | .no, .l1 => 691
  | .no, .l2 => 704
  | .sv, .l0 => 991
  | _, _ => 0
theorem lab_1 (k : Cls) (l : Lab) (h : labOk k l = true) : nsIn (KS P d0 d1 d2 d3 d4 d5 d6 d7) mainGlobals (Lab.name k l) = some (some (.ref (labA k l))) := by
  cases k <;> cases l <;> first | (exact absurd h (by decide)) | kernel_rfl
theorem lab_2 (k : Cls) (l : Lab) (h : labOk k l = true) : excIn (KS P d0 d1 d2 d3 d4 d5 d6 d7) (labA k l) [.type "Exception", .type "BaseException", .type "object"] "Exception.__new__" = true := by
  cases k <;> cases l <;> first | (exact absurd h (by decide)) | kernel_rfl
theorem lab_3 (k k' : Cls) (l l' : Lab) (h : labOk k l = true) (h' : labOk k' l' = true) : exmOne (KS P d0 d1 d2 d3 d4 d5 d6 d7) (.ref (labA k' l')) (.ref (labA k l)) = some (decide (labA k' l' = labA k l)) := by
  cases k <;> cases l <;> first | (exact absurd h (by decide)) | (cases k' <;> cases l' <;> first | (exact absurd h' (by decide)) | kernel_rfl)
theorem labA_inj (k k' : Cls) (l l' : Lab) (h : labOk k l = true) (h' : labOk k' l' = true) (e : labA k' l' = labA k l) : (k', l') = (k, l) := by
  cases k <;> cases l <;> first | (exact absurd h (by decide)) | (cases k' <;> cases l' <;> first | (exact absurd h' (by decide)) | rfl | (exact absurd e (by decide)))

theorem clsN : ∀ k : Cls, ∃ C, nsIn (KS P d0 d1 d2 d3 d4 d5 d6 d7) mainGlobals k.name = some (some (.ref C)) ∧ typeIn (KS P d0 d1 d2 d3 d4 d5 d6 d7) (.ref C) = some (.type "type") ∧ readsIn (KS P d0 d1 d2 d3 d4 d5 d6 d7) C (.type "type") = true ∧ ∀ a p, gatL k a = some p → findCls (KS P d0 d1 d2 d3 d4 d5 d6 d7) (.ref C) (.type "type") a.name = some (.val (.ref p))
  | .da => ⟨403, by kernel_rfl, by kernel_rfl, by kernel_rfl, by
    intro a p h
    cases a <;> first | (cases h; kernel_rfl) | (cases (show none = some p from h))⟩
  | .no => ⟨666, by kernel_rfl, by kernel_rfl, by kernel_rfl, by
    intro a p h
    cases a <;> first | (cases h; kernel_rfl) | (cases (show none = some p from h))⟩
  | .sv => ⟨979, by kernel_rfl, by kernel_rfl, by kernel_rfl, by
    intro a p h
    cases a <;> first | (cases h; kernel_rfl) | (cases (show none = some p from h))⟩

theorem sg_ok (w : World) {d0 d1 d2 d3 d4 d5 d6 d7 : SD} {g : Heap} (hS : Sets w d0 d1 d2 d3 d4 d5 d6 d7) (X : (KS w.params d0 d1 d2 d3 d4 d5 d6 d7).In g) : SgOk w (KS w.params d0 d1 d2 d3 d4 d5 d6 d7) g sgL where
  gattr k a p h := by
    obtain ⟨C, h1, h2, h3, h4⟩ := clsN w.params d0 d1 d2 d3 d4 d5 d6 d7 k
    exact ⟨C, .type "type", h1, h2, h3, h4 a p h⟩
  lst a l h := by
    have hm := mem_of_lookup (l := lstL) h
    have H : ∀ p ∈ lstL, lstC (KS w.params d0 d1 d2 d3 d4 d5 d6 d7) p := by
      intro p hp
      simp only [lstL, List.mem_cons, List.not_mem_nil, or_false] at hp
      rcases hp with rfl | rfl | rfl | rfl | rfl | rfl | rfl | rfl | rfl | rfl | rfl
      · exact lst_da_0 ..
      · exact lst_da_1 ..
      · exact lst_da_2 ..
      · exact lst_no_0 ..
      · exact lst_no_1 ..
      · exact lst_no_2 ..
      · exact lst_no_3 ..
      · exact lst_sv_0 ..
      · exact lst_sv_1 ..
      · exact lst_sv_2 ..
      · exact lst_sv_3 ..
    exact H _ hm
  amg a t h := by
    obtain ⟨e, he, rfl⟩ := Option.map_eq_some_iff.mp h
    have hm := mem_of_lookup (l := amgL) he
    have := List.all_eq_true.mp (amg_all w.params d0 d1 d2 d3 d4 d5 d6 d7) _ hm
    exact amgC_ok (among_1 ..) (among_2 ..) this
  set a l h := by
    have hm := mem_of_lookup (l := setL) h
    simp only [setL, List.mem_cons, List.not_mem_nil, or_false, Prod.mk.injEq] at hm
    rcases hm with ⟨rfl, rfl⟩ | ⟨rfl, rfl⟩ | ⟨rfl, rfl⟩ | ⟨rfl, rfl⟩ | ⟨rfl, rfl⟩ | ⟨rfl, rfl⟩ | ⟨rfl, rfl⟩ | ⟨rfl, rfl⟩
    · exact set_of X (by kernel_rfl) hS.a.1 (by kernel_rfl) (by decide)
    · exact set_of X (by kernel_rfl) hS.a.2.1 (by kernel_rfl) (by decide)
    · exact set_of X (by kernel_rfl) hS.a.2.2.1 (by kernel_rfl) (by decide)
    · exact set_of X (by kernel_rfl) hS.b.1 (by kernel_rfl) (by decide)
    · exact set_of X (by kernel_rfl) hS.b.2.1 (by kernel_rfl) (by decide)
    · exact set_of X (by kernel_rfl) hS.c.1 (by kernel_rfl) (by decide)
    · exact set_of X (by kernel_rfl) hS.c.2.1 (by kernel_rfl) (by decide)
    · exact set_of X (by kernel_rfl) hS.c.2.2.1 (by kernel_rfl) (by decide)
  lab k l h := ⟨labA k l, lab_1 _ _ _ _ _ _ _ _ _ k l h, lab_2 _ _ _ _ _ _ _ _ _ k l h, (lab_3 _ _ _ _ _ _ _ _ _ k k l l h h).trans (by simp), fun k' l' h' hne => ⟨labA k' l', lab_1 _ _ _ _ _ _ _ _ _ k' l' h', (lab_3 _ _ _ _ _ _ _ _ _ k k' l l' h h').trans (by simp; exact fun e => hne (labA_inj k k' l l' h h' e))⟩⟩
  noLen := by kernel_rfl
  noOrd := by kernel_rfl
  noMin := by kernel_rfl
  noRange := by kernel_rfl
end

theorem inS_strs (N : List Nat) (x : Nat) : inS (strsOf N) x = N.contains x := by
  show (N.map fun x => st [x]).contains (st [x]) = N.contains x
  induction N with
  | nil => rfl
  | cons y N ih =>
    rw [List.map_cons, List.contains_cons, List.contains_cons, ih]
    congr 1
    by_cases e : x = y
    · rw [e]; simp
    · rw [st_ne e]; simp [e]
theorem hasS {k : Cls} {a : Att} {p : Addr} {N : List Nat} (h1 : gatL k a = some p) (h2 : setL.lookup p = some (strsOf N)) : HasS sgL k a N := ⟨p, strsOf N, h1, h2, fun x => inS_strs N x⟩

def tabC (l : List Addr) (tbl : List Entry) : Bool := Nat.beq l.length tbl.length && Nat.blt tbl.length 4096 && tbl.all (fun e => Nat.ble e.1.length bigLine) && (l.zip tbl).all fun p => decide (amgL.lookup p.1 = some p.2)
theorem hasT {k : Cls} {a : Att} {p : Addr} {l : List Addr} {tbl : List Entry} (h1 : gatL k a = some p) (h2 : lstL.lookup p = some l) (h3 : tabC l tbl = true) : HasT sgL k a tbl := by
  unfold tabC at h3
  obtain ⟨h123, h4⟩ := Bool.and_eq_true_iff.mp h3
  obtain ⟨h12, h5⟩ := Bool.and_eq_true_iff.mp h123
  obtain ⟨h6, h7⟩ := Bool.and_eq_true_iff.mp h12
  have hl := Nat.eq_of_beq_eq_true h6
  refine ⟨p, h1, ⟨l, h2, hl, fun k e he => ?_⟩, Nat.le_of_ble_eq_true h7, fun e he => Nat.le_of_ble_eq_true (List.all_eq_true.mp h5 e he)⟩
  have hk : k < tbl.length := (List.getElem?_eq_some_iff.mp he).1
  have hk' : k < l.length := by omega
  refine ⟨l[k], List.getElem?_eq_getElem hk', ?_⟩
  have he' : tbl[k] = e := (List.getElem?_eq_some_iff.mp he).2
  have hm : (l[k], e) ∈ l.zip tbl := by
    rw [← he']
    have hz : k < (l.zip tbl).length := by rw [List.length_zip]; omega
    have := List.getElem_mem hz
    rwa [List.getElem_zip] at this
  have := of_decide_eq_true (List.all_eq_true.mp h4 _ hm)
  show (amgL.lookup l[k]).map _ = _
  rw [this]; rfl
theorem top_all : TopAll sgL where
  da := { a0 := hasT (p := 371) (l := L_da_0) rfl (by kernel_rfl) (by decide +kernel), a1 := hasT (p := 384) (l := L_da_1) rfl (by kernel_rfl) (by decide +kernel), a2 := hasT (p := 400) (l := L_da_2) rfl (by kernel_rfl) (by decide +kernel), v := hasS (p := 231) rfl (by kernel_rfl), s := hasS (p := 232) rfl (by kernel_rfl), u := hasS (p := 230) rfl (by kernel_rfl) }
  no := { a1 := hasT (p := 622) (l := L_no_1) rfl (by kernel_rfl) (by decide +kernel), a2 := hasT (p := 629) (l := L_no_2) rfl (by kernel_rfl) (by decide +kernel), a3 := hasT (p := 663) (l := L_no_3) rfl (by kernel_rfl) (by decide +kernel), v := hasS (p := 452) rfl (by kernel_rfl), s := hasS (p := 453) rfl (by kernel_rfl) }
  sv := { a0 := hasT (p := 823) (l := L_sv_0) rfl (by kernel_rfl) (by decide +kernel), a1 := hasT (p := 938) (l := L_sv_1) rfl (by kernel_rfl) (by decide +kernel), a2 := hasT (p := 960) (l := L_sv_2) rfl (by kernel_rfl) (by decide +kernel), a3 := hasT (p := 976) (l := L_sv_3) rfl (by kernel_rfl) (by decide +kernel), v := hasS (p := 715) rfl (by kernel_rfl), s := hasS (p := 716) rfl (by kernel_rfl) }
end Sb
end

section
open PySem PySem.W PyProof.Rows PySem.Calls PySem.Spec
set_option Elab.async false
set_option maxRecDepth 100000
set_option linter.unusedVariables false
namespace Sb
/-- the small part of the top that law's own walk reads -/
def KL (P : Params) : Frag := [(nat_lit 3, o3_4 P), (nat_lit 0, o0 P), (nat_lit 2, o2_3 P), (nat_lit 197, o197_2 P), (nat_lit 403, o403 P), (nat_lit 666, o666 P), (nat_lit 979, o979 P), (nat_lit 196, o196 P), (nat_lit 402, o402 P), (nat_lit 665, o665 P), (nat_lit 978, o978 P), (nat_lit 35, o35 P), (nat_lit 42, o42 P), (nat_lit 49, o49 P), (nat_lit 189, o189 P), (nat_lit 194, o194 P), (nat_lit 999, o999 P), (nat_lit 34, o34 P), (nat_lit 41, o41 P), (nat_lit 48, o48 P), (nat_lit 188, o188 P), (nat_lit 193, o193 P), (nat_lit 998, o998 P), (nat_lit 1, o1 P), (nat_lit 4, o4 P), (nat_lit 5, o5 P)]
abbrev lawBody : List Stmt := (defTop 27).2.1
abbrev lawSc : Scope := (defTop 27).2.2
abbrev lawEnv (L : Addr) : Env := envOfC (q "law") lawSc L 999 (.ref 998)
theorem kl_ks (P : Params) (d0 d1 d2 d3 d4 d5 d6 d7 : SD) : (KL P).map (fun p => (KS P d0 d1 d2 d3 d4 d5 d6 d7).lookup p.1) = (KL P).map (fun p => some p.2) := by kernel_rfl
theorem kl_in {P : Params} {d0 d1 d2 d3 d4 d5 d6 d7 : SD} {h : Heap} (X : (KS P d0 d1 d2 d3 d4 d5 d6 d7).In h) : (KL P).In h := fun a o ho =>
  X a o (List.map_inj_left.mp (kl_ks P d0 d1 d2 d3 d4 d5 d6 d7) _ (lookup_mem ho))
def forBody : Stmt → List Stmt
  | .For _ _ b _ _ => b
  | _ => []
def nthS (k : Nat) (l : List Stmt) : Stmt := (l.drop k).headD (.Pass default)
abbrev turnBody : List Stmt := forBody (nthS 6 lawBody)
end Sb
end

section
open PySem PySem.W PyProof.Rows PySem.Calls PySem.Spec
set_option Elab.async false
set_option maxRecDepth 100000
set_option linter.unusedVariables false
namespace Sb
section
variable {prog : Program} {w : World} {A : Around} {E : Value → Shared → Prop} {s : Shared} {h₀ : Heap} {L : Addr} {m : Str → Option Value} {news news' : List (Addr × Obj)}
theorem iadd_lists {a b : Value} {Q : Value → Shared → Prop} (ha : s.TypeIs a "list") (hb : s.TypeIs b "list")
    (hc : wpAny (model prog w) A (call (.builtin "list.__iadd__") [a, b]) Q E s) : wpAny (model prog w) A (inplaceOp .Add a b) Q E s := by
  unfold inplaceOp
  refine wpAny_holding ?_
  have hl : typeLookup (.type "list") (dunderI "add") = pure (some (.builtin "list.__iadd__")) := PySem.F.slot_list_iadd.lookup
  have hs : isSeqSlot (some (.builtin "list.__iadd__")) = true := by decide +kernel
  have hfi : fillsInplaceSlot (.type "list") "add" (Operator.Add == .Add) = pure false := by
    unfold fillsInplaceSlot
    show (typeLookup (.type "list") (dunderI "add") >>= fun fi => pure (fi.isSome && !isSeqSlot fi)) = pure false
    rw [hl, pure_bind, hs]; rfl
  have hsi : seqSlot? (.type "list") (dunderI "add") = pure (some (.builtin "list.__iadd__")) := PySem.seqSlot_of hl hs
  refine wpAny_bind (wpAny_typeOf ha (wpAny_bind (wpAny_of_eq hfi ?_)))
  show wpAny _ A (if false = true then _ else _) Q E s
  rw [if_neg Bool.false_ne_true]
  refine wpAny_bind (wpAny_binaryOp1_none (nm := "add") ha hb noFill_list_add ?_)
  refine wpAny_bind (wpAny_of_eq hsi ?_)
  exact wpAny_bind (wpAny_rule hc)
theorem iadd_L {D b : Addr} {its its2 : Array Value} {n n2 : Nat} {l : List Value} {Q : Value → Shared → Prop} (F : Fr h₀ L s.heap m) (N : News h₀ L s.heap news) (hb : (b, W.listOf its2 n2) ∈ news) (e : its.toList ++ its2.toList = l) (hne : its2.toList.length ≠ 0)
    (U : Upd D (W.listOf its n) (W.listOf l.toArray (n + 1)) news news') (hsz : its.size + its2.size ≤ 4096)
    (h : ∀ h', Fr h₀ L h' m → News h₀ L h' news' → Q (.ref D) { s with heap := h' }) : wpAny (model prog w) A (inplaceOp .Add (.ref D) (.ref b)) Q E s := by
  obtain ⟨pre, post, rfl, rfl, a, c⟩ := U.split
  have hS := sizeLine_eq
  have hd : ¬(!its.isEmpty && Builtin.List.listTooLong (its.size + its2.size)) = true := by
    intro q
    have := (Bool.and_eq_true_iff.mp q).2
    unfold Builtin.List.listTooLong at this
    have := of_decide_eq_true this
    omega
  have hz2 : its.size + its2.size ≤ sizeLine + 1 := by omega
  have hz : its.toList.length ≤ sizeLine := by rw [Array.length_toList]; omega
  have z := N (D, W.listOf its n) (List.mem_append.mpr (.inr (.head _)))
  refine iadd_lists ⟨_, z.1, rfl⟩ ⟨_, (N _ hb).1, rfl⟩ ?_
  refine call_meets PySem.F.slot_list_iadd ⟨_, z.1, rfl⟩ PySem.F.entry_list_iadd (PySem.F.args_list_iadd_2 _ _) (PySem.AutoSeq1.list___iadd___list_list_0 D its n b its2 n2 hd (by simpa using hz) hz2) ⟨z.1, (N _ hb).1, h _ (F.change (Heap.SameBut.update ..) z.2.1 z.2.2) (kl_turn _ N a c ?_ ?_)⟩
  · subst e
    apply Array.toList_inj.mp
    simp
  · subst e
    simp at hne ⊢
    exact hne
end
theorem news2 {h h' : Heap} {L : Addr} {p q : Addr × Obj} {rest : List (Addr × Obj)} (N : News h L h' (p :: rest)) (hq : q ∈ rest) : News h L h' [p, q] := fun x hx => by
  rcases List.mem_cons.mp hx with rfl | hx
  · exact N _ (.head _)
  · rcases List.mem_cons.mp hx with rfl | hx
    · exact N _ (.tail _ hq)
    · cases hx
theorem news_tail {h h' : Heap} {L : Addr} {p : Addr × Obj} {rest : List (Addr × Obj)} (N : News h L h' (p :: rest)) : News h L h' rest := fun x hx => N x (.tail _ hx)
theorem news_c5 {h h' : Heap} {L : Addr} {a b c d e f : Addr × Obj} (N : News h L h' [a, b, c, d, e, f]) : News h L h' [b, d, e, f] := fun p hp => N p (by
  simp only [List.mem_cons, List.not_mem_nil, or_false] at hp ⊢
  rcases hp with rfl | rfl | rfl | rfl <;> simp)
/-- wpAny, sealed: an elaborator does not run the tree in it -/
structure Goes {α : Type} (M : Model) (A : Around) (c : Sem α) (Q : α → Shared → Prop) (E : Value → Shared → Prop) (s : Shared) : Prop where
  wp : wpAny M A c Q E s
theorem execs_append {env : Env} : ∀ (a b : List Stmt), execs (a ++ b) env = (execs a env >>= fun f => match f with | .next => execs b env | f => pure f)
  | [], b => by rw [List.nil_append, execs_nil, pure_bind]
  | x :: a, b => by
    rw [List.cons_append, execs_cons, execs_cons, bind_assoc]
    congr 1
    funext f
    cases f
    · exact execs_append a b
    · rw [pure_bind]
    · rw [pure_bind]
    · rw [pure_bind]
theorem seq2 {M : Model} {A : Around} {E : Value → Shared → Prop} {s : Shared} {env : Env} {a b : List Stmt} {Q : Flow → Shared → Prop}
    (h : wpAny M A (execs a env) (fun f s' => match f with | .next => wpAny M A (execs b env) Q E s' | f => Q f s') E s) : wpAny M A (execs (a ++ b) env) Q E s := by
  rw [execs_append]
  refine wpAny_bind (wpAny_mono h (fun f s' x => ?_) fun _ _ e => e)
  cases f
  · exact x
  · exact wpAny_pure x
  · exact wpAny_pure x
  · exact wpAny_pure x
theorem execs_of {M : Model} {A : Around} {E : Value → Shared → Prop} {s : Shared} {env : Env} {a b : List Stmt} {Q : Flow → Shared → Prop} (e : a = b) (h : wpAny M A (execs b env) Q E s) : wpAny M A (execs a env) Q E s := e ▸ h
theorem cut3 {α : Type} (l : List α) : l = l.take 1 ++ ((l.drop 1).take 2 ++ l.drop 3) := by
  match l with
  | [] => rfl
  | [a] => rfl
  | [a, b] => rfl
  | a :: b :: c :: r => rfl
theorem gseq {M : Model} {A : Around} {E : Value → Shared → Prop} {s : Shared} {env : Env} {a b : List Stmt} {Q : Flow → Shared → Prop}
    (h : Goes M A (execs a env) (fun f s' => match f with | .next => Goes M A (execs b env) Q E s' | f => Q f s') E s) : Goes M A (execs (a ++ b) env) Q E s := ⟨seq2 (wpAny_mono h.wp (fun f s' x => by cases f <;> first | exact Goes.wp x | exact x) fun _ _ e => e)⟩
theorem gof {M : Model} {A : Around} {E : Value → Shared → Prop} {s : Shared} {env : Env} {a b : List Stmt} {Q : Flow → Shared → Prop} (e : a = b) (h : Goes M A (execs b env) Q E s) : Goes M A (execs a env) Q E s := e ▸ h
theorem gone1 {M : Model} {A : Around} {E : Value → Shared → Prop} {s : Shared} {env : Env} {a : Stmt} {Q : Flow → Shared → Prop} (h : Goes M A (exec a env) Q E s) : Goes M A (execs [a] env) Q E s := ⟨wpAny_execs_cons (wpAny_mono h.wp (fun f s' x => by
  cases f
  · exact wpAny_execs_nil x
  · exact x
  · exact x
  · exact x) fun _ _ e => e)⟩
theorem fr_set {f : Str → Option Value} {a : Str} {v : Value} (e : f a = some v) : f = fun y => if y = a then some v else f y := funext fun y => by
  by_cases q : y = a
  · subst q; simp [e]
  · simp [q]
theorem fr_4 {h h' : Heap} {L : Addr} {f : Str → Option Value} {a b c d : Str} {va vb vc vd : Value} (F : Fr h L h' f) (ea : f a = some va) (eb : f b = some vb) (ec : f c = some vc) (ed : f d = some vd) :
    Fr h L h' (fun y => if y = a then some va else if y = b then some vb else if y = c then some vc else if y = d then some vd else f y) := by
  have e : f = fun y => if y = a then some va else if y = b then some vb else if y = c then some vc else if y = d then some vd else f y := by
    funext y
    by_cases qa : y = a
    · simp [qa, ea]
    by_cases qb : y = b
    · subst qb; simp [eb, qa]
    by_cases qc : y = c
    · subst qc; simp [ec, qa, qb]
    by_cases qd : y = d
    · subst qd; simp [ed, qa, qb, qc]
    simp [qa, qb, qc, qd]
  exact e ▸ F
theorem fr_3 {h h' : Heap} {L : Addr} {f : Str → Option Value} {a b c : Str} {va vb vc : Value} (F : Fr h L h' f) (ea : f a = some va) (eb : f b = some vb) (ec : f c = some vc) :
    Fr h L h' (fun y => if y = a then some va else if y = b then some vb else if y = c then some vc else f y) := by
  have e : f = fun y => if y = a then some va else if y = b then some vb else if y = c then some vc else f y := by
    funext y
    by_cases qa : y = a
    · simp [qa, ea]
    by_cases qb : y = b
    · subst qb; simp [eb, qa]
    by_cases qc : y = c
    · subst qc; simp [ec, qa, qb]
    simp [qa, qb, qc]
  exact e ▸ F
end Sb
end

section
open PySem PySem.W PyProof.Rows PySem.Calls PySem.Spec
set_option Elab.async false
set_option maxRecDepth 100000
set_option linter.constructorNameAsVariable false
set_option linter.unusedVariables false
namespace Sb

/-! a heap with some places hidden -/
def voidO : Obj := { cls := .none, data := .freed }
def hide1 (h : Heap) (a : Addr) : Heap := h.update a fun _ => voidO
theorem hide1_get (h : Heap) (a b : Addr) : (hide1 h a).get? b = if b = a then none else h.get? b := by
  obtain ⟨objs, life⟩ := h
  unfold hide1 Heap.update Heap.get?
  dsimp only
  rw [Array.getElem?_modify]
  by_cases e : b = a
  · subst e
    rw [if_pos rfl, if_pos rfl]
    cases objs[b]? <;> rfl
  · rw [if_neg (Ne.symm e), if_neg e]
theorem hide1_size (h : Heap) (a : Addr) : (hide1 h a).objs.size = h.objs.size := by
  obtain ⟨objs, life⟩ := h
  show (objs.modify a _).size = objs.size
  rw [Array.size_modify]
def hide (h : Heap) : List Addr → Heap
  | [] => h
  | a :: l => hide (hide1 h a) l
theorem hide_get : ∀ (l : List Addr) (h : Heap) (b : Addr), (hide h l).get? b = if b ∈ l then none else h.get? b
  | [], h, b => by simp [hide]
  | a :: l, h, b => by
    rw [hide, hide_get l, hide1_get]
    by_cases e : b = a
    · subst e; simp
    · simp [e]
theorem hide_size : ∀ (l : List Addr) (h : Heap), (hide h l).objs.size = h.objs.size
  | [], h => rfl
  | a :: l, h => by rw [hide, hide_size l, hide1_size]
theorem hide_some {l : List Addr} {h : Heap} {b : Addr} {o : Obj} : (hide h l).get? b = some o ↔ b ∉ l ∧ h.get? b = some o := by
  rw [hide_get]
  by_cases e : b ∈ l
  · simp [e]
  · simp [e]

/-- what a method's call leaves -/
structure Ret0 (P : Params) (s s' : Shared) (d : Addr) (frs : List (Addr × Obj)) (f' : List (Fld × MV)) : Prop where
  gens : s'.gens = s.gens
  drawn : s'.drawn = s.drawn
  os : s'.os = s.os
  keep : ∀ b o, b ≠ d → b ∉ frs.map (·.1) → s.heap.get? b = some o → s'.heap.get? b = some o
  frs : ∀ p ∈ frs, ∃ sl, s'.heap.get? p.1 = some { p.2 with slots := sl }
  dict : ∃ es n, s'.heap.get? d = some (dictOf es n) ∧ DR P es f' ∧ (f'.map (·.1)).Nodup

theorem UpS.there : ∀ {a b : List (Addr × Obj)}, UpS a b → ∀ p ∈ a, ∃ q ∈ b, p.1 = q.1 ∧ ∃ sl, q.2 = { p.2 with slots := sl }
  | [], [], _, _, h => nomatch h
  | p :: a, q :: b, ⟨e, sl, r⟩, x, h => by
    rcases List.mem_cons.mp h with rfl | h
    · exact ⟨q, .head _, e, sl⟩
    · obtain ⟨y, hy, z⟩ := UpS.there r x h
      exact ⟨y, .tail _ hy, z⟩
  | [], _ :: _, h, _, _ => h.elim
  | _ :: _, [], h, _, _ => h.elim

theorem call0 {w : World} {A : Around} {s : Shared} {K : Frag} {h : Heap} {sg : Sg} {M : Meths} {n : Nat} {m : Mth} {vs : List MV} {f f' : List (Fld × MV)} {v : MV} {mg mb : Str → Option Value} {loose : List Str} {x d C : Addr} {es : List DictEntry} {n0 : Nat}
    (hx : Ex sg M n (.mth m vs f v f'))
    (hh : A.handled = none) (outer : List Env) (hfr : A.frames = some outer) (frs : List (Addr × Obj))
    (hout : ∀ e ∈ outer, e.scope.kind ≠ .module ∧ ∃ b, e.frame = some b ∧ b ∈ frs.map (·.1))
    (hfs : ∀ p ∈ frs, s.heap.get? p.1 = some p.2 ∧ h.get? p.1 = none) (hisd : ∀ p ∈ frs, ∀ vs, p.2.data ≠ .fields vs)
    (hap : (d :: frs.map (·.1)).Nodup)
    (keep : ∀ b o, h.get? b = some o → s.heap.get? b = some o) (X : K.In h) (T : TopRead prog loose mg mb h)
    (sgok : ∀ g, K.In g → SgOk w K g sg) (cls : ClsOk K C M)
    (hxo : s.heap.get? x = some (instObj C d)) (hxn : x ∉ d :: frs.map (·.1))
    (hd : s.heap.get? d = some (dictOf es n0)) (hdn : h.get? d = none) (D : DR w.params es f) (nd : (f.map (·.1)).Nodup)
    (hdep : A.depth + n ≤ recursionLimit)
    {fn : Addr} {us : List Value} (hf : findIn K (.ref C) m.name = some (some (.ref fn))) (hu : OfAll us vs)
    {R : Result → Shared → Prop}
    (fin : ∀ u s', MV.of u = some v → Ret0 w.params s s' d frs f' → R (.ok (.ret u)) s') :
    codeAny (model prog w) A (.call (.ref fn) ⟨.ref x :: us, []⟩) R s := by
  let gone' := d :: frs.map (·.1)
  let g := hide s.heap gone'
  have hkg : ∀ b o, h.get? b = some o → g.get? b = some o := fun b o e => hide_some.mpr ⟨fun hm => (by
    rcases List.mem_cons.mp hm with q | q
    · rw [q, hdn] at e; cases e
    · obtain ⟨p, hp, q⟩ := List.mem_map.mp q
      rw [← q, (hfs p hp).2] at e; cases e), keep b o e⟩
  have hgs : ∀ b o, g.get? b = some o → s.heap.get? b = some o := fun b o e => (hide_some.mp e).2
  have Xg : K.In g := X.keeps hkg
  have Tg := T.keeps hkg
  have Xs : K.In s.heap := X.keeps keep
  have hs0 : s.heap.objs.size ≤ s.heap.objs.size := Nat.le_refl _
  obtain ⟨n, rfl⟩ : ∃ k, n = k + 1 := by cases hx <;> exact ⟨_, rfl⟩
  have hlim : A.depth < recursionLimit := by omega
  have hmm : ∃ ps b, M m = some (ps, b) ∧ ps.length = vs.length := by
    cases hx with
    | mthR hz hl _ => exact ⟨_, _, hz, hl⟩
    | mthN hz hl _ => exact ⟨_, _, hz, hl⟩
  obtain ⟨ps, b, hm, hl⟩ := hmm
  obtain ⟨fa, qual, params, body, scope, kV, doc, pm, cdv, ct, oc, an, od, osl, nm, k1, k2, k3, k4, k5, k6⟩ := cls.mth m ps b hm
  obtain rfl : fa = fn := by rw [hf] at k1; cases k1; rfl
  obtain ⟨j1, ⟨as, j2, j3⟩, ⟨j4, j4'⟩, j5, j6, j7, j8, j9⟩ := ckM_of k6
  have hlen : as.length = ps.length + 1 := by have := congrArg List.length j3; simpa using this
  have hbind : bindArgs (fnOf nm qual params body scope .none kV doc pm an cdv ct) ⟨.ref x :: us, []⟩ = pure ((("self" : Str) :: ps.map Loc.name).zip (.ref x :: us)) := by
    rw [← j3]
    exact bind_pos j2 rfl (by rw [hlen, List.length_cons, hu.length, hl]) (by rw [j3]; exact j5)
  refine codeAny_call_def (fd := fnOf nm qual params body scope .none kV doc pm an cdv ct) (body := body) (binds := (("self" : Str) :: ps.map Loc.name).zip (.ref x :: us)) hlim (Xs _ _ k4) rfl (T.nolimit.keeps keep) (codeRec_of Xs k5) rfl (.of_eq hbind) j9 ?_ (fun h₁ hns hk₁ => ?_) j7 j8 j6
  · intro y hy
    have : y.1 ∈ (("self" : Str) :: ps.map Loc.name) := (List.of_mem_zip (a := y.1) (b := y.2) hy).1
    rcases List.mem_cons.mp this with e | e
    · rw [e]; have := j4; simpa [isLoc] using this
    · obtain ⟨p, hp, e⟩ := List.mem_map.mp e
      rw [← e]; have := j4' p hp; simpa [isLoc] using this
  · let c : Cx := { w := w, A := A.deeper (envOf qual scope s.heap.objs.size fa cdv), K := K, g := g, L := s.heap.objs.size, x := x, d := d, C := C, qual := qual, scope := scope, fa := fa, cd := cdv, outer := outer, its := [], frs := frs, gens := s.gens, drawn := s.drawn, os := s.os, sg := sg, M := M, mg := mg, mb := mb, q := prog, loose := loose }
    have O : Okx c := by
      refine ⟨Xg, Tg, hide_some.mpr ⟨hxn, hxo⟩, cls, sgok g Xg, j6, hh, Around.frames_deeper hfr, hout, hisd, hap⟩
    have R0 : Rp c ⟨f, ps.zip vs⟩ { s with heap := h₁, toks := s.toks + ((("self" : Str) :: ps.map Loc.name).zip (.ref x :: us)).length } := by
      refine ⟨⟨_, es, n0, frs, ⟨hns, fun b o q => hk₁ b o (hgs b o q), by show g.objs.size ≤ _; rw [hide_size]; exact Nat.le_refl _⟩, ?_, UpS.refl frs, ?_, ?_, D, nd⟩, rfl, rfl, rfl⟩
      · intro p hp
        have q : s.heap.get? p.1 = some p.2 ∧ p.1 ∈ gone' := by
          rcases List.mem_cons.mp hp with rfl | hp
          · exact ⟨hd, .head _⟩
          · exact ⟨(hfs p hp).1, .tail _ (List.mem_map_of_mem hp)⟩
        refine ⟨hk₁ _ _ q.1, Nat.ne_of_lt (Heap.lt_size q.1), ?_⟩
        show (hide s.heap gone').get? p.1 = none
        rw [hide_get, if_pos q.2]
      · show List.lookup _ (List.reverse _) = _
        rw [rev_look _ _ (by rw [List.map_fst_zip (by rw [List.length_cons, List.length_cons, List.length_map, hu.length, hl]; exact Nat.le_refl _)]; exact j5)]
        rw [List.zip_cons_cons, List.lookup_cons]
        simp only [beq_self_eq_true]
        rfl
      · intro y v hy
        obtain ⟨u, q1, q2⟩ := LR_zip hu hl y v hy
        refine ⟨u, ?_, q2⟩
        show List.lookup _ (List.reverse _) = _
        rw [rev_look _ _ (by rw [List.map_fst_zip (by rw [List.length_cons, List.length_cons, List.length_map, hu.length, hl]; exact Nat.le_refl _)]; exact j5)]
        rw [List.zip_cons_cons, List.lookup_cons]
        have : (y.name == ("self" : Str)) = false := beq_eq_false_iff_ne.mpr y.name_self
        rw [this]
        exact q1
    have back : ∀ σ' s'', Rp c σ' s'' → Ret0 w.params s s'' d frs σ'.fld := fun σ' s'' R'' => by
      obtain ⟨m₂, es₂, n₂, fr₂, F₂, N₂, U₂, _, _, hD₂, hn₂⟩ := R''.ex
      have N₂ : News g s.heap.objs.size s''.heap ((d, dictOf es₂ n₂) :: ([] ++ fr₂)) := N₂
      refine ⟨R''.gens, R''.drawn, R''.os, fun b o h1 h2 e => F₂.keep b o (hide_some.mpr ⟨fun hm => ?_, e⟩), fun p hp => ?_, es₂, n₂, (N₂ _ (.head _)).1, hD₂, hn₂⟩
      · rcases List.mem_cons.mp hm with q | q
        · exact h1 q
        · exact h2 q
      · obtain ⟨q, hq, e1, sl, e2⟩ := U₂.there p hp
        refine ⟨sl, ?_⟩
        rw [e1, ← e2]
        exact (N₂ q (.tail _ hq)).1
    have hdc : c.A.depth + n ≤ recursionLimit := by show A.depth + 1 + n ≤ _; omega
    cases hx with
    | mthR hz _ h1 =>
      have e := hm.symm.trans hz
      cases e
      exact sound h1 c O rfl rfl hdc body j1 _ _ _ R0 fun u s'' hu' R'' => fin u s'' hu' (back _ _ R'')
    | mthN hz _ h1 =>
      have e := hm.symm.trans hz
      cases e
      exact sound h1 c O rfl rfl hdc body j1 _ _ _ R0 fun s'' R'' => fin .none s'' rfl (back _ _ R'')
end Sb
end

section
open PySem PySem.W PyProof.Rows PySem.Calls PySem.Spec
set_option Elab.async false
set_option maxRecDepth 100000
set_option linter.constructorNameAsVariable false
set_option linter.unusedVariables false
set_option linter.unusedSimpArgs false
namespace Sb
local macro_rules | `(tactic| walk_at "CompSrc") => `(tactic| (k_here; k_dflt (refine LCg.CompSrc.range (by rfl) (by k_asm) (by k_asm) (by assumption) (by first | decide | rfl) (by first | rfl | decide) (by first | size_fits | exact Nat.le_of_ble_eq_true rfl) ?_; intro g'; lcg_lit)))

set_option maxHeartbeats 0 in
theorem c1_0 : ∀ (w : World) (s : Shared) (h : Heap) (L : Addr) (X : (KL w.params).In h) (T : TopRead prg (looseOf w.params) (mgOf w.params) (mbOf w.params) h) (m : Str → Option Value)
   (a0 : Addr) (hl : h.IsList a0 ([] : List Value).toArray) (hi : IntsAre [] []) (o : Obj) (hd : o.data = .cell none)
   (F : Fr h L s.heap (fun y => if y = "script" then some (.ref a0) else m y)) (N0 : News h L s.heap [(L + 1, o)]) (K0 : Below callerA h [] h)
   (Q : Flow → Shared → Prop) (row : PySem.Challenge.rw_bi0025_01 = PySem.Challenge.rw_bi0025_01)
   (hQ : ∀ (D : Addr) (o : Obj) (n0 n1 n2 n3 n4 : Int) (t0 t1 t2 t3 t4 : Tok) (h' : Heap) (tk : Nat) (m' : Str → Option Value), Fr h L h' m' → News h L h' [(D, W.listOf [.int n0 t0, .int n1 t1, .int n2 t2, .int n3 t3, .int n4 t4].toArray 0), (L + 1, o)] → o.data = .cell (some (.ref D)) → @LT.lt Nat _ (L + 1) D → Q .next { s with heap := h', toks := tk }),
   Goes (model prg w) (callerA.deeper (lawEnv L)) (execs (lawBody.take 2) (lawEnv L)) Q (fun _ _ => False) s := by
  k_fill
  intro w s h L X T m a0   hl hi o hd F N0 K0 Q row
  clear row
  have e27 : (lawBody.take 2) = [_, _] := rfl
  have e28 : lawSc = ⟨_, _, _, _, _⟩ := rfl
  unfold lawEnv
  rw [e27, e28]
  clear e27 e28
  intro hQ
  refine Goes.mk ?_
  k_steps
  rename Fr _ _ _ _ => F'
  rename News _ _ _ _ => N'
  rename Obj.data _ = Data.cell _ => d'
  exact hQ _ _ _ _ _ _ _ _ _ _ _ _ _ _ _ F' (news2 N' (by k_mem)) d' (by omega)

set_option maxHeartbeats 0 in
theorem c1_1 : ∀ (w : World) (s : Shared) (h : Heap) (L : Addr) (X : (KL w.params).In h) (T : TopRead prg (looseOf w.params) (mgOf w.params) (mbOf w.params) h) (m : Str → Option Value)
   (a0 : Addr) (v0 : Int) (u0 : Tok) (hl : h.IsList a0 ([Value.int v0 u0] : List Value).toArray) (hi : IntsAre [Value.int v0 u0] [v0]) (o : Obj) (hd : o.data = .cell none)
   (F : Fr h L s.heap (fun y => if y = "script" then some (.ref a0) else m y)) (N0 : News h L s.heap [(L + 1, o)]) (K0 : Below callerA h [] h)
   (Q : Flow → Shared → Prop) (row : PySem.Challenge.rw_bi0025_01 = PySem.Challenge.rw_bi0025_01)
   (hQ : ∀ (D : Addr) (o : Obj) (n0 n1 n2 n3 n4 : Int) (t0 t1 t2 t3 t4 : Tok) (h' : Heap) (tk : Nat) (m' : Str → Option Value), Fr h L h' m' → News h L h' [(D, W.listOf [.int n0 t0, .int n1 t1, .int n2 t2, .int n3 t3, .int n4 t4].toArray 0), (L + 1, o)] → o.data = .cell (some (.ref D)) → @LT.lt Nat _ (L + 1) D → Q .next { s with heap := h', toks := tk }),
   Goes (model prg w) (callerA.deeper (lawEnv L)) (execs (lawBody.take 2) (lawEnv L)) Q (fun _ _ => False) s := by
  k_fill
  intro w s h L X T m a0 v0 u0 hl hi o hd F N0 K0 Q row
  clear row
  have e27 : (lawBody.take 2) = [_, _] := rfl
  have e28 : lawSc = ⟨_, _, _, _, _⟩ := rfl
  unfold lawEnv
  rw [e27, e28]
  clear e27 e28
  intro hQ
  refine Goes.mk ?_
  k_steps
  rename Fr _ _ _ _ => F'
  rename News _ _ _ _ => N'
  rename Obj.data _ = Data.cell _ => d'
  exact hQ _ _ _ _ _ _ _ _ _ _ _ _ _ _ _ F' (news2 N' (by k_mem)) d' (by omega)

set_option maxHeartbeats 0 in
theorem c1_2 : ∀ (w : World) (s : Shared) (h : Heap) (L : Addr) (X : (KL w.params).In h) (T : TopRead prg (looseOf w.params) (mgOf w.params) (mbOf w.params) h) (m : Str → Option Value)
   (a0 : Addr) (v0 v1 : Int) (u0 u1 : Tok) (hl : h.IsList a0 ([Value.int v0 u0, Value.int v1 u1] : List Value).toArray) (hi : IntsAre [Value.int v0 u0, Value.int v1 u1] [v0, v1]) (o : Obj) (hd : o.data = .cell none)
   (F : Fr h L s.heap (fun y => if y = "script" then some (.ref a0) else m y)) (N0 : News h L s.heap [(L + 1, o)]) (K0 : Below callerA h [] h)
   (Q : Flow → Shared → Prop) (row : PySem.Challenge.rw_bi0025_01 = PySem.Challenge.rw_bi0025_01)
   (hQ : ∀ (D : Addr) (o : Obj) (n0 n1 n2 n3 n4 : Int) (t0 t1 t2 t3 t4 : Tok) (h' : Heap) (tk : Nat) (m' : Str → Option Value), Fr h L h' m' → News h L h' [(D, W.listOf [.int n0 t0, .int n1 t1, .int n2 t2, .int n3 t3, .int n4 t4].toArray 0), (L + 1, o)] → o.data = .cell (some (.ref D)) → @LT.lt Nat _ (L + 1) D → Q .next { s with heap := h', toks := tk }),
   Goes (model prg w) (callerA.deeper (lawEnv L)) (execs (lawBody.take 2) (lawEnv L)) Q (fun _ _ => False) s := by
  k_fill
  intro w s h L X T m a0 v0 v1 u0 u1 hl hi o hd F N0 K0 Q row
  clear row
  have e27 : (lawBody.take 2) = [_, _] := rfl
  have e28 : lawSc = ⟨_, _, _, _, _⟩ := rfl
  unfold lawEnv
  rw [e27, e28]
  clear e27 e28
  intro hQ
  refine Goes.mk ?_
  k_steps
  rename Fr _ _ _ _ => F'
  rename News _ _ _ _ => N'
  rename Obj.data _ = Data.cell _ => d'
  exact hQ _ _ _ _ _ _ _ _ _ _ _ _ _ _ _ F' (news2 N' (by k_mem)) d' (by omega)

set_option maxHeartbeats 0 in
theorem c1_3 : ∀ (w : World) (s : Shared) (h : Heap) (L : Addr) (X : (KL w.params).In h) (T : TopRead prg (looseOf w.params) (mgOf w.params) (mbOf w.params) h) (m : Str → Option Value)
   (a0 : Addr) (v0 v1 v2 : Int) (u0 u1 u2 : Tok) (hl : h.IsList a0 ([Value.int v0 u0, Value.int v1 u1, Value.int v2 u2] : List Value).toArray) (hi : IntsAre [Value.int v0 u0, Value.int v1 u1, Value.int v2 u2] [v0, v1, v2]) (o : Obj) (hd : o.data = .cell none)
   (F : Fr h L s.heap (fun y => if y = "script" then some (.ref a0) else m y)) (N0 : News h L s.heap [(L + 1, o)]) (K0 : Below callerA h [] h)
   (Q : Flow → Shared → Prop) (row : PySem.Challenge.rw_bi0025_01 = PySem.Challenge.rw_bi0025_01)
   (hQ : ∀ (D : Addr) (o : Obj) (n0 n1 n2 n3 n4 : Int) (t0 t1 t2 t3 t4 : Tok) (h' : Heap) (tk : Nat) (m' : Str → Option Value), Fr h L h' m' → News h L h' [(D, W.listOf [.int n0 t0, .int n1 t1, .int n2 t2, .int n3 t3, .int n4 t4].toArray 0), (L + 1, o)] → o.data = .cell (some (.ref D)) → @LT.lt Nat _ (L + 1) D → Q .next { s with heap := h', toks := tk }),
   Goes (model prg w) (callerA.deeper (lawEnv L)) (execs (lawBody.take 2) (lawEnv L)) Q (fun _ _ => False) s := by
  k_fill
  intro w s h L X T m a0 v0 v1 v2 u0 u1 u2 hl hi o hd F N0 K0 Q row
  clear row
  have e27 : (lawBody.take 2) = [_, _] := rfl
  have e28 : lawSc = ⟨_, _, _, _, _⟩ := rfl
  unfold lawEnv
  rw [e27, e28]
  clear e27 e28
  intro hQ
  refine Goes.mk ?_
  k_steps
  rename Fr _ _ _ _ => F'
  rename News _ _ _ _ => N'
  rename Obj.data _ = Data.cell _ => d'
  exact hQ _ _ _ _ _ _ _ _ _ _ _ _ _ _ _ F' (news2 N' (by k_mem)) d' (by omega)

set_option maxHeartbeats 0 in
theorem c1_4 : ∀ (w : World) (s : Shared) (h : Heap) (L : Addr) (X : (KL w.params).In h) (T : TopRead prg (looseOf w.params) (mgOf w.params) (mbOf w.params) h) (m : Str → Option Value)
   (a0 : Addr) (v0 v1 v2 v3 : Int) (u0 u1 u2 u3 : Tok) (hl : h.IsList a0 ([Value.int v0 u0, Value.int v1 u1, Value.int v2 u2, Value.int v3 u3] : List Value).toArray) (hi : IntsAre [Value.int v0 u0, Value.int v1 u1, Value.int v2 u2, Value.int v3 u3] [v0, v1, v2, v3]) (o : Obj) (hd : o.data = .cell none)
   (F : Fr h L s.heap (fun y => if y = "script" then some (.ref a0) else m y)) (N0 : News h L s.heap [(L + 1, o)]) (K0 : Below callerA h [] h)
   (Q : Flow → Shared → Prop) (row : PySem.Challenge.rw_bi0025_01 = PySem.Challenge.rw_bi0025_01)
   (hQ : ∀ (D : Addr) (o : Obj) (n0 n1 n2 n3 n4 : Int) (t0 t1 t2 t3 t4 : Tok) (h' : Heap) (tk : Nat) (m' : Str → Option Value), Fr h L h' m' → News h L h' [(D, W.listOf [.int n0 t0, .int n1 t1, .int n2 t2, .int n3 t3, .int n4 t4].toArray 0), (L + 1, o)] → o.data = .cell (some (.ref D)) → @LT.lt Nat _ (L + 1) D → Q .next { s with heap := h', toks := tk }),
   Goes (model prg w) (callerA.deeper (lawEnv L)) (execs (lawBody.take 2) (lawEnv L)) Q (fun _ _ => False) s := by
  k_fill
  intro w s h L X T m a0 v0 v1 v2 v3 u0 u1 u2 u3 hl hi o hd F N0 K0 Q row
  clear row
  have e27 : (lawBody.take 2) = [_, _] := rfl
  have e28 : lawSc = ⟨_, _, _, _, _⟩ := rfl
  unfold lawEnv
  rw [e27, e28]
  clear e27 e28
  intro hQ
  refine Goes.mk ?_
  k_steps
  rename Fr _ _ _ _ => F'
  rename News _ _ _ _ => N'
  rename Obj.data _ = Data.cell _ => d'
  exact hQ _ _ _ _ _ _ _ _ _ _ _ _ _ _ _ F' (news2 N' (by k_mem)) d' (by omega)

set_option maxHeartbeats 0 in
theorem c1_5 : ∀ (w : World) (s : Shared) (h : Heap) (L : Addr) (X : (KL w.params).In h) (T : TopRead prg (looseOf w.params) (mgOf w.params) (mbOf w.params) h) (m : Str → Option Value)
   (a0 : Addr) (v0 v1 v2 v3 v4 : Int) (u0 u1 u2 u3 u4 : Tok) (vs : List Value) (ns : List Int) (hv : IntsAre vs ns) (hn : ns.length ≤ 58) (hl : h.IsList a0 (Value.int v0 u0 :: Value.int v1 u1 :: Value.int v2 u2 :: Value.int v3 u3 :: Value.int v4 u4 :: vs).toArray) (hi : IntsAre (Value.int v0 u0 :: Value.int v1 u1 :: Value.int v2 u2 :: Value.int v3 u3 :: Value.int v4 u4 :: vs) (v0 :: v1 :: v2 :: v3 :: v4 :: ns)) (o : Obj) (hd : o.data = .cell none)
   (F : Fr h L s.heap (fun y => if y = "script" then some (.ref a0) else m y)) (N0 : News h L s.heap [(L + 1, o)]) (K0 : Below callerA h [] h)
   (Q : Flow → Shared → Prop) (row : PySem.Challenge.rw_bi0025_01 = PySem.Challenge.rw_bi0025_01)
   (hQ : ∀ (D : Addr) (o : Obj) (n0 n1 n2 n3 n4 : Int) (t0 t1 t2 t3 t4 : Tok) (h' : Heap) (tk : Nat) (m' : Str → Option Value), Fr h L h' m' → News h L h' [(D, W.listOf [.int n0 t0, .int n1 t1, .int n2 t2, .int n3 t3, .int n4 t4].toArray 0), (L + 1, o)] → o.data = .cell (some (.ref D)) → @LT.lt Nat _ (L + 1) D → Q .next { s with heap := h', toks := tk }),
   Goes (model prg w) (callerA.deeper (lawEnv L)) (execs (lawBody.take 2) (lawEnv L)) Q (fun _ _ => False) s := by
  k_fill
  intro w s h L X T m a0 v0 v1 v2 v3 v4 u0 u1 u2 u3 u4 vs ns hv hn hl hi o hd F N0 K0 Q row
  clear row
  have e27 : (lawBody.take 2) = [_, _] := rfl
  have e28 : lawSc = ⟨_, _, _, _, _⟩ := rfl
  unfold lawEnv
  rw [e27, e28]
  clear e27 e28
  intro hQ
  refine Goes.mk ?_
  k_steps
  rename Fr _ _ _ _ => F'
  rename News _ _ _ _ => N'
  rename Obj.data _ = Data.cell _ => d'
  exact hQ _ _ _ _ _ _ _ _ _ _ _ _ _ _ _ F' (news2 N' (by k_mem)) d' (by omega)

end Sb
end

section
open PySem PySem.W PyProof.Rows PySem.Calls PySem.Spec
set_option Elab.async false
set_option maxRecDepth 100000
set_option linter.constructorNameAsVariable false
set_option linter.unusedVariables false
set_option linter.unusedSimpArgs false
namespace Sb
abbrev signs : Str := Str.ofString "aåäæbcdeéêfghijklmnoòóôöøpqrstuvwxyzAÅ-7"
def RootA (r : Str) : Prop := ∃ x0 x1 x2 x3 x4 y : Int, r = Txt.slice (Txt.join (Str.ofString "") [Txt.item signs (x0.fmod 40), Txt.item signs (x1.fmod 40), Txt.item signs (x2.fmod 40), Txt.item signs (x3.fmod 40), Txt.item signs (x4.fmod 40)]) none (some (y.fmod 6))
def RootB (r : Str) : Prop := ∃ a b : Int, r = Txt.item (Str.ofString "eiuy") (a.fmod 4) ++ Txt.item (Str.ofString "bcjm") (b.fmod 4)
local macro_rules | `(tactic| walk_at "CompSrc") => `(tactic| (k_here; k_dflt (refine LCg.CompSrc.range (by rfl) (by k_asm) (by k_asm) (by assumption) (by first | decide | rfl) (by first | rfl | decide) (by first | size_fits | exact Nat.le_of_ble_eq_true rfl) ?_; intro g'; lcg_lit)))
local macro_rules | `(tactic| walk_at "inplaceOp Add ref") => `(tactic| (k_here; (with_reducible show wpAny _ _ (inplaceOp Operator.Add (Value.ref _) (Value.ref _)) _ _ _); k_dflt (refine' iadd_L ?F ?N ?b ?e ?ne ?U ?z ?_; (case F => k_asm); (case N => k_asm); (case b => k_mem); (case e => rfl); (case U => k_upd); (case ne => kl_some); (case z => (simp only [List.size_toArray, List.length_cons, List.length_nil]; omega))); kl_rest))

set_option maxHeartbeats 0 in
theorem c2 : ∀ (w : World) (s : Shared) (h : Heap) (L : Addr) (X : (KL w.params).In h) (T : TopRead prg (looseOf w.params) (mgOf w.params) (mbOf w.params) h) (m : Str → Option Value)
   (D : Addr) (o : Obj) (hd : o.data = .cell (some (.ref D))) (hlt : L + 1 < D) (n0 n1 n2 n3 n4 : Int) (t0 t1 t2 t3 t4 : Tok) 
   (F : Fr h L s.heap (m)) (N0 : News h L s.heap [(D, W.listOf [.int n0 t0, .int n1 t1, .int n2 t2, .int n3 t3, .int n4 t4].toArray 0), (L + 1, o)]) (K0 : Below callerA h [] h)
   (Q : Flow → Shared → Prop) (row : PySem.Challenge.rw_bi0025_01 = PySem.Challenge.rw_bi0025_01)
   (hQ : ∀ (r : Str) (tr : Tok) (h' : Heap) (tk : Nat) (m' : Str → Option Value), RootA r → Fr h L h' (fun y => if y = "root" then some (.str r tr) else m' y) → News h L h' [(D, W.listOf [.int n0 t0, .int n1 t1, .int n2 t2, .int n3 t3, .int n4 t4].toArray 0), (L + 1, o)] → Q .next { s with heap := h', toks := tk }),
   Goes (model prg w) (callerA.deeper (lawEnv L)) (execs (lawBody.drop 2 |>.take 1) (lawEnv L)) Q (fun _ _ => False) s := by
  k_fill
  intro w s h L X T m D o hd hlt n0 n1 n2 n3 n4 t0 t1 t2 t3 t4  F N0 K0 Q row
  clear row
  have e27 : (lawBody.drop 2 |>.take 1) = [_] := rfl
  have e28 : lawSc = ⟨_, _, _, _, _⟩ := rfl
  unfold lawEnv
  rw [e27, e28]
  clear e27 e28
  intro hQ
  refine Goes.mk ?_
  k_steps
  rename Fr _ _ _ _ => F'
  rename News _ _ _ _ => N'
  exact hQ _ _ _ _ _ ⟨_, _, _, _, _, _, rfl⟩ F' (news2 (news_tail N') (by k_mem))

set_option maxHeartbeats 0 in
theorem c3 : ∀ (w : World) (s : Shared) (h : Heap) (L : Addr) (X : (KL w.params).In h) (T : TopRead prg (looseOf w.params) (mgOf w.params) (mbOf w.params) h) (m : Str → Option Value)
   (D : Addr) (o : Obj) (hd : o.data = .cell (some (.ref D))) (hlt : L + 1 < D) (n0 n1 n2 n3 n4 : Int) (t0 t1 t2 t3 t4 : Tok) (r : Str) (tr : Tok) (hr : r.length ≤ 5)
   (F : Fr h L s.heap (fun y => if y = "root" then some (.str r tr) else m y)) (N0 : News h L s.heap [(D, W.listOf [.int n0 t0, .int n1 t1, .int n2 t2, .int n3 t3, .int n4 t4].toArray 0), (L + 1, o)]) (K0 : Below callerA h [] h)
   (Q : Flow → Shared → Prop) (row : PySem.Challenge.rw_bi0025_01 = PySem.Challenge.rw_bi0025_01)
   (hQ : ∀ (r' : Str) (tr : Tok) (h' : Heap) (tk : Nat) (m' : Str → Option Value), RootB r' → Fr h L h' (fun y => if y = "root" then some (.str (r ++ r') tr) else m' y) → News h L h' [(D, W.listOf [.int n0 t0, .int n1 t1, .int n2 t2, .int n3 t3, .int n4 t4].toArray 0), (L + 1, o)] → Q .next { s with heap := h', toks := tk }),
   Goes (model prg w) (callerA.deeper (lawEnv L)) (execs (lawBody.drop 3 |>.take 1) (lawEnv L)) Q (fun _ _ => False) s := by
  k_fill
  intro w s h L X T m D o hd hlt n0 n1 n2 n3 n4 t0 t1 t2 t3 t4 r tr hr F N0 K0 Q row
  clear row
  have e27 : (lawBody.drop 3 |>.take 1) = [_] := rfl
  have e28 : lawSc = ⟨_, _, _, _, _⟩ := rfl
  unfold lawEnv
  rw [e27, e28]
  clear e27 e28
  intro hQ
  refine Goes.mk ?_
  k_steps
  rename Fr _ _ _ _ => F'
  rename News _ _ _ _ => N'
  exact hQ _ _ _ _ _ ⟨_, _, rfl⟩ F' (news2 N' (by k_mem))

set_option maxHeartbeats 0 in
theorem c4 : ∀ (w : World) (s : Shared) (h : Heap) (L : Addr) (X : (KL w.params).In h) (T : TopRead prg (looseOf w.params) (mgOf w.params) (mbOf w.params) h) (m : Str → Option Value)
   (D : Addr) (o : Obj) (hd : o.data = .cell (some (.ref D))) (hlt : L + 1 < D) (n0 n1 n2 n3 n4 : Int) (t0 t1 t2 t3 t4 : Tok) (r : Str) (tr : Tok) (hr : 2 ≤ r.length ∧ r.length ≤ 7)
   (F : Fr h L s.heap (fun y => if y = "root" then some (.str r tr) else m y)) (N0 : News h L s.heap [(D, W.listOf [.int n0 t0, .int n1 t1, .int n2 t2, .int n3 t3, .int n4 t4].toArray 0), (L + 1, o)]) (K0 : Below callerA h [] h)
   (Q : Flow → Shared → Prop) (row : PySem.Challenge.rw_bi0025_01 = PySem.Challenge.rw_bi0025_01)
   (hQ : ∀ (r' : Str) (tr : Tok) (h' : Heap) (tk : Nat) (m' : Str → Option Value), (((r.length : Int) = 2 ∧ ∃ c : Int, r' = Txt.item signs (c.fmod 40) ++ r) ∨ (¬ (r.length : Int) = 2 ∧ r' = r)) → Fr h L h' (fun y => if y = "root" then some (.str r' tr) else m' y) → News h L h' [(D, W.listOf [.int n0 t0, .int n1 t1, .int n2 t2, .int n3 t3, .int n4 t4].toArray 0), (L + 1, o)] → Q .next { s with heap := h', toks := tk }),
   Goes (model prg w) (callerA.deeper (lawEnv L)) (execs (lawBody.drop 4 |>.take 1) (lawEnv L)) Q (fun _ _ => False) s := by
  k_fill
  intro w s h L X T m D o hd hlt n0 n1 n2 n3 n4 t0 t1 t2 t3 t4 r tr hr F N0 K0 Q row
  clear row
  have e27 : (lawBody.drop 4 |>.take 1) = [_] := rfl
  have e28 : lawSc = ⟨_, _, _, _, _⟩ := rfl
  unfold lawEnv
  rw [e27, e28]
  clear e27 e28
  intro hQ
  refine Goes.mk ?_
  k_steps
  · rename Fr _ _ _ _ => F'
    rename News _ _ _ _ => N'
    exact hQ _ _ _ _ _ (.inl ⟨by simp_all, _, rfl⟩) F' (news2 N' (by k_mem))
  · rename Fr _ _ _ _ => F'
    rename News _ _ _ _ => N'
    exact hQ _ _ _ _ _ (.inr ⟨by simp_all, rfl⟩) F' (news2 N' (by k_mem))

set_option maxHeartbeats 0 in
theorem c5 : ∀ (w : World) (s : Shared) (h : Heap) (L : Addr) (X : (KL w.params).In h) (T : TopRead prg (looseOf w.params) (mgOf w.params) (mbOf w.params) h) (m : Str → Option Value)
   (D : Addr) (o : Obj) (hd : o.data = .cell (some (.ref D))) (hlt : L + 1 < D) (n0 n1 n2 n3 n4 : Int) (t0 t1 t2 t3 t4 : Tok) (r : Str) (tr : Tok) (hr : 2 ≤ r.length ∧ r.length ≤ 7)
   (F : Fr h L s.heap (fun y => if y = "root" then some (.str r tr) else m y)) (N0 : News h L s.heap [(D, W.listOf [.int n0 t0, .int n1 t1, .int n2 t2, .int n3 t3, .int n4 t4].toArray 0), (L + 1, o)]) (K0 : Below callerA h [] h)
   (Q : Flow → Shared → Prop) (row : PySem.Challenge.rw_bi0025_01 = PySem.Challenge.rw_bi0025_01)
   (hQ : ∀ (lw lr : Addr) (tq : Tok) (h' : Heap) (tk : Nat) (m' : Str → Option Value), Fr h L h' (fun y => if y = "words" then some (.ref lw) else if y = "roots" then some (.ref lr) else if y = "root" then some (.str r tr) else m' y) → @LT.lt Nat _ lw lr → @LT.lt Nat _ D lw → @LT.lt Nat _ (L + 1) lw → News h L h' [(lr, W.listOf #[Value.str (Str.ofString "k" ++ r) tq, Value.str r tr, Value.str (Str.ofString "k" ++ r) tq, Value.str r tr, Value.str (Str.ofString "k" ++ r) tq, Value.str r tr] 0), (lw, W.listOf #[] 0), (D, W.listOf [.int n0 t0, .int n1 t1, .int n2 t2, .int n3 t3, .int n4 t4].toArray 0), (L + 1, o)] → Q .next { s with heap := h', toks := tk }),
   Goes (model prg w) (callerA.deeper (lawEnv L)) (execs (lawBody.drop 5 |>.take 1) (lawEnv L)) Q (fun _ _ => False) s := by
  k_fill
  intro w s h L X T m D o hd hlt n0 n1 n2 n3 n4 t0 t1 t2 t3 t4 r tr hr F N0 K0 Q row
  clear row
  have e27 : (lawBody.drop 5 |>.take 1) = [_] := rfl
  have e28 : lawSc = ⟨_, _, _, _, _⟩ := rfl
  unfold lawEnv
  rw [e27, e28]
  clear e27 e28
  intro hQ
  refine Goes.mk ?_
  k_steps
  rename Fr _ _ _ _ => F'
  rename News _ _ _ _ => N'
  exact hQ _ _ _ _ _ _ F' (by omega) (by omega) (by omega) (news_c5 N')

end Sb
end

section
open PySem PySem.W PyProof.Rows PySem.Calls PySem.Spec
set_option Elab.async false
set_option maxRecDepth 100000
set_option linter.constructorNameAsVariable false
set_option linter.unusedVariables false
set_option linter.unusedSimpArgs false
namespace Sb
local macro_rules | `(tactic| walk_at "CompSrc") => `(tactic| (k_here; k_dflt (refine LCg.CompSrc.range (by rfl) (by k_asm) (by k_asm) (by assumption) (by first | decide | rfl) (by first | rfl | decide) (by first | size_fits | exact Nat.le_of_ble_eq_true rfl) ?_; intro g'; lcg_lit)))
local macro_rules | `(tactic| walk_at "inplaceOp Add ref") => `(tactic| (k_here; (with_reducible show wpAny _ _ (inplaceOp Operator.Add (Value.ref _) (Value.ref _)) _ _ _); k_dflt (refine' iadd_L ?F ?N ?b ?e ?ne ?U ?z ?_; (case F => k_asm); (case N => k_asm); (case b => k_mem); (case e => rfl); (case U => k_upd); (case ne => kl_some); (case z => (simp only [List.size_toArray, List.length_cons, List.length_nil]; omega))); kl_rest))

def mids : List Str := [Str.ofString "", Str.ofString "ig", Str.ofString "lig", Str.ofString "els"]
abbrev ends : List Str := [Str.ofString "", Str.ofString "e", Str.ofString "en", Str.ofString "er", Str.ofString "es", Str.ofString "ens", Str.ofString "et", Str.ofString "ets", Str.ofString "s"]
def FormOf (mi bh : Str) : Prop := ∃ n : Int, (mi = Str.ofString "els" ∧ bh = mi ++ ends.getD (n.fmod 5 + 1).toNat Str.empty) ∨ (mi ≠ Str.ofString "els" ∧ bh = mi ++ ends.getD (n.fmod 9).toNat Str.empty)
theorem news_keep {h h' : Heap} {L : Addr} {a b c d e : Addr × Obj} {r : List (Addr × Obj)} (N : News h L h' (a :: b :: c :: d :: e :: r)) : News h L h' [b, c, d, e] := fun p hp => N p (by
  simp only [List.mem_cons, List.not_mem_nil, or_false] at hp ⊢
  rcases hp with rfl | rfl | rfl | rfl <;> simp)

set_option maxHeartbeats 0 in
theorem ta : ∀ (w : World) (s : Shared) (h : Heap) (L : Addr) (X : (KL w.params).In h) (T : TopRead prg (looseOf w.params) (mgOf w.params) (mbOf w.params) h) (m : Str → Option Value)
   (lw i dl lr : Addr) (oi odl olr : Obj) (ap : @Ne Nat lw i ∧ @Ne Nat lw dl ∧ @Ne Nat lw lr) (vs : List Value) (nv : Nat) (hv : vs.length ≤ 10) (r : Str) (tr : Tok) (hr : 2 ≤ r.length ∧ r.length ≤ 7) (n : Int) (tn : Tok)
   (F : Fr h L s.heap (fun y => if y = "number" then some (.int n tn) else if y = "words" then some (.ref lw) else if y = "roots" then some (.ref lr) else if y = "root" then some (.str r tr) else m y)) (N0 : News h L s.heap [(lw, W.listOf vs.toArray nv), (i, oi), (dl, odl), (lr, olr)]) (K0 : Below callerA h [] h)
   (Q : Flow → Shared → Prop) (row : PySem.Challenge.rw_bi0025_01 = PySem.Challenge.rw_bi0025_01)
   (hQ : ∀ (mi : Str) (tm : Tok) (h' : Heap) (tk : Nat) (m' : Str → Option Value), mi ∈ mids → Fr h L h' (fun y => if y = "middle" then some (.str mi tm) else if y = "number" then some (.int n tn) else if y = "words" then some (.ref lw) else if y = "roots" then some (.ref lr) else if y = "root" then some (.str r tr) else m' y) → News h L h' [(lw, W.listOf vs.toArray nv), (i, oi), (dl, odl), (lr, olr)] → Q .next { s with heap := h', toks := tk }),
   Goes (model prg w) (callerA.deeper (lawEnv L)) (execs (turnBody.take 1) (lawEnv L)) Q (fun _ _ => False) s := by
  k_fill
  intro w s h L X T m lw i dl lr oi odl olr ap vs nv hv r tr hr n tn F N0 K0 Q row
  clear row
  have e27 : (turnBody.take 1) = [_] := rfl
  have e28 : lawSc = ⟨_, _, _, _, _⟩ := rfl
  unfold lawEnv
  rw [e27, e28]
  clear e27 e28
  intro hQ
  refine Goes.mk ?_
  k_steps
  all_goals
    rename Fr _ _ _ _ => F'
    rename News _ _ _ _ => N'
    exact hQ _ _ _ _ _ (by simp [mids]) F' (news_keep N')

set_option maxHeartbeats 0 in
theorem tb : ∀ (w : World) (s : Shared) (h : Heap) (L : Addr) (X : (KL w.params).In h) (T : TopRead prg (looseOf w.params) (mgOf w.params) (mbOf w.params) h) (m : Str → Option Value)
   (lw i dl lr : Addr) (oi odl olr : Obj) (ap : @Ne Nat lw i ∧ @Ne Nat lw dl ∧ @Ne Nat lw lr) (vs : List Value) (nv : Nat) (hv : vs.length ≤ 10) (r : Str) (tr : Tok) (hr : 2 ≤ r.length ∧ r.length ≤ 7) (n : Int) (tn : Tok) (mi : Str) (tm : Tok) (hm : mi.length ≤ 3)
   (F : Fr h L s.heap (fun y => if y = "middle" then some (.str mi tm) else if y = "number" then some (.int n tn) else if y = "words" then some (.ref lw) else if y = "roots" then some (.ref lr) else if y = "root" then some (.str r tr) else m y)) (N0 : News h L s.heap [(lw, W.listOf vs.toArray nv), (i, oi), (dl, odl), (lr, olr)]) (K0 : Below callerA h [] h)
   (Q : Flow → Shared → Prop) (row : PySem.Challenge.rw_bi0025_01 = PySem.Challenge.rw_bi0025_01)
   (hQ : ∀ (bh : Str) (tb : Tok) (h' : Heap) (tk : Nat) (m' : Str → Option Value), FormOf mi bh → Fr h L h' (fun y => if y = "behind" then some (.str bh tb) else if y = "words" then some (.ref lw) else if y = "roots" then some (.ref lr) else if y = "root" then some (.str r tr) else m' y) → News h L h' [(lw, W.listOf vs.toArray nv), (i, oi), (dl, odl), (lr, olr)] → Q .next { s with heap := h', toks := tk }),
   Goes (model prg w) (callerA.deeper (lawEnv L)) (execs (turnBody.drop 1 |>.take 2) (lawEnv L)) Q (fun _ _ => False) s := by
  k_fill
  intro w s h L X T m lw i dl lr oi odl olr ap vs nv hv r tr hr n tn mi tm hm F N0 K0 Q row
  clear row
  have e27 : (turnBody.drop 1 |>.take 2) = [_, _] := rfl
  have e28 : lawSc = ⟨_, _, _, _, _⟩ := rfl
  unfold lawEnv
  rw [e27, e28]
  clear e27 e28
  intro hQ
  refine Goes.mk ?_
  k_steps
  · rename Fr _ _ _ _ => F'
    rename News _ _ _ _ => N'
    exact hQ _ _ _ _ _ ⟨n, .inl ⟨by simp_all, rfl⟩⟩ (fr_4 F' rfl rfl rfl rfl) (news_keep N')
  · rename Fr _ _ _ _ => F'
    rename News _ _ _ _ => N'
    exact hQ _ _ _ _ _ ⟨n, .inr ⟨by simp_all, rfl⟩⟩ (fr_4 F' rfl rfl rfl rfl) (news_keep N')

set_option maxHeartbeats 0 in
theorem td : ∀ (w : World) (s : Shared) (h : Heap) (L : Addr) (X : (KL w.params).In h) (T : TopRead prg (looseOf w.params) (mgOf w.params) (mbOf w.params) h) (m : Str → Option Value)
   (lw i dl lr : Addr) (oi odl olr : Obj) (ap : @Ne Nat lw i ∧ @Ne Nat lw dl ∧ @Ne Nat lw lr) (vs : List Value) (nv : Nat) (hv : vs.length ≤ 10) (r : Str) (tr : Tok) (hr : 2 ≤ r.length ∧ r.length ≤ 7) (bh : Str) (tb : Tok) (hb : bh.length ≤ 6)
   (F : Fr h L s.heap (fun y => if y = "behind" then some (.str bh tb) else if y = "words" then some (.ref lw) else if y = "roots" then some (.ref lr) else if y = "root" then some (.str r tr) else m y)) (N0 : News h L s.heap [(lw, W.listOf vs.toArray nv), (i, oi), (dl, odl), (lr, olr)]) (K0 : Below callerA h [] h)
   (Q : Flow → Shared → Prop) (row : PySem.Challenge.rw_bi0025_01 = PySem.Challenge.rw_bi0025_01)
   (hQ : ∀ (tx ty : Tok) (nv' : Nat) (h' : Heap) (tk : Nat) (m' : Str → Option Value), Fr h L h' (fun y => if y = "words" then some (.ref lw) else if y = "roots" then some (.ref lr) else if y = "root" then some (.str r tr) else m' y) → News h L h' [(lw, W.listOf (vs ++ [Value.str (Str.ofString "k" ++ r ++ bh) tx, .str (r ++ bh) ty]).toArray nv'), (i, oi), (dl, odl), (lr, olr)] → Q .next { s with heap := h', toks := tk }),
   Goes (model prg w) (callerA.deeper (lawEnv L)) (execs (turnBody.drop 3) (lawEnv L)) Q (fun _ _ => False) s := by
  k_fill
  intro w s h L X T m lw i dl lr oi odl olr ap vs nv hv r tr hr bh tb hb F N0 K0 Q row
  clear row
  have e27 : (turnBody.drop 3) = [_] := rfl
  have e28 : lawSc = ⟨_, _, _, _, _⟩ := rfl
  unfold lawEnv
  rw [e27, e28]
  clear e27 e28
  intro hQ
  refine Goes.mk ?_
  k_steps
  rename Fr _ _ _ _ => F'
  rename News _ _ _ _ => N'
  exact hQ _ _ _ _ _ _ (fr_3 F' rfl rfl rfl) (news_keep N')

end Sb
end

section
open PySem PySem.W PyProof.Rows PySem.Calls PySem.Spec
set_option Elab.async false
set_option maxRecDepth 100000
set_option linter.constructorNameAsVariable false
set_option linter.unusedVariables false
set_option linter.unusedSimpArgs false
namespace Sb
local macro_rules | `(tactic| walk_at "CompSrc") => `(tactic| (k_here; k_dflt (refine LCg.CompSrc.range (by rfl) (by k_asm) (by k_asm) (by assumption) (by first | decide | rfl) (by first | rfl | decide) (by first | size_fits | exact Nat.le_of_ble_eq_true rfl) ?_; intro g'; lcg_lit)))
local macro_rules | `(tactic| walk_at "inplaceOp Add ref") => `(tactic| (k_here; (with_reducible show wpAny _ _ (inplaceOp Operator.Add (Value.ref _) (Value.ref _)) _ _ _); k_dflt (refine' iadd_L ?F ?N ?b ?e ?ne ?U ?z ?_; (case F => k_asm); (case N => k_asm); (case b => k_mem); (case e => rfl); (case U => k_upd); (case ne => kl_some); (case z => (simp only [List.size_toArray, List.length_cons, List.length_nil]; omega))); kl_rest))

theorem news_7 {h h' : Heap} {L : Addr} {a b c : Addr × Obj} (N : News h L h' [a, b, c]) : News h L h' [b, c] := news_tail N
theorem fr_2 {h h' : Heap} {L : Addr} {f : Str → Option Value} {a b : Str} {va vb : Value} (F : Fr h L h' f) (ea : f a = some va) (eb : f b = some vb) :
    Fr h L h' (fun y => if y = a then some va else if y = b then some vb else f y) := by
  have e : f = fun y => if y = a then some va else if y = b then some vb else f y := by
    funext y
    by_cases qa : y = a
    · simp [qa, ea]
    by_cases qb : y = b
    · subst qb; simp [eb, qa]
    simp [qa, qb]
  exact e ▸ F

set_option maxHeartbeats 0 in
theorem c7 : ∀ (w : World) (s : Shared) (h : Heap) (L : Addr) (X : (KL w.params).In h) (T : TopRead prg (looseOf w.params) (mgOf w.params) (mbOf w.params) h) (m : Str → Option Value)
   (lw lr : Addr) (ap : @Ne Nat lw lr) (vs : List Value) (nv : Nat) (hv : vs.length ≤ 10) (r : Str) (tr tq : Tok) (hr : 2 ≤ r.length ∧ r.length ≤ 7)
   (F : Fr h L s.heap (fun y => if y = "words" then some (.ref lw) else if y = "roots" then some (.ref lr) else if y = "root" then some (.str r tr) else m y)) (N0 : News h L s.heap [(lw, W.listOf vs.toArray nv), (lr, W.listOf #[Value.str (Str.ofString "k" ++ r) tq, Value.str r tr, Value.str (Str.ofString "k" ++ r) tq, Value.str r tr, Value.str (Str.ofString "k" ++ r) tq, Value.str r tr] 0)]) (K0 : Below callerA h [] h)
   (Q : Flow → Shared → Prop) (row : PySem.Challenge.rw_bi0025_01 = PySem.Challenge.rw_bi0025_01)
   (hQ : ∀ (nv' : Nat) (h' : Heap) (tk : Nat) (m' : Str → Option Value), Fr h L h' (fun y => if y = "words" then some (.ref lw) else if y = "roots" then some (.ref lr) else m' y) → News h L h' [(lw, W.listOf (vs ++ [Value.str (Str.ofString "k" ++ r) tq, .str r tr]).toArray nv'), (lr, W.listOf #[Value.str (Str.ofString "k" ++ r) tq, Value.str r tr, Value.str (Str.ofString "k" ++ r) tq, Value.str r tr, Value.str (Str.ofString "k" ++ r) tq, Value.str r tr] 0)] → Q .next { s with heap := h', toks := tk }),
   Goes (model prg w) (callerA.deeper (lawEnv L)) (execs (lawBody.drop 7 |>.take 1) (lawEnv L)) Q (fun _ _ => False) s := by
  k_fill
  intro w s h L X T m lw lr ap vs nv hv r tr tq hr F N0 K0 Q row
  clear row
  have e27 : (lawBody.drop 7 |>.take 1) = [_] := rfl
  have e28 : lawSc = ⟨_, _, _, _, _⟩ := rfl
  unfold lawEnv
  rw [e27, e28]
  clear e27 e28
  intro hQ
  refine Goes.mk ?_
  k_steps
  rename Fr _ _ _ _ => F'
  rename News _ _ _ _ => N'
  exact hQ _ _ _ _ (fr_2 F' rfl rfl) (news_7 N')

end Sb
end

section
open PySem PySem.W PyProof.Rows PySem.Calls PySem.Spec
set_option Elab.async false
set_option maxRecDepth 100000
set_option linter.constructorNameAsVariable false
set_option linter.unusedVariables false
set_option linter.unusedSimpArgs false
namespace Sb
local macro_rules | `(tactic| walk_at "CompSrc") => `(tactic| (k_here; k_dflt (refine LCg.CompSrc.range (by rfl) (by k_asm) (by k_asm) (by assumption) (by first | decide | rfl) (by first | rfl | decide) (by first | size_fits | exact Nat.le_of_ble_eq_true rfl) ?_; intro g'; lcg_lit)))
local macro_rules | `(tactic| walk_at "inplaceOp Add ref") => `(tactic| (k_here; (with_reducible show wpAny _ _ (inplaceOp Operator.Add (Value.ref _) (Value.ref _)) _ _ _); k_dflt (refine' iadd_L ?F ?N ?b ?e ?ne ?U ?z ?_; (case F => k_asm); (case N => k_asm); (case b => k_mem); (case e => rfl); (case U => k_upd); (case ne => kl_some); (case z => (simp only [List.size_toArray, List.length_cons, List.length_nil]; omega))); kl_rest))

def forIter : Stmt → Expr
  | .For _ i _ _ _ => i
  | _ => default

set_option maxHeartbeats 0 in
theorem it6 : ∀ (w : World) (s : Shared) (h : Heap) (L : Addr) (X : (KL w.params).In h) (T : TopRead prg (looseOf w.params) (mgOf w.params) (mbOf w.params) h) (m : Str → Option Value)
   (D : Addr) (o : Obj) (hd : o.data = .cell (some (.ref D))) (hlt : L + 1 < D) (n0 n1 n2 n3 n4 : Int) (t0 t1 t2 t3 t4 : Tok) (lw lr : Addr) (ow olr : Obj)
   (F : Fr h L s.heap (m)) (N0 : News h L s.heap [(lr, olr), (lw, ow), (D, W.listOf [.int n0 t0, .int n1 t1, .int n2 t2, .int n3 t3, .int n4 t4].toArray 0), (L + 1, o)]) (K0 : Below callerA h [] h)
   (Q : Value → Shared → Prop) (row : PySem.Challenge.rw_bi0025_01 = PySem.Challenge.rw_bi0025_01)
   (hQ : ∀ (dl : Addr) (h' : Heap) (tk : Nat), Fr h L h' m → @LT.lt Nat _ lr dl → @LT.lt Nat _ lw dl → @LT.lt Nat _ D dl → News h L h' ((dl, W.listOf #[Value.int n3 t3, Value.int n4 t4] 0) :: [(lr, olr), (lw, ow), (D, W.listOf [.int n0 t0, .int n1 t1, .int n2 t2, .int n3 t3, .int n4 t4].toArray 0), (L + 1, o)]) → Q (.ref dl) { s with heap := h', toks := tk }),
   Goes (model prg w) (callerA.deeper (lawEnv L)) (eval (forIter (nthS 6 lawBody)) (lawEnv L)) Q (fun _ _ => False) s := by
  k_fill
  intro w s h L X T m D o hd hlt n0 n1 n2 n3 n4 t0 t1 t2 t3 t4 lw lr ow olr F N0 K0 Q row
  clear row
  have e27 : (forIter (nthS 6 lawBody)) = .Subscript (.Name _ _) (.Slice _ _ _ _) _ := rfl
  have e28 : lawSc = ⟨_, _, _, _, _⟩ := rfl
  unfold lawEnv
  rw [e27, e28]
  clear e27 e28
  intro hQ
  refine Goes.mk ?_
  k_steps
  rename Fr _ _ _ _ => F'
  rename News _ _ _ _ => N'
  exact hQ _ _ _ F' (by omega) (by omega) (by omega) N'

end Sb
end

section
open PySem PySem.W PyProof.Rows PySem.Calls PySem.Spec
set_option Elab.async false
set_option maxRecDepth 100000
set_option linter.constructorNameAsVariable false
set_option linter.unusedVariables false
namespace Sb
def formsS : List Str := forms.map st
theorem forms_a : (mids.all fun mi => decide (mi = Str.ofString "els") || (List.range 9).all fun i => formsS.contains (mi ++ ends.getD i Str.empty)) = true := by decide +kernel
theorem forms_b : ((List.range 5).all fun i => formsS.contains (Str.ofString "els" ++ ends.getD (i + 1) Str.empty)) = true := by decide +kernel
theorem mids_len : (mids.all fun x => decide (x.length ≤ 3)) = true := by decide +kernel
theorem forms_len : (formsS.all fun x => decide (x.length ≤ 6)) = true := by decide +kernel
theorem fmod_nat (n : Int) (k : Nat) (hk : 0 < k) : ∃ i : Nat, i < k ∧ n.fmod (k : Int) = (i : Int) := by
  have h0 := Int.fmod_nonneg_of_pos n (show (0 : Int) < k by omega)
  have h1 := Int.fmod_lt_of_pos n (show (0 : Int) < k by omega)
  exact ⟨(n.fmod k).toNat, by omega, by omega⟩
theorem form_in {mi bh : Str} (hm : mi ∈ mids) (h : FormOf mi bh) : ∃ f ∈ forms, bh = st f := by
  have key : bh ∈ formsS := by
    obtain ⟨n, ⟨rfl, rfl⟩ | ⟨hne, rfl⟩⟩ := h
    · obtain ⟨i, hi, e⟩ := fmod_nat n 5 (by omega)
      have e' : (n.fmod 5 + 1).toNat = i + 1 := by
        have : n.fmod 5 = (i : Int) := e
        omega
      rw [e']
      have := List.all_eq_true.mp forms_b i (List.mem_range.mpr hi)
      exact List.contains_iff_mem.mp this
    · obtain ⟨i, hi, e⟩ := fmod_nat n 9 (by omega)
      have e' : (n.fmod 9).toNat = i := by
        have : n.fmod 9 = (i : Int) := e
        omega
      rw [e']
      have := List.all_eq_true.mp forms_a mi hm
      rw [Bool.or_eq_true] at this
      rcases this with q | q
      · exact absurd (of_decide_eq_true q) hne
      · exact List.contains_iff_mem.mp (List.all_eq_true.mp q i (List.mem_range.mpr hi))
  obtain ⟨f, hf, e⟩ := List.mem_map.mp key
  exact ⟨f, hf, e.symm⟩
theorem gfor {prog : Program} {w : World} {A : Around} {E : Value → Shared → Prop} {s : Shared} {h₀ : Heap} {env : Env} {Q : Flow → Shared → Prop} {x : Str} {body : List Stmt} {m : Str → Option Value} {px pos : PySem.Pos} {iter : Expr} (F : Fr h₀ env.locals s.heap m) (hx : env.kindOf x = some .local)
    (hp : (env.scope.kind == .class || (env.scope.kind == .module && env.locals != env.globals)) = false)
    (h : Goes (model prog w) A (eval iter env) (fun xv s₁ => Goes (model prog w) A (pyIter xv) (fun it s₂ => LoopAtV prog w A h₀ env x body Q E it s₂) E s₁) E s)
    (hs : ∀ x, foldedSetIterable iter env x = pure x := by intro _; rfl)
    (hE : PassesOwn (model prog w) A env E := by passes_own) :
    Goes (model prog w) A (exec (.For (.Name x px) iter body [] pos) env) Q E s := ⟨For_invVF F hx hp (wpAny_mono h.wp (fun _ _ g => g.wp) fun _ _ e => e) hs hE⟩
theorem news_swap {h h' : Heap} {L : Addr} {a b : Addr × Obj} {r : List (Addr × Obj)} (N : News h L h' (a :: b :: r)) : News h L h' (b :: a :: r) := fun p hp => N p (by
  rcases List.mem_cons.mp hp with rfl | hp
  · exact .tail _ (.head _)
  · rcases List.mem_cons.mp hp with rfl | hp
    · exact .head _
    · exact .tail _ (.tail _ hp))
theorem mid_len {mi : Str} (hm : mi ∈ mids) : mi.length ≤ 3 := of_decide_eq_true (List.all_eq_true.mp mids_len mi hm)
theorem form_len {f : List Nat} (hf : f ∈ forms) : (st f).length ≤ 6 := of_decide_eq_true (List.all_eq_true.mp forms_len _ (List.mem_map_of_mem hf))

set_option maxHeartbeats 0 in
theorem turn (w : World) (s : Shared) (h : Heap) (L : Addr) (X : (KL w.params).In h) (T : TopRead prg (looseOf w.params) (mgOf w.params) (mbOf w.params) h) (m : Str → Option Value)
    (lw i dl lr : Addr) (oi odl olr : Obj) (ap : @Ne Nat lw i ∧ @Ne Nat lw dl ∧ @Ne Nat lw lr) (vs : List Value) (nv : Nat) (hv : vs.length ≤ 10) (r : Str) (tr : Tok) (hr : 2 ≤ r.length ∧ r.length ≤ 7) (n : Int) (tn : Tok)
    (F : Fr h L s.heap (fun y => if y = "number" then some (.int n tn) else if y = "words" then some (.ref lw) else if y = "roots" then some (.ref lr) else if y = "root" then some (.str r tr) else m y))
    (N0 : News h L s.heap [(lw, W.listOf vs.toArray nv), (i, oi), (dl, odl), (lr, olr)]) (K0 : Below callerA h [] h) (Q : Flow → Shared → Prop)
    (hQ : ∀ (f : List Nat) (tx ty : Tok) (nv' : Nat) (h' : Heap) (tk : Nat) (m' : Str → Option Value), f ∈ forms → Fr h L h' (fun y => if y = "words" then some (.ref lw) else if y = "roots" then some (.ref lr) else if y = "root" then some (.str r tr) else m' y) →
      News h L h' [(lw, W.listOf (vs ++ [Value.str (Str.ofString "k" ++ r ++ st f) tx, .str (r ++ st f) ty]).toArray nv'), (i, oi), (dl, odl), (lr, olr)] → Q .next { s with heap := h', toks := tk }) :
    Goes (model prg w) (callerA.deeper (lawEnv L)) (execs turnBody (lawEnv L)) Q (fun _ _ => False) s := by
  refine gof (cut3 turnBody) ?_
  refine gseq (ta w s h L X T m lw i dl lr oi odl olr ap vs nv hv r tr hr n tn F N0 K0 _ rfl fun mi tm h1 tk1 m1 hmi F1 N1 => ?_)
  dsimp only
  refine gseq (tb w { s with heap := h1, toks := tk1 } h L X T m1 lw i dl lr oi odl olr ap vs nv hv r tr hr n tn mi tm (mid_len hmi) F1 N1 K0 _ rfl fun bh tb h2 tk2 m2 hbh F2 N2 => ?_)
  dsimp only
  obtain ⟨f, hf, rfl⟩ := form_in hmi hbh
  exact td w { s with heap := h2, toks := tk2 } h L X T m2 lw i dl lr oi odl olr ap vs nv hv r tr hr (st f) tb (form_len hf) F2 N2 K0 _ rfl fun tx ty nv' h3 tk3 m3 F3 N3 => hQ f tx ty nv' h3 tk3 m3 hf F3 N3

set_option maxHeartbeats 0 in
theorem c6 (w : World) (s : Shared) (h : Heap) (L : Addr) (X : (KL w.params).In h) (T : TopRead prg (looseOf w.params) (mgOf w.params) (mbOf w.params) h) (m : Str → Option Value)
    (D : Addr) (o : Obj) (hd : o.data = .cell (some (.ref D))) (hlt : L + 1 < D) (n0 n1 n2 n3 n4 : Int) (t0 t1 t2 t3 t4 : Tok) (lw lr : Addr) (olr : Obj) (ap1 : @LT.lt Nat _ lw lr) (r : Str) (tr : Tok) (hr : 2 ≤ r.length ∧ r.length ≤ 7)
    (F : Fr h L s.heap (fun y => if y = "words" then some (.ref lw) else if y = "roots" then some (.ref lr) else if y = "root" then some (.str r tr) else m y))
    (N0 : News h L s.heap [(lr, olr), (lw, W.listOf #[] 0), (D, W.listOf [.int n0 t0, .int n1 t1, .int n2 t2, .int n3 t3, .int n4 t4].toArray 0), (L + 1, o)]) (K0 : Below callerA h [] h) (Q : Flow → Shared → Prop)
    (hQ : ∀ (f f' : List Nat) (ta tb tc td : Tok) (nv' : Nat) (h' : Heap) (tk : Nat) (m' : Str → Option Value), f ∈ forms → f' ∈ forms → Fr h L h' (fun y => if y = "words" then some (.ref lw) else if y = "roots" then some (.ref lr) else if y = "root" then some (.str r tr) else m' y) →
      News h L h' [(lw, W.listOf [Value.str (Str.ofString "k" ++ r ++ st f) ta, .str (r ++ st f) tb, Value.str (Str.ofString "k" ++ r ++ st f') tc, .str (r ++ st f') td].toArray nv'), (lr, olr)] → Q .next { s with heap := h', toks := tk }) :
    Goes (model prg w) (callerA.deeper (lawEnv L)) (exec (nthS 6 lawBody) (lawEnv L)) Q (fun _ _ => False) s := by
  have e : nthS 6 lawBody = .For (.Name (Str.ofString "number") _) (forIter (nthS 6 lawBody)) turnBody [] _ := rfl
  rw [e]
  refine gfor F (by rfl) (by rfl) (it6 w s h L X T _ D o hd hlt n0 n1 n2 n3 n4 t0 t1 t2 t3 t4 lw lr _ _ F N0 K0 _ rfl fun dl h1 tk1 F1 l1 l2 l3 N1 => ?_)
  refine ⟨iter_listUnr (vs := [Value.int n3 t3, Value.int n4 t4]) (by rfl) F1 N1 (.head _) (by rfl) (by rfl) fun I hI => ?_⟩
  have hIw : lw < I := hI (lw, W.listOf #[] 0) (.tail _ (.tail _ (.head _)))
  refine ListRest.succ fun it h2 tk2 hit F2 N2 => ?_
  refine Goes.wp (turn w { s with heap := h2, toks := tk2 } h L X T m lw I dl lr it (W.listOf #[Value.int n3 t3, Value.int n4 t4] 0) olr ⟨Nat.ne_of_lt hIw, Nat.ne_of_lt l2, Nat.ne_of_lt ap1⟩ [] 0 (by simp) r tr hr n3 t3 F2 (fun p hp => N2 p ?_) K0 _ fun f tx ty nv' h3 tk3 m3 hf F3 N3 => ?_)
  · simp only [List.mem_cons, List.not_mem_nil, or_false] at hp ⊢
    rcases hp with rfl | rfl | rfl | rfl <;> simp
  show UnrEnd _ _ _ _ _ _ _
  refine ⟨h3, tk3, _, [_, _, _], rfl, F3, news_swap N3, fun p hp => ?_, ⟨.tail _ (.head _), ?_⟩⟩
  · simp only [List.mem_cons, List.not_mem_nil, or_false] at hp
    rcases hp with rfl | rfl | rfl
    · exact Nat.ne_of_lt hIw
    · exact Nat.ne_of_lt (hI (dl, _) (.head _))
    · exact Nat.ne_of_lt (hI (lr, olr) (.tail _ (.head _)))
  refine ListRest.succ fun it' h4 tk4 hit' F4 N4 => ?_
  refine Goes.wp (turn w { s with heap := h4, toks := tk4 } h L X T m3 lw I dl lr it' (W.listOf #[Value.int n3 t3, Value.int n4 t4] 0) olr ⟨Nat.ne_of_lt hIw, Nat.ne_of_lt l2, Nat.ne_of_lt ap1⟩ ([] ++ [Value.str (Str.ofString "k" ++ r ++ st f) tx, .str (r ++ st f) ty]) nv' (by simp) r tr hr n4 t4 F4 (fun p hp => N4 p ?_) K0 _ fun f' tx' ty' nv'' h5 tk5 m5 hf' F5 N5 => ?_)
  · simp only [List.mem_cons, List.not_mem_nil, or_false] at hp ⊢
    rcases hp with rfl | rfl | rfl | rfl <;> simp
  show UnrEnd _ _ _ _ _ _ _
  refine ⟨h5, tk5, _, [_, _, _], rfl, F5, news_swap N5, fun p hp => ?_, ⟨.tail _ (.head _), ?_⟩⟩
  · simp only [List.mem_cons, List.not_mem_nil, or_false] at hp
    rcases hp with rfl | rfl | rfl
    · exact Nat.ne_of_lt hIw
    · exact Nat.ne_of_lt (hI (dl, _) (.head _))
    · exact Nat.ne_of_lt (hI (lr, olr) (.tail _ (.head _)))
  refine ListRest.zero fun h6 tk6 F6 N6 => ?_
  refine hQ f f' tx ty tx' ty' nv'' h6 tk6 m5 hf hf' F6 (fun p hp => N6 p ?_)
  simp only [List.mem_cons, List.not_mem_nil, or_false, List.nil_append, List.cons_append] at hp ⊢
  rcases hp with rfl | rfl <;> simp
end Sb
end

section
open PySem PySem.W PyProof.Rows PySem.Calls PySem.Spec
set_option Elab.async false
set_option maxRecDepth 100000
set_option linter.constructorNameAsVariable false
set_option linter.unusedVariables false
namespace Sb
def oneSign (x : Str) : Bool := match x.cps.toList with
  | [c] => c != 39 && decide (c < 1114112)
  | _ => false
theorem signs_all : ((List.range 40).all fun i => oneSign (Txt.item signs (i : Int))) = true := by decide +kernel
theorem sign_of (n : Int) : ∃ c : Nat, (c ≠ 39 ∧ c < 1114112) ∧ Txt.item signs (n.fmod 40) = st [c] := by
  obtain ⟨i, hi, e⟩ := fmod_nat n 40 (by omega)
  have e : n.fmod 40 = (i : Int) := e
  have z := List.all_eq_true.mp signs_all i (List.mem_range.mpr hi)
  unfold oneSign at z
  rw [e]
  split at z
  · rename_i c hc
    refine ⟨c, by simpa using z, ?_⟩
    rw [← hc, of_st]
  · cases z
theorem ends_all : ((List.range 4).all fun i => (List.range 4).all fun j => rootEnds.any fun e => decide (Txt.item (Str.ofString "eiuy") (i : Int) ++ Txt.item (Str.ofString "bcjm") (j : Int) = st e.reverse)) = true := by decide +kernel
theorem rootB_of {r : Str} (h : RootB r) : ∃ e ∈ rootEnds, r = st e.reverse := by
  obtain ⟨a, b, rfl⟩ := h
  obtain ⟨i, hi, e1⟩ := fmod_nat a 4 (by omega)
  obtain ⟨j, hj, e2⟩ := fmod_nat b 4 (by omega)
  have e1 : a.fmod 4 = (i : Int) := e1
  have e2 : b.fmod 4 = (j : Int) := e2
  have z := List.all_eq_true.mp (List.all_eq_true.mp ends_all i (List.mem_range.mpr hi)) j (List.mem_range.mpr hj)
  obtain ⟨e, he, q⟩ := List.any_eq_true.mp z
  rw [e1, e2]
  exact ⟨e, he, of_decide_eq_true q⟩
theorem slice_cut0 {a : Str} {hi : Int} (h0 : 0 ≤ hi) (h1 : hi ≤ a.length) : Txt.slice a none (some hi) = cut a 0 hi.toNat := by
  have z := slice_cut (Int.le_refl 0) h0 h1
  rw [show (0 : Int).toNat = 0 from rfl] at z
  rw [← z]
  have e : Builtin.Str.strSliceIndices none (some hi) 1 a.length = Builtin.Str.strSliceIndices (some 0) (some hi) 1 a.length := by
    unfold Builtin.Str.strSliceIndices
    have e2 : max (0 : Int) (min (0 : Int) (a.length : Int)) = 0 := by omega
    simp [e2]
  unfold Txt.slice
  rw [e]
theorem st_append (a b : List Nat) : st a ++ st b = st (a ++ b) := by
  apply PySem.Str.ext'
  show a.toArray ++ b.toArray = (a ++ b).toArray
  simp
theorem rootA_of {r : Str} (h : RootA r) : ∃ l : List Nat, r = st l ∧ l.length ≤ 5 ∧ ∀ x ∈ l, x ≠ 39 ∧ x < 1114112 := by
  obtain ⟨x0, x1, x2, x3, x4, y, rfl⟩ := h
  obtain ⟨c0, h0, e0⟩ := sign_of x0
  obtain ⟨c1, h1, e1⟩ := sign_of x1
  obtain ⟨c2, h2, e2⟩ := sign_of x2
  obtain ⟨c3, h3, e3⟩ := sign_of x3
  obtain ⟨c4, h4, e4⟩ := sign_of x4
  obtain ⟨j, hj, e⟩ := fmod_nat y 6 (by omega)
  have e : y.fmod 6 = (j : Int) := e
  have J : Txt.join (Str.ofString "") [Txt.item signs (x0.fmod 40), Txt.item signs (x1.fmod 40), Txt.item signs (x2.fmod 40), Txt.item signs (x3.fmod 40), Txt.item signs (x4.fmod 40)] = st [c0, c1, c2, c3, c4] := by
    rw [e0, e1, e2, e3, e4]; rfl
  rw [J, e, slice_cut0 (by omega) (by rw [st_len]; simp only [List.length_cons, List.length_nil]; omega)]
  refine ⟨[c0, c1, c2, c3, c4].take j, ?_, ?_, ?_⟩
  · unfold cut
    simp
  · rw [List.length_take]; simp only [List.length_cons, List.length_nil]; omega
  · intro x hx
    have := List.mem_of_mem_take hx
    simp only [List.mem_cons, List.not_mem_nil, or_false] at this
    rcases this with rfl | rfl | rfl | rfl | rfl <;> assumption
theorem ends_two : (rootEnds.all fun e => decide (e.length = 2)) = true := by decide +kernel
/-- what a root is -/
def IsRoot (r : Str) : Prop := ∃ (R0 e : List Nat), r = st (wd R0 e) ∧ e ∈ rootEnds ∧ 1 ≤ R0.length ∧ R0.length ≤ 5 ∧ ∀ x ∈ R0, x ≠ 39 ∧ x < 1114112
theorem root_of {l e : List Nat} {r : Str} (hl : l.length ≤ 5) (hno : ∀ x ∈ l, x ≠ 39 ∧ x < 1114112) (he : e ∈ rootEnds)
    (h : (((st l ++ st e.reverse).length : Int) = 2 ∧ ∃ c : Int, r = Txt.item signs (c.fmod 40) ++ (st l ++ st e.reverse)) ∨ (¬ ((st l ++ st e.reverse).length : Int) = 2 ∧ r = st l ++ st e.reverse)) : IsRoot r := by
  have h2 : e.length = 2 := of_decide_eq_true (List.all_eq_true.mp ends_two e he)
  rw [st_append, st_len, List.length_append, List.length_reverse, h2] at h
  rcases h with ⟨hz, c, rfl⟩ | ⟨hz, rfl⟩
  · have : l = [] := by
      cases l with
      | nil => rfl
      | cons _ _ => simp only [List.length_cons] at hz; omega
    subst this
    obtain ⟨x, hx, ex⟩ := sign_of c
    rw [ex, st_append]
    refine ⟨[x], e, rfl, he, by simp, by simp, fun y hy => ?_⟩
    rw [List.mem_singleton.mp hy]; exact hx
  · refine ⟨l, e, rfl, he, ?_, hl, hno⟩
    cases l with
    | nil => exact absurd rfl hz
    | cons _ _ => simp
end Sb
end

section
open PySem PySem.W PyProof.Rows PySem.Calls PySem.Spec
set_option Elab.async false
set_option maxRecDepth 100000
set_option linter.constructorNameAsVariable false
set_option linter.unusedVariables false
namespace Sb
def clsA : Cls → Addr
  | .da => 403
  | .no => 666
  | .sv => 979
/-- what is known of the top, for the calls of methods -/
structure Top0 (w : World) (h : Heap) (K : Frag) : Prop where
  X : K.In h
  T : TopRead prg (looseOf w.params) (mgOf w.params) (mbOf w.params) h
  sg : ∀ g, K.In g → SgOk w K g sgL
  cls : ∀ k, ClsOk K (clsA k) (meths k)
theorem top0_of {w : World} {h : Heap} {d0 d1 d2 d3 d4 d5 d6 d7 : SD} (hS : Sets w d0 d1 d2 d3 d4 d5 d6 d7) (X : (KS w.params d0 d1 d2 d3 d4 d5 d6 d7).In h) (T : TopRead prg (looseOf w.params) (mgOf w.params) (mbOf w.params) h) :
    Top0 w h (KS w.params d0 d1 d2 d3 d4 d5 d6 d7) := ⟨X, T, fun g Xg => sg_ok w hS Xg, fun k => match k with | .da => cls_da .. | .no => cls_no .. | .sv => cls_sv ..⟩

/-- the same but at some places -/
def Kept (ex : List Addr) (h h' : Heap) : Prop := ∀ b o, b ∉ ex → h.get? b = some o → h'.get? b = some o
theorem Kept.refl {ex : List Addr} (h : Heap) : Kept ex h h := fun _ _ _ e => e
theorem Kept.trans {ex : List Addr} {a b c : Heap} (x : Kept ex a b) (y : Kept ex b c) : Kept ex a c := fun z o hz e => y z o hz (x z o hz e)
theorem Kept.more {ex ex' : List Addr} {a b : Heap} (x : Kept ex a b) (hs : ∀ z ∈ ex, z ∈ ex') : Kept ex' a b := fun z o hz e => x z o (fun q => hz (hs z q)) e
/-- the dict of a made object -/
def DictAt (P : Params) (hp : Heap) (d : Addr) (fl : List (Fld × MV)) : Prop := ∃ es n, hp.get? d = some (dictOf es n) ∧ DR P es fl ∧ (fl.map (·.1)).Nodup
def InstOk (P : Params) (hp : Heap) (d : Addr) : Prop := ∃ fl, GoodF fl ∧ DictAt P hp d fl
theorem InstOk.kept {P : Params} {a b : Heap} {d : Addr} {ex : List Addr} (x : InstOk P a d) (k : Kept ex a b) (hd : d ∉ ex) : InstOk P b d :=
  let ⟨fl, g, es, n, e, r⟩ := x; ⟨fl, g, es, n, k _ _ hd e, r⟩
structure Same (s s' : Shared) : Prop where
  gens : s'.gens = s.gens
  drawn : s'.drawn = s.drawn
  os : s'.os = s.os
theorem Same.trans {a b c : Shared} (x : Same a b) (y : Same b c) : Same a c := ⟨y.gens.trans x.gens, y.drawn.trans x.drawn, y.os.trans x.os⟩
theorem Same.eq {s s' : Shared} (x : Same s s') : s' = { s with heap := s'.heap, toks := s'.toks } := by
  obtain ⟨h, g, d, t, o⟩ := s
  obtain ⟨h', g', d', t', o'⟩ := s'
  obtain ⟨rfl, rfl, rfl⟩ := x
  rfl
/-- the frames below -/
structure Frs (A : Around) (h hp : Heap) (fas : List Addr) : Prop where
  hh : A.handled = none
  ex : ∃ outer, A.frames = some outer ∧ ∀ e ∈ outer, e.scope.kind ≠ .module ∧ ∃ b, e.frame = some b ∧ b ∈ fas
  ns : ∀ b ∈ fas, (∃ m, hp.Ns b m) ∧ h.get? b = none
  nd : fas.Nodup

theorem callM {w : World} {A : Around} {s : Shared} {K : Frag} {h : Heap} {k : Cls} {n : Nat} {m : Mth} {vs : List MV} {fl fl' : List (Fld × MV)} {v : MV} {x d : Addr} {fas : List Addr}
    (hx : Ex sgL (meths k) n (.mth m vs fl v fl')) (Z : Top0 w h K) (B : Frs A h s.heap fas) (keep : ∀ b o, h.get? b = some o → s.heap.get? b = some o)
    (hxo : s.heap.get? x = some (instObj (clsA k) d)) (hd : DictAt w.params s.heap d fl) (hdn : h.get? d = none) (hdf : d ∉ fas)
    (hdep : A.depth + n ≤ recursionLimit) {fn : Addr} {us : List Value} (hf : findIn K (.ref (clsA k)) m.name = some (some (.ref fn))) (hu : OfAll us vs) {R : Result → Shared → Prop}
    (fin : ∀ u s', MV.of u = some v → Same s s' → Kept (d :: fas) s.heap s'.heap → (∀ b ∈ fas, ∀ m, s.heap.Ns b m → s'.heap.Ns b m) → DictAt w.params s'.heap d fl' → R (.ok (.ret u)) s') :
    codeAny (model prog w) A (.call (.ref fn) ⟨.ref x :: us, []⟩) R s := by
  obtain ⟨hh, ⟨outer, hfr, hout⟩, hns, hnd⟩ := B
  obtain ⟨es, n0, hde, D, nd⟩ := hd
  have hmap : (fas.map fun b => ((b, (s.heap.get? b).getD default) : Addr × Obj)).map (·.1) = fas := by
    rw [List.map_map]
    exact (List.map_congr_left fun _ _ => rfl).trans (List.map_id _)
  have at_ : ∀ b ∈ fas, ∃ o es ep, s.heap.get? b = some o ∧ o.data = .dict es ep := fun b hb => by
    obtain ⟨⟨m, o, es, ep, e, q, _⟩, _⟩ := hns b hb
    exact ⟨o, es, ep, e, q⟩
  refine call0 hx hh outer hfr (fas.map fun b => (b, (s.heap.get? b).getD default)) (by rw [hmap]; exact hout) (fun p hp => ?_) (fun p hp vs => ?_) (by rw [hmap]; exact List.nodup_cons.mpr ⟨hdf, hnd⟩) keep Z.X Z.T Z.sg (Z.cls k) hxo (by
      rw [hmap]
      intro hm
      rcases List.mem_cons.mp hm with e | hm
      · rw [e] at hxo; rw [hxo] at hde; cases hde
      · obtain ⟨o, es, ep, e, q⟩ := at_ x hm
        rw [hxo] at e
        cases e
        cases q) hde hdn D nd hdep hf hu fun u s' hu' G => ?_
  · obtain ⟨b, hb, rfl⟩ := List.mem_map.mp hp
    obtain ⟨o, es, ep, e, q⟩ := at_ b hb
    exact ⟨by dsimp only; rw [e]; rfl, (hns b hb).2⟩
  · obtain ⟨b, hb, rfl⟩ := List.mem_map.mp hp
    obtain ⟨o, es, ep, e, q⟩ := at_ b hb
    dsimp only
    rw [e]
    show o.data ≠ _
    rw [q]
    exact fun z => nomatch z
  · refine fin u s' hu' ⟨G.gens, G.drawn, G.os⟩ (fun b o hb e => G.keep b o (fun q => hb (q ▸ .head _)) (by rw [hmap]; exact fun q => hb (.tail _ q)) e) (fun b hb m hm => ?_) G.dict
    obtain ⟨o, es, ep, e, q, r⟩ := hm
    obtain ⟨sl, e'⟩ := G.frs (b, (s.heap.get? b).getD default) (List.mem_map.mpr ⟨b, hb, rfl⟩)
    dsimp only at e'
    rw [e] at e'
    exact ⟨_, es, ep, e', q, r⟩

/-- the word that is asked, and its stem -/
def Asks (word res : Str) : Prop := ∃ R0 f e, f ∈ forms ∧ e ∈ rootEnds ∧ 1 ≤ R0.length ∧ (∀ x ∈ R0, x ≠ 39) ∧ R0.length + f.length + 2 ≤ bigLine ∧ word = st (wd R0 (f.reverse ++ e)) ∧ res = st (wd R0 e)

theorem meth_callG {w : World} {A : Around} {s : Shared} {env : Env} {E : Value → Shared → Prop} {o : Expr} {name : Str} {apos pos : PySem.Pos} {es : List Expr} {T : Value → Shared → Prop} (hbase : attributeBase o name env (eval o env) = eval o env)
    (hst : (backTo pos (starEach es env)).all (fun x => !x.1) = true) (hlen : es.length < 8) (hline : (apos.endLine == pos.line) = true)
    (h : wpAny (model prog w) A (eval o env) (fun ov s₁ => ∀ pl, wpAny (model prog w) A (getMethod ov name pl) (fun fx s₂ => wpAny (model prog w) A (callWith pos fx.1 fx.2 (backTo pos (starEach es env)) []) T E s₂) E s₁) E s) :
    wpAny (model prog w) A (eval (.Call (.Attribute o name apos) es [] pos) env) T E s := by
  rw [arm_eval_Call, hbase]
  refine wpAny_bind (wpAny_mono h (fun ov s₁ h₁ => wpAny_bind (wpAny_standAt ?_)) fun _ _ e => e)
  have hform : methodCallForm (es.length + ([] : List Keyword).length) (backTo pos (starEach es env)) (backToKw pos (keywordEach [] env)) = true := by
    unfold methodCallForm
    rw [hst]
    show (true && true && decide (es.length + 0 + 0 < 30)) = true
    simp
    omega
  have hpos : methodCallPos true o env apos pos = pure pos := by unfold methodCallPos; simp [hline]
  unfold methodCall
  rw [hform]
  refine wpAny_bind (wpAny_holding (wpAny_mono (h₁ _) (fun fx s₂ h₂ => ?_) fun _ _ e => e))
  exact wpAny_bind (wpAny_of_eq hpos h₂)

/-- o.stemWord(arg) -/
theorem evalStem {w : World} {A : Around} {s : Shared} {K : Frag} {h : Heap} {k : Cls} {x d : Addr} {fas : List Addr} {env : Env} {E : Value → Shared → Prop} {Q : Value → Shared → Prop} {o arg : Expr} {apos pos : PySem.Pos} {word res : Str} {L : Addr} {m : Str → Option Value}
    (hbase : attributeBase o "stemWord" env (eval o env) = eval o env) (hst : (backTo pos (starEach [arg] env)).all (fun x => !x.1) = true) (hline : (apos.endLine == pos.line) = true)
    (he : starEach (arg :: []) env = (false, eval arg env) :: starEach [] env)
    (ho : ∀ T : Value → Shared → Prop, T (.ref x) s → wpAny (model prog w) A (eval o env) T E s)
    (ha : ∀ T : Value → Shared → Prop, (∀ t, T (.str word t) s) → wpAny (model prog w) A (eval arg env) T E s)
    (hw : Asks word res) (Z : Top0 w h K) (B : Frs A h s.heap fas) (F : Fr h L s.heap m)
    (hxo : s.heap.get? x = some (instObj (clsA k) d)) (hd : InstOk w.params s.heap d) (hdn : h.get? d = none) (hdf : d ∉ fas)
    (hdep : A.depth + 8 ≤ recursionLimit)
    (fin : ∀ t s', Same s s' → Kept (d :: fas) s.heap s'.heap → (∀ b ∈ fas, ∀ m, s.heap.Ns b m → s'.heap.Ns b m) → InstOk w.params s'.heap d → Q (.str res t) s') :
    wpAny (model prog w) A (eval (.Call (.Attribute o "stemWord" apos) [arg] [] pos) env) Q E s := by
  obtain ⟨R0, f, e, hf, he', h0, hno, hb, rfl, rfl⟩ := hw
  obtain ⟨fl, hfl, hD⟩ := hd
  obtain ⟨fl', hfl', hx⟩ := word_ex (n := 0) top_all k hf he' h0 hno hb hfl
  obtain ⟨es, n0, hde, D, nd⟩ := id hD
  have hmm : ∃ ps b, meths k .stemWord = some (ps, b) := by
    cases hx with
    | mthR hz _ _ => exact ⟨_, _, hz⟩
  obtain ⟨ps, b, hm⟩ := hmm
  obtain ⟨fn, qual, params, body, scope, kV, doc, pm, cdv, ct, oc, an, od, osl, nm, k1, k2, k3, k4, k5, k6⟩ := (Z.cls k).mth .stemWord ps b hm
  refine meth_callG hbase hst (by simp) hline (ho _ fun pl => ?_)
  have Xs := Z.X.keeps F.keep
  refine method_inst F Z.X ⟨hxo, rfl, rfl, hde⟩ (Z.cls k).hg k1 k2 (D.none (Mth.noFld .stemWord)) ?_
  dsimp only
  refine callWith_K Xs k3 (spliced_more (ha _ fun t => spliced_none ⟨Xs, wpAny_call ?_⟩) he) he rfl
  exact callM hx Z B F.keep hxo hD hdn hdf hdep k1 (us := [.str _ t]) ⟨rfl, trivial⟩ fun u s' hu hg hk hns hd' => by
    obtain ⟨t', rfl⟩ := of_str hu
    exact fin t' s' hg hk hns ⟨fl', hfl', hd'⟩
end Sb
end

section
open PySem PySem.W PyProof.Rows PySem.Calls PySem.Spec
set_option Elab.async false
set_option maxRecDepth 100000
set_option linter.constructorNameAsVariable false
set_option linter.unusedVariables false
namespace Sb
section
variable {prog' : Program} {w : World} {A : Around} {env : Env} {R : Result → Shared → Prop}
/-- a for-loop along a walker, by an invariant of one's own -/
theorem loopW {I : Addr} {fp : List Addr} {n : Nat} {P : Nat → Value → Prop} {St : Nat → Heap → Prop} {x : Str} {px : PySem.Pos} {body : List Stmt} (W : Walks prog' w A I fp [I] n P St) (ht : ∀ v, letOwnedTupleGo (.Name x px) (.ref I) v = pure ())
    (J : Nat → Shared → Prop) (hJ : ∀ i s, J i s → St i s.heap)
    (turn : ∀ i s v h' tk, i < n → J i s → P i v → St (i + 1) h' → Kept [I] s.heap h' →
      wpAny (model prog' w) A (assign (.Name x px) env v) (fun _ s₂ => wpAny (model prog' w) A (execs body env) (fun f s₃ => match f with
          | .next | .cont => J (i + 1) s₃
          | .brk => R (.ok .next) s₃
          | .ret v => R (.ok (.ret v)) s₃) (fun _ _ => False) s₂) (fun _ _ => False) { s with heap := h', toks := tk })
    (done : ∀ s h' tk, J n s → Kept [I] s.heap h' → R (.ok .next) { s with heap := h', toks := tk }) :
    ∀ (j i : Nat), i + j = n → ∀ s, J i s → codeAny (model prog' w) A (.forLoop (.Name x px) (.ref I) body [] env) R s
  | 0, i, hi, s, hs => by
    obtain rfl : i = n := by omega
    exact for_turn ht (W.done s _ _ (hJ _ _ hs) fun h' tk hk => wpAny_execs_nil (done s h' tk hs hk))
  | j + 1, i, hi, s, hs => by
    refine for_turn ht (W.item i s _ _ (by omega) (hJ _ _ hs) fun v h' tk hv hst hk => ?_)
    refine wpAny_mono (turn i s v h' tk (by omega) hs hv hst hk) (fun _ s₂ h₂ => wpAny_mono h₂ (fun f s₃ h₃ => ?_) fun _ _ q => q.elim) fun _ _ q => q.elim
    cases f with
    | next => exact loopW W ht J hJ turn done j (i + 1) (by omega) s₃ h₃
    | cont => exact loopW W ht J hJ turn done j (i + 1) (by omega) s₃ h₃
    | brk => exact h₃
    | ret v => exact h₃
end
section
variable {w : World} {A : Around} {env : Env} {E : Value → Shared → Prop} {s : Shared} {h : Heap} {L : Addr} {m : Str → Option Value}
theorem nameV {x : Str} {p : PySem.Pos} {v : Value} {T : Value → Shared → Prop} (F : Fr h env.locals s.heap m) (hk : env.scope.kind = .function) (hx : env.kindOf x = some .local) (hd : (x == ("__debug__" : Str)) = false) (hv : m x = some v) (q : T v s) :
    wpAny (model prog w) A (eval (.Name x p) env) T E s := wpAny_Name (wpAny_loadName_local hk hx F.ns hv q) hd
theorem subV {x k : Str} {p p' q' : PySem.Pos} {v : Value} {l : Addr} {its : List Value} {i : Int} {t : Tok} {T : Value → Shared → Prop} (F : Fr h env.locals s.heap m) (hk : env.scope.kind = .function) (hx : env.kindOf x = some .local) (hd : (x == ("__debug__" : Str)) = false)
    (hx' : env.kindOf k = some .local) (hd' : (k == ("__debug__" : Str)) = false) (hv : m x = some (.ref l)) (hv' : m k = some (.int i t)) (hl : s.heap.IsList l its.toArray) (h0 : 0 ≤ i) (h1 : i < 2 ^ 63) (hi : its[i.toNat]? = some v) (q : T v s) :
    wpAny (model prog w) A (eval (.Subscript (.Name x p) (.Name k p') q') env) T E s :=
  Subscript_ (nameV F hk hx hd hv (nameV F hk hx' hd' hv' (tail_any hl.typeIs slot_list_getitem.lookup (wpAny_getItem_list hl h0 h1 (by simpa using hi) q) rfl)))
end

/-- if stemmer.stemWord(words[k]) != roots[k]: return False -/
theorem turnIf {w : World} {A : Around} {s : Shared} {K : Frag} {h : Heap} {k : Cls} {x d : Addr} {fas : List Addr} {env : Env} {Q : Flow → Shared → Prop} {p1 p2 p3 p4 p5 p6 p7 p8 p9 p10 p11 : PySem.Pos} {body : List Stmt} {m : Str → Option Value}
    (hfn : env.scope.kind = .function) (l1 : env.kindOf "stemmer" = some .local) (l2 : env.kindOf "words" = some .local) (l3 : env.kindOf "roots" = some .local) (l4 : env.kindOf "k" = some .local)
    (hline : (p2.endLine == p6.line) = true) (Z : Top0 w h K) (B : Frs A h s.heap fas) (F : Fr h env.locals s.heap m) (hL : env.locals ∈ fas)
    {lw lr : Addr} {ws rs : List Value} {i : Int} {t tw tr : Tok} {word res : Str} (m1 : m "stemmer" = some (.ref x)) (m2 : m "words" = some (.ref lw)) (m3 : m "roots" = some (.ref lr)) (m4 : m "k" = some (.int i t))
    (i0 : 0 ≤ i) (i1 : i < 2 ^ 63) (hlw : s.heap.IsList lw ws.toArray) (hlr : s.heap.IsList lr rs.toArray) (hw : ws[i.toNat]? = some (.str word tw)) (hr : rs[i.toNat]? = some (.str res tr)) (ha : Asks word res)
    (hxo : s.heap.get? x = some (instObj (clsA k) d)) (hd : InstOk w.params s.heap d) (hdn : h.get? d = none) (hdf : d ∉ fas) (hlrn : lr ∉ d :: fas)
    (hdep : A.depth + 8 ≤ recursionLimit)
    (fin : ∀ s', Same s s' → Kept (d :: fas) s.heap s'.heap → (∀ b ∈ fas, ∀ m, s.heap.Ns b m → s'.heap.Ns b m) → InstOk w.params s'.heap d → Q .next s') :
    wpAny (model prog w) A (execs [.If (.Compare (.Call (.Attribute (.Name "stemmer" p1) "stemWord" p2) [.Subscript (.Name "words" p3) (.Name "k" p4) p5] [] p6) [.NotEq] [.Subscript (.Name "roots" p7) (.Name "k" p8) p9] p10) body [] p11] env) Q (fun _ _ => False) s := by
  refine wpAny_execs_cons (wpAny_If (wpAny_isTrue_Compare1 (evalStem (x := x) (word := word) (res := res) (L := env.locals) (m := m) rfl rfl hline rfl (fun T q => nameV F hfn l1 (by decide) m1 q) (fun T q => subV F hfn l2 (by decide) l4 (by decide) m2 m4 hlw i0 i1 hw (q tw)) ha Z B F hxo hd hdn hdf hdep fun t' s' hg hk hns hd' => ?_) rfl))
  have F' : Fr h env.locals s'.heap m := ⟨hns _ hL m F.ns, fun b o e => hk b o (fun hm => by
    rcases List.mem_cons.mp hm with q | q
    · rw [q, hdn] at e; cases e
    · rw [(B.ns b q).2] at e; cases e) (F.keep b o e), F.above⟩
  have hlr' : s'.heap.IsList lr rs.toArray := by
    obtain ⟨o, e, r⟩ := hlr
    exact ⟨o, hk _ _ hlrn e, r⟩
  refine subV F' hfn l3 (by decide) l4 (by decide) m3 m4 hlr' i0 i1 hr ?_
  refine ne_str ?_
  have : (res != res) = false := by simp
  rw [this]
  refine wpAny_truthy_bool ?_
  exact wpAny_execs_nil (wpAny_execs_nil (fin s' hg hk hns hd'))
end Sb
end

section
open PySem PySem.W PyProof.Rows PySem.Calls PySem.Spec
set_option Elab.async false
set_option maxRecDepth 100000
set_option linter.constructorNameAsVariable false
set_option linter.unusedVariables false
namespace Sb
theorem Top0.keeps {w : World} {h g : Heap} {K : Frag} (Z : Top0 w h K) (k : ∀ b o, h.get? b = some o → g.get? b = some o) : Top0 w g K := ⟨Z.X.keeps k, Z.T.keeps k, Z.sg, Z.cls⟩
def DOk (P : Params) (o : Obj) : Prop := ∃ es n fl, o = dictOf es n ∧ DR P es fl ∧ (fl.map (·.1)).Nodup ∧ GoodF fl
theorem DOk.inst {P : Params} {o : Obj} {hp : Heap} {d : Addr} (x : DOk P o) (e : hp.get? d = some o) : InstOk P hp d := by
  obtain ⟨es, n, fl, rfl, D, nd, g⟩ := x
  exact ⟨fl, g, es, n, e, D, nd⟩
theorem InstOk.obj {P : Params} {hp : Heap} {d : Addr} (x : InstOk P hp d) : ∃ o, hp.get? d = some o ∧ DOk P o := by
  obtain ⟨fl, g, es, n, e, D, nd⟩ := x
  exact ⟨_, e, es, n, fl, rfl, D, nd, g⟩

theorem elt1 {w : World} {A : Around} {s : Shared} {K : Frag} {g : Heap} {k : Cls} {x d L L' c I D : Addr} {env : Env} {oc od oL oI oC : Obj} {m mL m₂ : Str → Option Value} {ys : List Value} {word res : Str} {tw : Tok} {p1 p2 p3 p4 : PySem.Pos} {E T : Value → Shared → Prop}
    (Z : Top0 w g K) (hh : A.handled = none) (hfr : ∃ outer, A.frames = some outer ∧ ∀ e ∈ outer, e.scope.kind ≠ .module ∧ ∃ b, e.frame = some b ∧ b ∈ [L, L'])
    (hfn : env.scope.kind = .function) (hw : env.kindOf "word" = some .local) (hs : env.kindOf "self" = some .cell) (hc : env.cells.lookup ("self" : Str) = some c) (hoc : oc.data = .cell (some (.ref x)))
    (hgx : g.get? x = some (instObj (clsA k) d)) (hdep : A.depth + 8 ≤ recursionLimit) (hline : (p2.endLine == p4.line) = true) (ha : Asks word res)
    (F : Fr g L' s.heap m) (N : News g L' s.heap ((I, oI) :: (env.locals, oC) :: (D, LCg.lst ys) :: [(c, oc), (d, od), (L, oL)])) (off : LCg.Off3 I env.locals D [(c, oc), (d, od), (L, oL)])
    (hC : LCg.NsObj oC m₂) (hm : m₂ "word" = some (.str word tw)) (hod : DOk w.params od) (hoL : LCg.NsObj oL mL) (hdL : d ≠ L) (hcd : c ≠ d) (hcL : c ≠ L)
    (fin : ∀ t od' oL' h' tk, DOk w.params od' → LCg.NsObj oL' mL → Fr g L' h' m → News g L' h' ((I, oI) :: (env.locals, oC) :: (D, LCg.lst ys) :: [(c, oc), (d, od'), (L, oL')]) → T (.str res t) { s with heap := h', toks := tk }) :
    wpAny (model prog w) A (eval (.Call (.Attribute (.Name "self" p1) "stemWord" p2) [.Name "word" p3] [] p4) env) T E s := by
  have nI := N (I, oI) (.head _)
  have nC := N (env.locals, oC) (.tail _ (.head _))
  have nD := N (D, LCg.lst ys) (.tail _ (.tail _ (.head _)))
  have nc := N (c, oc) (.tail _ (.tail _ (.tail _ (.head _))))
  have nd := N (d, od) (.tail _ (.tail _ (.tail _ (.tail _ (.head _)))))
  have nL := N (L, oL) (.tail _ (.tail _ (.tail _ (.tail _ (.tail _ (.head _))))))
  obtain ⟨⟨o1, o2, o3⟩, ⟨o4, o5, o6⟩, ⟨o7, o8, o9⟩, _⟩ := off
  have B : Frs A g s.heap [L, L'] := by
    refine ⟨hh, hfr, fun b hb => ?_, by simpa using nL.2.1⟩
    rcases List.mem_cons.mp hb with rfl | hb
    · exact ⟨⟨mL, hoL.ns nL.1⟩, nL.2.2⟩
    · obtain rfl := List.mem_singleton.mp hb
      exact ⟨⟨m, F.ns⟩, Heap.get?_none_of_le F.above⟩
  refine evalStem (x := x) (word := word) (res := res) (L := L') (m := m) rfl rfl hline rfl (fun T q => wpAny_Name (wpAny_loadName_cell hfn hs hc ⟨_, nc.1, hoc⟩ q) (by decide)) (fun T q => wpAny_Name (wpAny_loadName_local hfn hw (hC.ns nC.1) hm (q tw)) (by decide)) ha Z B F (F.keep _ _ hgx) (hod.inst nd.1) nd.2.2 (by
    intro q
    rcases List.mem_cons.mp q with q | q
    · exact hdL q
    · exact nd.2.1 (List.mem_singleton.mp q)) hdep fun t s' hg hk hns hd' => ?_
  have F' : Fr g L' s'.heap m := ⟨hns L' (.tail _ (.head _)) m F.ns, fun b o e => hk b o (fun q => by
    rcases List.mem_cons.mp q with q | q
    · rw [q, nd.2.2] at e; cases e
    · rw [(B.ns b q).2] at e; cases e) (F.keep b o e), F.above⟩
  have keepN : ∀ a o, s.heap.get? a = some o → a ≠ L' → a ≠ d → a ≠ L → s'.heap.get? a = some o := fun a o e h1 h2 h3 => hk a o (fun q => by
    rcases List.mem_cons.mp q with q | q
    · exact h2 q
    · rcases List.mem_cons.mp q with q | q
      · exact h3 q
      · exact h1 (List.mem_singleton.mp q)) e
  obtain ⟨od', hd1, hd2⟩ := hd'.obj
  obtain ⟨oL', hL1, hL2⟩ := LCg.ns_obj (hns L (.head _) mL (hoL.ns nL.1))
  rw [hg.eq]
  refine fin t od' oL' s'.heap s'.toks hd2 hL2 F' fun p hp => ?_
  simp only [List.mem_cons, List.not_mem_nil, or_false] at hp
  rcases hp with rfl | rfl | rfl | rfl | rfl | rfl
  · exact ⟨keepN _ _ nI.1 nI.2.1 (Ne.symm o4) (Ne.symm o7), nI.2⟩
  · exact ⟨keepN _ _ nC.1 nC.2.1 (Ne.symm o5) (Ne.symm o8), nC.2⟩
  · exact ⟨keepN _ _ nD.1 nD.2.1 (Ne.symm o6) (Ne.symm o9), nD.2⟩
  · exact ⟨keepN _ _ nc.1 nc.2.1 hcd hcL, nc.2⟩
  · exact ⟨hd1, nd.2⟩
  · exact ⟨hL1, nL.2⟩
end Sb
end

section
open PySem PySem.W PyProof.Rows PySem.Calls PySem.Spec
set_option Elab.async false
set_option maxRecDepth 100000
set_option linter.constructorNameAsVariable false
set_option linter.unusedVariables false
namespace Sb
abbrev swD : Arguments × List Stmt × Scope := defIn2 2 23
abbrev swFd : FuncData := fd swD "stemWords" (q "BaseStemmer.stemWords") .none .none .none (.str (q "snowballstemmer.basestemmer") 194) none (.ref 193) .none

/-- the shape of the body of stemWords -/
theorem sw_body : ∃ p1 p2 p3 p4 p5 p6 p7 p8, swD.2.1 = [.Return (some (.ListComp (.Call (.Attribute (.Name "self" p1) "stemWord" p2) [.Name "word" p3] [] p4) [⟨.Name "word" p5, .Name "words" p6, [], 0⟩] ⟨.function, [(q ".0", .local), (q "word", .local), (q "self", .free)], false, false, []⟩ p7)) p8] ∧ (p2.endLine == p4.line) = true :=
  ⟨_, _, _, _, _, _, _, _, rfl, rfl⟩
set_option maxHeartbeats 1000000 in
theorem callWords {w : World} {A : Around} {s : Shared} {K : Frag} {h : Heap} {k : Cls} {x d L : Addr} {dl : Addr} {w1 w2 r1 r2 : Str} {t1 t2 : Tok} {R : Result → Shared → Prop}
    (Z : Top0 w h K) (B : Frs A h s.heap [L]) (keep : ∀ b o, h.get? b = some o → s.heap.get? b = some o) (hxo : s.heap.get? x = some (instObj (clsA k) d)) (hd : InstOk w.params s.heap d) (hdn : h.get? d = none) (hdL : d ≠ L)
    (hdep : A.depth + 9 ≤ recursionLimit) (hl : s.heap.IsList dl [Value.str w1 t1, .str w2 t2].toArray) (hdl : dl ∉ [d, L]) (a1 : Asks w1 r1) (a2 : Asks w2 r2)
    (ho : K.lookup 194 = some (o194 w.params)) (hcode : codeIn K (.ref 193) (q "BaseStemmer.stemWords") = true)
    (fin : ∀ D ta tb s', Same s s' → Kept [d, L] s.heap s'.heap → (∀ m, s.heap.Ns L m → s'.heap.Ns L m) → InstOk w.params s'.heap d → s'.heap.get? D = some (LCg.lst [.str r1 ta, .str r2 tb]) → s.heap.get? D = none → D ≠ L → D ≠ d → R (.ok (.ret (.ref D))) s') :
    codeAny (model prog w) A (.call (.ref 194) ⟨[.ref x, .ref dl], []⟩) R s := by
  obtain ⟨hh, ⟨outer, hfr, hout⟩, hns, hnd⟩ := B
  obtain ⟨⟨mL, hmL⟩, hLn⟩ := hns L (.head _)
  obtain ⟨oL, hoL, hLo⟩ := LCg.ns_obj hmL
  obtain ⟨od, hdo, hod⟩ := hd.obj
  have Xs : K.In s.heap := Z.X.keeps keep
  let g := hide s.heap [d, L]
  have hkg : ∀ b o, h.get? b = some o → g.get? b = some o := fun b o e => hide_some.mpr ⟨fun q => (by
    rcases List.mem_cons.mp q with q | q
    · rw [q, hdn] at e; cases e
    · rw [List.mem_singleton.mp q, hLn] at e; cases e), keep b o e⟩
  have hgs : ∀ b o, g.get? b = some o → s.heap.get? b = some o := fun b o e => (hide_some.mp e).2
  have hxn : x ∉ [d, L] := fun q => by
    rcases List.mem_cons.mp q with q | q
    · rw [q] at hxo; rw [hdo] at hxo; obtain ⟨es, n, fl, rfl, _⟩ := hod; cases hxo
    · rw [List.mem_singleton.mp q] at hxo; rw [hoL] at hxo; cases hxo; obtain ⟨es, ep, z, _⟩ := hLo; cases z
  have hgx : g.get? x = some (instObj (clsA k) d) := hide_some.mpr ⟨hxn, hxo⟩
  have hgd : g.get? d = none := by show (hide s.heap [d, L]).get? d = none; rw [hide_get, if_pos (.head _)]
  have hgL : g.get? L = none := by show (hide s.heap [d, L]).get? L = none; rw [hide_get, if_pos (.tail _ (.head _))]
  refine codeAny_call_cells (fd := swFd) (body := swD.2.1) (binds := [(q "self", .ref x), (q "words", .ref dl)]) (by omega) (Xs _ _ ho) rfl (Z.T.nolimit.keeps keep) (codeRec_of Xs hcode) rfl rfl rfl (fun y hy => ?_) (fun s₁ X => ?_) rfl rfl rfl
  · rcases List.mem_cons.mp hy with rfl | hy
    · exact .inr ⟨rfl, rfl⟩
    · obtain rfl := List.mem_singleton.mp hy
      exact .inl rfl
  obtain ⟨h₁, tk, rfl, hk1⟩ := X.done
  have hns1 := X.toInCall.ns
  have hc1 := X.cell (q "self") (s.heap.objs.size + 1) rfl
  have hL'c : s.heap.objs.size < s.heap.objs.size + 1 := Nat.lt_succ_self _
  obtain ⟨oc, hoc, hocd⟩ := hc1
  have hLs : L < s.heap.objs.size := Heap.lt_size hoL
  have hds : d < s.heap.objs.size := Heap.lt_size hdo
  have gsz : g.objs.size = s.heap.objs.size := hide_size ..
  have F : Fr g s.heap.objs.size h₁ (fun y => if y = q "words" then some (.ref dl) else none) := by
    refine ⟨?_, fun b o e => hk1 b o (hgs b o e), by rw [gsz]; exact Nat.le_refl _⟩
    exact hns1
  have N : News g s.heap.objs.size h₁ [(s.heap.objs.size + 1, oc), (d, od), (L, oL)] := fun p hp => by
    simp only [List.mem_cons, List.not_mem_nil, or_false] at hp
    rcases hp with rfl | rfl | rfl
    · exact ⟨hoc, Nat.ne_of_gt hL'c, Heap.get?_none_of_le (by rw [gsz]; exact Nat.le_succ _)⟩
    · exact ⟨hk1 _ _ hdo, Nat.ne_of_lt hds, hgd⟩
    · exact ⟨hk1 _ _ hoL, Nat.ne_of_lt hLs, hgL⟩
  obtain ⟨p1, p2, p3, p4, p5, p6, p7, p8, hb, hline⟩ := sw_body
  rw [hb]
  clear hb
  have hA' : ∃ outer', (A.deeper (callEnvC swFd s.heap.objs.size 194)).frames = some outer' ∧ ∀ e ∈ outer', e.scope.kind ≠ .module ∧ ∃ b, e.frame = some b ∧ b ∈ [L, s.heap.objs.size] := by
    refine ⟨_, Around.frames_deeper hfr, fun e he => ?_⟩
    rcases List.mem_cons.mp he with rfl | he
    · exact ⟨by show ScopeKind.function ≠ .module; decide, _, rfl, .tail _ (.head _)⟩
    · obtain ⟨z1, b, z2, z3⟩ := hout e he
      exact ⟨z1, b, z2, by rw [List.mem_singleton.mp z3]; exact .head _⟩
  have hlg : g.IsList dl [Value.str w1 t1, .str w2 t2].toArray := by
    obtain ⟨o, e, r⟩ := hl
    exact ⟨o, hide_some.mpr ⟨hdl, e⟩, r⟩
  have turn : ∀ (word res : Str) (tw : Tok) (C I D : Addr) (oI oC od oL : Obj) (m₂ : Str → Option Value) (ys : List Value) (hh' : Heap) (tk' : Nat) (T E : Value → Shared → Prop), Asks word res →
      LCg.NsObj oC m₂ → m₂ "word" = some (.str word tw) → Fr g s.heap.objs.size hh' (fun y => if y = q "words" then some (.ref dl) else none) →
      News g s.heap.objs.size hh' ((I, oI) :: (C, oC) :: (D, LCg.lst ys) :: [(s.heap.objs.size + 1, oc), (d, od), (L, oL)]) → LCg.Off3 I C D [(s.heap.objs.size + 1, oc), (d, od), (L, oL)] → DOk w.params od → LCg.NsObj oL mL →
      (∀ t od' oL' h' tk, DOk w.params od' → LCg.NsObj oL' mL → Fr g s.heap.objs.size h' (fun y => if y = q "words" then some (.ref dl) else none) → News g s.heap.objs.size h' ((I, oI) :: (C, oC) :: (D, LCg.lst ys) :: [(s.heap.objs.size + 1, oc), (d, od'), (L, oL')]) → T (.str res t) { s with heap := h', toks := tk }) →
      wpAny (model prog w) (A.deeper (callEnvC swFd s.heap.objs.size 194)) (eval (.Call (.Attribute (.Name "self" p1) "stemWord" p2) [.Name "word" p3] [] p4) (compEnvC ⟨.function, [(q ".0", .local), (q "word", .local), (q "self", .free)], false, false, []⟩ [(q "self", s.heap.objs.size + 1)] C (callEnvC swFd s.heap.objs.size 194))) T E { s with heap := hh', toks := tk' } := by
    intro word res tw C I D oI oC od oL m₂ ys hh' tk' T E ha hC hm F N off hod hoL fin
    exact elt1 (L' := s.heap.objs.size) (m := fun y => if y = q "words" then some (.ref dl) else none) (Z.keeps hkg) hh hA' rfl rfl rfl rfl hocd hgx (by show A.depth + 1 + 8 ≤ _; omega) hline ha F N off hC hm hod hoL hdL (Nat.ne_of_gt (Nat.lt_succ_of_lt hds)) (Nat.ne_of_gt (Nat.lt_succ_of_lt hLs)) fin
  refine wpAny_execs_cons (wpAny_Return_some (LCg.ListComp_U (cl := [(q "self", s.heap.objs.size + 1)]) F rfl (by decide) rfl (by decide) rfl (nameV F rfl rfl (by decide) rfl (LCg.CompSrc.base hh F N hlg (by show 2 ≤ sizeLine; decide) fun g' => ?_)) (by intro _; rfl)))
  refine LCg.CompRest.succ fun v I oI C oC D m₂ hh' tk' E' hv hC hx F1 N1 off ne => ?_
  obtain rfl : v = .str w1 t1 := by simpa using hv.symm
  refine turn w1 r1 t1 C I D oI oC od oL m₂ [] hh' tk' _ _ a1 hC hx F1 N1 off hod hLo fun ta od1 oL1 h2 tk2 hod1 hoL1 F2 N2 => ?_
  refine ⟨h2, tk2, _, rfl, F2, N2, off, .inl hlg, ?_⟩
  refine LCg.CompRest.succ fun v I oI C oC D m₂ hh' tk' E' hv hC hx F1 N1 off ne => ?_
  obtain rfl : v = .str w2 t2 := by simpa using hv.symm
  refine turn w2 r2 t2 C I D oI oC od1 oL1 m₂ _ hh' tk' _ _ a2 hC hx F1 N1 off hod1 hoL1 fun tb od2 oL2 h3 tk3 hod2 hoL2 F3 N3 => ?_
  refine ⟨h3, tk3, _, rfl, F3, N3, off, .inl hlg, ?_⟩
  refine LCg.CompRest.zero ?_
  intro D h4 tk4 F4 N4 o4
  obtain ⟨q1, q2, q3, _⟩ := o4
  have nD := N4 _ (.head _)
  have nd := N4 (d, od2) (.tail _ (.tail _ (.head _)))
  have nL := N4 (L, oL2) (.tail _ (.tail _ (.tail _ (.head _))))
  refine fin D ta tb _ ⟨rfl, rfl, rfl⟩ (fun b o hb e => F4.keep b o (hide_some.mpr ⟨hb, e⟩)) (fun m hm => ?_) (hod2.inst nd.1) nD.1 ?_ (Ne.symm q3) (Ne.symm q2)
  · have e := hoL2.ns nL.1
    obtain ⟨o, es, ep, h1, h2, h3, h4⟩ := hm
    obtain ⟨o', es', ep', h1', h2', h3', h4'⟩ := hmL
    rw [h1] at h1'
    cases h1'
    rw [h2] at h2'
    cases h2'
    obtain ⟨o5, es5, ep5, g1, g2, g3, g4⟩ := e
    exact ⟨o5, es5, ep5, g1, g2, g3, fun name => by rw [g4, ← h4', h4]⟩
  · cases e : s.heap.get? D with
    | none => rfl
    | some o =>
      have : g.get? D = some o := hide_some.mpr ⟨fun q => by
        rcases List.mem_cons.mp q with q | q
        · exact q2 q.symm
        · exact q3 (List.mem_singleton.mp q).symm, e⟩
      rw [nD.2.2] at this
      cases this
end Sb
end

section
open PySem PySem.W PyProof.Rows PySem.Calls PySem.Spec
set_option Elab.async false
set_option maxRecDepth 100000
set_option linter.constructorNameAsVariable false
set_option linter.unusedVariables false
namespace Sb
theorem frames_make (A : Around) (a : Args) : (A.under (.builtin "type.__call__" a)).frames = A.frames := by
  show pushEnvs [] A.frames = A.frames
  cases A.frames <;> rfl
theorem meths_base (k : Cls) : Base (meths k) := base_of_meths k
theorem makeStem {w : World} {A : Around} {s : Shared} {K : Frag} {h : Heap} {k : Cls} {L : Addr} {m : Str → Option Value} {news : List (Addr × Obj)} {Q E : Value → Shared → Prop}
    (Z : Top0 w h K) (B : Frs A h s.heap [L]) (F : Fr h L s.heap m) (N : News h L s.heap news) (hmk : makesIn K (clsA k) = true) (hi : findIn K (.ref (clsA k)) "__init__" = some (some (.ref 35))) (hf : typeIn K (.ref 35) = some (.type "function"))
    (hdep : A.depth + 3 ≤ recursionLimit)
    (fin : ∀ x d s', Same s s' → Fr h L s'.heap m → News h L s'.heap ((x, instObj (clsA k) d) :: news) → InstOk w.params s'.heap d → @Ne Nat d L → h.get? d = none → (∀ p ∈ news, p.1 < d) → d < x → Q (.ref x) s') :
    wpAny (model prog w) A (call (.ref (clsA k)) []) Q E s := by
  refine wpAny_call (make_K F N (Z.X.keeps F.keep) hmk hi hf fun x d h' F' N' l1 l2 => ?_)
  have nx := N' _ (.head _)
  have nd := N' _ (.tail _ (.head _))
  obtain ⟨hh, ⟨outer, hfr, hout⟩, hns, hnd⟩ := B
  have B' : Frs (A.under (.builtin "type.__call__" ⟨.ref (clsA k) :: [], []⟩)) h h' [L] := by
    refine ⟨hh, ⟨outer, by rw [frames_make]; exact hfr, hout⟩, fun b hb => ?_, hnd⟩
    obtain rfl := List.mem_singleton.mp hb
    exact ⟨⟨m, F'.ns⟩, (hns b hb).2⟩
  refine callM (s := { s with heap := h' }) (x := x) (d := d) (init_ex (n := 0) (meths_base k)) Z B' F'.keep nx.1 (fl := []) ⟨[], 0, nd.1, trivial, .nil⟩ nd.2.2 (by simpa using nd.2.1) (by show A.depth + 1 + 2 ≤ _; omega) (m := .init) hi (us := []) trivial fun u s' hu hg hk hns' hd' => ?_
  obtain rfl := of_none hu
  refine ⟨rfl, fin x d s' ⟨hg.gens, hg.drawn, hg.os⟩ ⟨hns' L (.head _) m F'.ns, fun b o e => hk b o (fun q => by
    rcases List.mem_cons.mp q with q | q
    · rw [q, nd.2.2] at e; cases e
    · rw [List.mem_singleton.mp q, (hns L (.head _)).2] at e; cases e) (F'.keep b o e), F'.above⟩ (fun p hp => ?_) ⟨_, .six [] 0 0 0 0 0, hd'⟩ nd.2.1 nd.2.2 l1 l2⟩
  have no : ∀ p : Addr × Obj, p.1 ≠ d → p.1 ≠ L → p.1 ∉ [d, L] := fun p h1 h2 q => by
    rcases List.mem_cons.mp q with q | q
    · exact h1 q
    · exact h2 (List.mem_singleton.mp q)
  rcases List.mem_cons.mp hp with rfl | hp
  · exact ⟨hk _ _ (no _ (Nat.ne_of_gt l2) nx.2.1) nx.1, nx.2⟩
  · have z := N' p (.tail _ (.tail _ hp))
    exact ⟨hk _ _ (no _ (Nat.ne_of_lt (l1 p hp)) z.2.1) z.1, z.2⟩
end Sb
end

section
open PySem PySem.W PyProof.Rows PySem.Calls PySem.Spec
set_option Elab.async false
set_option maxRecDepth 100000
set_option linter.constructorNameAsVariable false
set_option linter.unusedVariables false
namespace Sb
/-- the top, for making and calling -/
structure Top1 (w : World) (h : Heap) (K : Frag) : Prop extends Top0 w h K where
  mks : ∀ k : Cls, makesIn K (clsA k) = true ∧ findIn K (.ref (clsA k)) "__init__" = some (some (.ref 35)) ∧ nsIn K mainGlobals k.name = some (some (.ref (clsA k))) ∧ keepIn K (.ref (clsA k)) = true ∧ findIn K (.ref (clsA k)) "stemWords" = some (some (.ref 194))
  fn : typeIn K (.ref 35) = some (.type "function") ∧ isFn K (.ref 194) = true ∧ keepIn K (.ref 194) = true ∧ K.lookup 194 = some (o194 w.params) ∧ codeIn K (.ref 193) (q "BaseStemmer.stemWords") = true
theorem mk_all (P : Params) (d0 d1 d2 d3 d4 d5 d6 d7 : SD) (k : Cls) : makesIn (KS P d0 d1 d2 d3 d4 d5 d6 d7) (clsA k) = true ∧ findIn (KS P d0 d1 d2 d3 d4 d5 d6 d7) (.ref (clsA k)) "__init__" = some (some (.ref 35)) ∧ nsIn (KS P d0 d1 d2 d3 d4 d5 d6 d7) mainGlobals k.name = some (some (.ref (clsA k))) ∧ keepIn (KS P d0 d1 d2 d3 d4 d5 d6 d7) (.ref (clsA k)) = true ∧ findIn (KS P d0 d1 d2 d3 d4 d5 d6 d7) (.ref (clsA k)) "stemWords" = some (some (.ref 194)) := by
  cases k <;> exact ⟨by kernel_rfl, by kernel_rfl, by kernel_rfl, by kernel_rfl, by kernel_rfl⟩
theorem mk_fn (P : Params) (d0 d1 d2 d3 d4 d5 d6 d7 : SD) : typeIn (KS P d0 d1 d2 d3 d4 d5 d6 d7) (.ref 35) = some (.type "function") ∧ isFn (KS P d0 d1 d2 d3 d4 d5 d6 d7) (.ref 194) = true ∧ keepIn (KS P d0 d1 d2 d3 d4 d5 d6 d7) (.ref 194) = true ∧ (KS P d0 d1 d2 d3 d4 d5 d6 d7).lookup 194 = some (o194 P) ∧ codeIn (KS P d0 d1 d2 d3 d4 d5 d6 d7) (.ref 193) (q "BaseStemmer.stemWords") = true :=
  ⟨by kernel_rfl, by kernel_rfl, by kernel_rfl, by kernel_rfl, by kernel_rfl⟩
theorem top1_of {w : World} {h : Heap} {d0 d1 d2 d3 d4 d5 d6 d7 : SD} (hS : Sets w d0 d1 d2 d3 d4 d5 d6 d7) (X : (KS w.params d0 d1 d2 d3 d4 d5 d6 d7).In h) (T : TopRead prg (looseOf w.params) (mgOf w.params) (mbOf w.params) h) :
    Top1 w h (KS w.params d0 d1 d2 d3 d4 d5 d6 d7) := ⟨top0_of hS X T, fun k => mk_all .., mk_fn ..⟩
/-- the frames of a call of law -/
structure LawA (A : Around) (L : Addr) : Prop where
  hh : A.handled = none
  ex : ∃ outer, A.frames = some outer ∧ ∀ e ∈ outer, e.scope.kind ≠ .module ∧ ∃ b, e.frame = some b ∧ b ∈ [L]
  dep : A.depth + 9 ≤ recursionLimit
theorem LawA.frs {A : Around} {h hp : Heap} {L : Addr} {m : Str → Option Value} (x : LawA A L) (F : Fr h L hp m) : Frs A h hp [L] := ⟨x.hh, x.ex, fun b hb => by
  obtain rfl := List.mem_singleton.mp hb
  exact ⟨⟨m, F.ns⟩, Heap.get?_none_of_le F.above⟩, by simp⟩

section
variable {w : World} {A : Around} {s : Shared} {K : Frag} {h : Heap} {L a : Addr} {m : Str → Option Value} {cn : Str} {cs : Scope} {ccd : Value} {cl : List (Str × Addr)} {news : List (Addr × Obj)} {Q E : Value → Shared → Prop}
theorem mk1 (k : Cls) {p1 p2 : PySem.Pos} (Z : Top1 w h K) (LA : LawA A L) (F : Fr h L s.heap m) (N : News h L s.heap news) (hk : cs.kind = .function) (hx : (envX cn cs L a ccd cl).kindOf k.name = some .globalImplicit)
    (fin : ∀ x d o s', Same s s' → Fr h L s'.heap m → News h L s'.heap ((d, o) :: (x, instObj (clsA k) d) :: news) → DOk w.params o → (∀ p ∈ news, p.1 < d) → d < x → Q (.ref x) s') :
    wpAny (model prog w) A (eval (.Call (.Name k.name p1) [] [] p2) (envX cn cs L a ccd cl)) Q E s := by
  obtain ⟨m1, m2, m3, m4, _⟩ := Z.mks k
  refine wpAny_Call_Name_kw (nameX_K F Z.X Z.T m3 ?_ hk hx k.noDebug)
  refine callWith_K0 (Z.X.keeps F.keep) m4 ?_
  refine makeStem Z.toTop0 (LA.frs F) F N m1 m2 Z.fn.1 (by have := LA.dep; omega) fun x d s' hg F' N' hd hdL hdn l1 l2 => ?_
  obtain ⟨o, ho, hok⟩ := hd.obj
  refine fin x d o s' hg F' (fun p hp => ?_) hok l1 l2
  rcases List.mem_cons.mp hp with rfl | hp
  · exact ⟨ho, hdL, hdn⟩
  · exact N' p hp
abbrev tupO (vs : List Value) : Obj := { cls := .type "tuple", data := .seq vs.toArray }
theorem tup3 {p1 p2 p3 p4 p5 p6 p7 : PySem.Pos} {c0 : Nat} (Z : Top1 w h K) (LA : LawA A L) (F : Fr h L s.heap m) (N : News h L s.heap news) (hk : cs.kind = .function) (hx : ∀ k : Cls, (envX cn cs L a ccd cl).kindOf k.name = some .globalImplicit)
    (fin : ∀ t x1 d1 o1 x2 d2 o2 x3 d3 o3 s', Same s s' → Fr h L s'.heap m →
      News h L s'.heap ((t, tupO [.ref x1, .ref x2, .ref x3]) :: (d3, o3) :: (x3, instObj (clsA .sv) d3) :: (d2, o2) :: (x2, instObj (clsA .no) d2) :: (d1, o1) :: (x1, instObj (clsA .da) d1) :: news) →
      DOk w.params o1 → DOk w.params o2 → DOk w.params o3 → (∀ p ∈ news, p.1 < d1) → d1 < x1 → x1 < d2 → d2 < x2 → x2 < d3 → d3 < x3 → x3 < t → Q (.ref t) s') :
    wpAny (model prog w) A (eval (.Tuple [.Call (.Name "DanishStemmer" p1) [] [] p2, .Call (.Name "NorwegianStemmer" p3) [] [] p4, .Call (.Name "SwedishStemmer" p5) [] [] p6] c0 p7) (envX cn cs L a ccd cl)) Q E s := by
  refine wpAny_Tuple_spliced ?_
  refine spliced_more (mk1 .da Z LA F N hk (hx .da) fun x1 d1 o1 s1 g1 F1 N1 k1 l1 l1' => ?_)
  refine spliced_more (mk1 .no Z LA F1 N1 hk (hx .no) fun x2 d2 o2 s2 g2 F2 N2 k2 l2 l2' => ?_)
  refine spliced_more (mk1 .sv Z LA F2 N2 hk (hx .sv) fun x3 d3 o3 s3 g3 F3 N3 k3 l3 l3' => ?_)
  refine spliced_none ⟨by show 3 ≤ sizeLine; decide, ?_⟩
  have ht : ∀ p ∈ ((d3, o3) :: (x3, instObj (clsA .sv) d3) :: (d2, o2) :: (x2, instObj (clsA .no) d2) :: (d1, o1) :: (x1, instObj (clsA .da) d1) :: news), p.1 < s3.heap.objs.size := fun p hp => Heap.lt_size (N3 p hp).1
  refine fin s3.heap.objs.size x1 d1 o1 x2 d2 o2 x3 d3 o3 _ ((g1.trans (g2.trans g3)).trans ⟨rfl, rfl, rfl⟩) (F3.push _) (News.push F3 N3 _) k1 k2 k3 l1 l1' (l2 _ (.tail _ (.head _))) l2' (l3 _ (.tail _ (.head _))) l3' (ht _ (.tail _ (.head _)))
end
end Sb
end

section
open PySem PySem.W PyProof.Rows PySem.Calls PySem.Spec
set_option Elab.async false
set_option maxRecDepth 100000
set_option linter.constructorNameAsVariable false
set_option linter.unusedVariables false
set_option linter.unusedSimpArgs false
namespace Sb
local macro_rules | `(tactic| walk_at "CompSrc") => `(tactic| (k_here; k_dflt (refine LCg.CompSrc.range (by rfl) (by k_asm) (by k_asm) (by assumption) (by first | decide | rfl) (by first | rfl | decide) (by first | size_fits | exact Nat.le_of_ble_eq_true rfl) ?_; intro g'; lcg_lit)))
local macro_rules | `(tactic| walk_at "inplaceOp Add ref") => `(tactic| (k_here; (with_reducible show wpAny _ _ (inplaceOp Operator.Add (Value.ref _) (Value.ref _)) _ _ _); k_dflt (refine' iadd_L ?F ?N ?b ?e ?ne ?U ?z ?_; (case F => k_asm); (case N => k_asm); (case b => k_mem); (case e => rfl); (case U => k_upd); (case ne => kl_some); (case z => (simp only [List.size_toArray, List.length_cons, List.length_nil]; omega))); kl_rest))

abbrev stBody : List Stmt := forBody (nthS 8 lawBody)
def ifTest : Stmt → Expr
  | .If t _ _ _ => t
  | _ => default
def cmpL : Expr → Expr
  | .Compare l _ _ _ => l
  | e => e
def cmpR : Expr → Expr
  | .Compare _ _ (r :: _) _ => r
  | e => e
def callA : Expr → Expr
  | .Call _ (a :: _) _ _ => a
  | e => e

set_option maxHeartbeats 0 in
theorem itk : ∀ (w : World) (s : Shared) (h : Heap) (L : Addr) (X : (KL w.params).In h) (T : TopRead prg (looseOf w.params) (mgOf w.params) (mbOf w.params) h) (m : Str → Option Value)
   
   (F : Fr h L s.heap (m)) (N0 : News h L s.heap []) (K0 : Below callerA h [] h)
   (Q : Value → Shared → Prop) (row : PySem.Challenge.rw_bi0025_01 = PySem.Challenge.rw_bi0025_01)
   (hQ : ∀ (rr : Addr) (h' : Heap) (tk : Nat) (t u v : Tok), IsRange h' rr 0 6 1 t u v → Fr h L h' m → (∀ b o, s.heap.get? b = some o → h'.get? b = some o) → Q (.ref rr) { s with heap := h', toks := tk }),
   Goes (model prg w) (callerA.deeper (lawEnv L)) (eval (forIter (nthS 0 stBody)) (lawEnv L)) Q (fun _ _ => False) s := by
  k_fill
  intro w s h L X T m  F N0 K0 Q row
  clear row
  have e27 : (forIter (nthS 0 stBody)) = .Call _ _ _ _ := rfl
  have e28 : lawSc = ⟨_, _, _, _, _⟩ := rfl
  unfold lawEnv
  rw [e27, e28]
  clear e27 e28
  intro hQ
  refine Goes.mk ?_
  k_steps
  rename ∀ b o, _ → _ => hk
  rename Fr _ _ _ _ => F'
  rename IsRange _ _ _ _ _ _ _ _ => R'
  exact hQ _ _ _ _ _ _ R' F' hk

set_option maxHeartbeats 0 in
theorem itw : ∀ (w : World) (s : Shared) (h : Heap) (L : Addr) (X : (KL w.params).In h) (T : TopRead prg (looseOf w.params) (mgOf w.params) (mbOf w.params) h) (m : Str → Option Value)
   (news : List (Addr × Obj)) (lx : Addr) (v0 v1 v2 v3 v4 v5 : Value) (nv : Nat)
   (F : Fr h L s.heap (fun y => if y = "words" then some (.ref lx) else m y)) (N0 : News h L s.heap ((lx, W.listOf [v0, v1, v2, v3, v4, v5].toArray nv) :: news)) (K0 : Below callerA h [] h)
   (Q : Value → Shared → Prop) (row : PySem.Challenge.rw_bi0025_01 = PySem.Challenge.rw_bi0025_01)
   (hQ : ∀ (dl : Addr) (h' : Heap) (tk : Nat), Fr h L h' (fun y => if y = "words" then some (.ref lx) else m y) → News h L h' ((dl, W.listOf #[v1, v2] 0) :: (lx, W.listOf [v0, v1, v2, v3, v4, v5].toArray nv) :: news) → Q (.ref dl) { s with heap := h', toks := tk }),
   Goes (model prg w) (callerA.deeper (lawEnv L)) (eval (callA (cmpL (ifTest (nthS 1 stBody)))) (lawEnv L)) Q (fun _ _ => False) s := by
  k_fill
  intro w s h L X T m news lx v0 v1 v2 v3 v4 v5 nv F N0 K0 Q row
  clear row
  have e27 : (callA (cmpL (ifTest (nthS 1 stBody)))) = .Subscript (.Name _ _) (.Slice _ _ _ _) _ := rfl
  have e28 : lawSc = ⟨_, _, _, _, _⟩ := rfl
  unfold lawEnv
  rw [e27, e28]
  clear e27 e28
  intro hQ
  refine Goes.mk ?_
  k_steps
  rename Fr _ _ _ _ => F'
  rename News _ _ _ _ => N'
  exact hQ _ _ _ F' N'

set_option maxHeartbeats 0 in
theorem itr : ∀ (w : World) (s : Shared) (h : Heap) (L : Addr) (X : (KL w.params).In h) (T : TopRead prg (looseOf w.params) (mgOf w.params) (mbOf w.params) h) (m : Str → Option Value)
   (news : List (Addr × Obj)) (lx : Addr) (v0 v1 v2 v3 v4 v5 : Value) (nv : Nat)
   (F : Fr h L s.heap (fun y => if y = "roots" then some (.ref lx) else m y)) (N0 : News h L s.heap ((lx, W.listOf [v0, v1, v2, v3, v4, v5].toArray nv) :: news)) (K0 : Below callerA h [] h)
   (Q : Value → Shared → Prop) (row : PySem.Challenge.rw_bi0025_01 = PySem.Challenge.rw_bi0025_01)
   (hQ : ∀ (dl : Addr) (h' : Heap) (tk : Nat), Fr h L h' (fun y => if y = "roots" then some (.ref lx) else m y) → News h L h' ((dl, W.listOf #[v1, v2] 0) :: (lx, W.listOf [v0, v1, v2, v3, v4, v5].toArray nv) :: news) → Q (.ref dl) { s with heap := h', toks := tk }),
   Goes (model prg w) (callerA.deeper (lawEnv L)) (eval (cmpR (ifTest (nthS 1 stBody))) (lawEnv L)) Q (fun _ _ => False) s := by
  k_fill
  intro w s h L X T m news lx v0 v1 v2 v3 v4 v5 nv F N0 K0 Q row
  clear row
  have e27 : (cmpR (ifTest (nthS 1 stBody))) = .Subscript (.Name _ _) (.Slice _ _ _ _) _ := rfl
  have e28 : lawSc = ⟨_, _, _, _, _⟩ := rfl
  unfold lawEnv
  rw [e27, e28]
  clear e27 e28
  intro hQ
  refine Goes.mk ?_
  k_steps
  rename Fr _ _ _ _ => F'
  rename News _ _ _ _ => N'
  exact hQ _ _ _ F' N'

end Sb
end

section
open PySem PySem.W PyProof.Rows PySem.Calls PySem.Spec
set_option Elab.async false
set_option maxRecDepth 100000
set_option linter.constructorNameAsVariable false
set_option linter.unusedVariables false
namespace Sb
section
variable {w : World} {A : Around} {E : Value → Shared → Prop} {s : Shared}
theorem ne_texts {ld le : Addr} {a b : Str} {ta tb tc td : Tok} {Q : Value → Shared → Prop} (hd : s.heap.IsList ld [Value.str a ta, .str b tb].toArray) (he : s.heap.IsList le [Value.str a tc, .str b td].toArray) (hu : A.units + 64 < cLine) (sa : PyData.strOk a = true) (sb : PyData.strOk b = true) (h : Q (.bool false) s) :
    wpAny (model prog w) A (compareOp .NotEq (.ref ld) (.ref le)) Q E s := by
  have c1 : CarriedAll [Value.str a ta, .str b tb] [PyData.str a, PyData.str b] := .cons (.str a ta) (.cons (.str b tb) .nil)
  have c2 : CarriedAll [Value.str a tc, .str b td] [PyData.str a, PyData.str b] := .cons (.str a tc) (.cons (.str b td) .nil)
  have sh : SeqAt.shaped (.list [PyData.str a, PyData.str b]) = true := by
    simp [SeqAt.shaped, PyData.canLay0, PyData.canLayAll0, PyData.depth, PyData.depthAll, sa, sb]
  refine ne_dataH (reads_newData hd c1) (reads_newData he c2) sh sh hu ?_
  have : PyData.eqv (.list [PyData.str a, PyData.str b]) (.list [PyData.str a, PyData.str b]) = true := by
    simp [PyData.eqv, PyData.eqvAll]
  rw [this]
  exact h
end
/-- the frame of the stage -/
abbrev stF (x lw lr : Addr) (m : Str → Option Value) : Str → Option Value := fun y => if y = "stemmer" then some (.ref x) else if y = "words" then some (.ref lw) else if y = "roots" then some (.ref lr) else m y
/-- words and roots -/
def Six (ws rs : List Value) : Prop := ∀ i : Nat, i < 6 → ∃ word res tw tr, ws[i]? = some (.str word tw) ∧ rs[i]? = some (.str res tr) ∧ Asks word res

section
variable {w : World} {A : Around} {s : Shared} {K : Frag} {h : Heap} {k : Cls} {x d lw lr : Addr} {env : Env} {m : Str → Option Value} {ws rs : List Value} {rest : List (Addr × Obj)} {nw nr : Nat} {o : Obj}
/-- the loop over k -/
theorem loopK {p1 p2 p3 p4 p5 p6 p7 p8 p9 p10 p11 p12 p13 : PySem.Pos} {body : List Stmt} {iter : Expr} {Q : Flow → Shared → Prop} (Z : Top1 w h K) (LA : LawA A env.locals) (hfn : env.scope.kind = .function) (hp : (env.scope.kind == .class || (env.scope.kind == .module && env.locals != env.globals)) = false)
    (l1 : env.kindOf "stemmer" = some .local) (l2 : env.kindOf "words" = some .local) (l3 : env.kindOf "roots" = some .local) (l4 : env.kindOf "k" = some .local) (hline : (p2.endLine == p6.line) = true)
    (hit : ∀ T : Value → Shared → Prop, (∀ (rr : Addr) (h' : Heap) (tk : Nat) (t u v : Tok), IsRange h' rr 0 6 1 t u v → Fr h env.locals h' (stF x lw lr m) → (∀ b o, s.heap.get? b = some o → h'.get? b = some o) → T (.ref rr) { s with heap := h', toks := tk }) → wpAny (model prog w) A (eval iter env) T (fun _ _ => False) s)
    (hst : ∀ y, foldedSetIterable iter env y = pure y)
    (N : News h env.locals s.heap ((d, o) :: (x, instObj (clsA k) d) :: (lw, PySem.W.listOf ws.toArray nw) :: (lr, PySem.W.listOf rs.toArray nr) :: rest)) (hd : ∀ p ∈ (x, instObj (clsA k) d) :: (lw, PySem.W.listOf ws.toArray nw) :: (lr, PySem.W.listOf rs.toArray nr) :: rest, @Ne Nat p.1 d) (hod : DOk w.params o) (H : Six ws rs)
    (fin : ∀ o' m' s', Same s s' → Fr h env.locals s'.heap (stF x lw lr m') → News h env.locals s'.heap ((d, o') :: (x, instObj (clsA k) d) :: (lw, PySem.W.listOf ws.toArray nw) :: (lr, PySem.W.listOf rs.toArray nr) :: rest) → DOk w.params o' → Q .next s') :
    wpAny (model prog w) A (exec (.For (.Name "k" p12) iter [.If (.Compare (.Call (.Attribute (.Name "stemmer" p1) "stemWord" p2) [.Subscript (.Name "words" p3) (.Name "k" p4) p5] [] p6) [.NotEq] [.Subscript (.Name "roots" p7) (.Name "k" p8) p9] p10) body [] p11] [] p13) env) Q (fun _ _ => False) s := by
  refine wpAny_For (wpAny_mono (hit _ fun rr h1 tk t u v hr F1 k1 => wpAny_pyIter_range hr (by decide) ?_) (fun _ _ z => z) fun _ _ z => z.elim) hst
  have nk : ∀ p ∈ (d, o) :: (x, instObj (clsA k) d) :: (lw, PySem.W.listOf ws.toArray nw) :: (lr, PySem.W.listOf rs.toArray nr) :: rest, p.1 < h1.objs.size := fun p hp => Heap.lt_size (k1 _ _ (N p hp).1)
  have hIL : env.locals < h1.objs.size := F1.ns.lt
  have hI0 : h.get? h1.objs.size = none := next_is_new F1
  have Wk := LCg.range_walks (prog := prog) (w := w) (A := A) (I := h1.objs.size) LA.hh 0 6
  refine loopW Wk (fun _ => rfl) (fun i s' => Same s s' ∧ ∃ m' o', Fr h env.locals s'.heap (stF x lw lr m') ∧ News h env.locals s'.heap ((d, o') :: (x, instObj (clsA k) d) :: (lw, PySem.W.listOf ws.toArray nw) :: (lr, PySem.W.listOf rs.toArray nr) :: rest) ∧ DOk w.params o' ∧ IsRangeIter s'.heap h1.objs.size (0 + (i : Nat) * 1) ((6 : Nat) - (i : Nat)) 1)
    (fun i s' z => z.2.choose_spec.choose_spec.2.2.2) ?_ ?_ 6 0 rfl _ ?_
  · rintro i s1 v h2 tk2 hi ⟨hs1, m1, o1, F2, N2, hod1, hit1⟩ ⟨t, rfl⟩ hst2 hk2
    have off : ∀ p ∈ (d, o1) :: (x, instObj (clsA k) d) :: (lw, PySem.W.listOf ws.toArray nw) :: (lr, PySem.W.listOf rs.toArray nr) :: rest, p.1 ≠ h1.objs.size := fun p hp => by
      rcases List.mem_cons.mp hp with rfl | hp
      · exact Nat.ne_of_lt (nk (d, o) (.head _))
      · exact Nat.ne_of_lt (nk p (.tail _ hp))
    have one : ∀ a : Addr, a ≠ h1.objs.size → a ∉ [h1.objs.size] := fun a ha q => ha (List.mem_singleton.mp q)
    have F3 : Fr h env.locals h2 (stF x lw lr m1) := ⟨F2.ns.at' fun o e => hk2 _ o (one _ (Nat.ne_of_lt hIL)) e, fun b o e => hk2 b o (one _ fun q => by rw [q, hI0] at e; cases e) (F2.keep b o e), F2.above⟩
    have N3 : News h env.locals h2 ((d, o1) :: (x, instObj (clsA k) d) :: (lw, PySem.W.listOf ws.toArray nw) :: (lr, PySem.W.listOf rs.toArray nr) :: rest) := fun p hp => ⟨hk2 _ _ (one _ (off p hp)) (N2 p hp).1, (N2 p hp).2⟩
    refine wpAny_assign_Name (wpAny_storeName_local l4 F3.ns (fun h3 hn3 hs3 => ?_) hp)
    have F4 : Fr h env.locals h3 (fun y => if y = "k" then some (.int (0 + (i : Int)) t) else stF x lw lr m1 y) := F3.set hn3 hs3
    have N4 : News h env.locals h3 ((d, o1) :: (x, instObj (clsA k) d) :: (lw, PySem.W.listOf ws.toArray nw) :: (lr, PySem.W.listOf rs.toArray nr) :: rest) := fun p hp => ⟨(hs3.2 p.1 (N3 p hp).2.1).trans (N3 p hp).1, (N3 p hp).2⟩
    have I4 : IsRangeIter h3 h1.objs.size (0 + ((i + 1 : Nat) : Nat) * 1) ((6 : Nat) - ((i + 1 : Nat) : Nat)) 1 := by
      have z : h2.get? h1.objs.size = some _ := hst2
      exact (hs3.2 _ (Ne.symm (Nat.ne_of_lt hIL))).trans z
    obtain ⟨word, res, tw, tr, e1, e2, e3⟩ := H i hi
    have nd := N4 (d, o1) (.head _)
    have nx := N4 _ (.tail _ (.head _))
    have nlw := N4 (lw, PySem.W.listOf ws.toArray nw) (.tail _ (.tail _ (.head _)))
    have nlr := N4 (lr, PySem.W.listOf rs.toArray nr) (.tail _ (.tail _ (.tail _ (.head _))))
    have it : (0 + (i : Int)).toNat = i := by omega
    refine turnIf (s := { s1 with heap := h3, toks := tk2 + 1 }) hfn l1 l2 l3 l4 hline Z.toTop0 (LA.frs F4) F4 (.head _) (i := 0 + (i : Int)) (t := t) (tw := tw) (tr := tr) rfl rfl rfl rfl (by omega) (by omega) ⟨_, nlw.1, rfl, _, rfl⟩ ⟨_, nlr.1, rfl, _, rfl⟩ (by rw [it]; exact e1) (by rw [it]; exact e2) e3 nx.1 (hod1.inst nd.1) nd.2.2 (by simpa using nd.2.1) (fun q => ?_) (by have := LA.dep; omega) fun s' g' hk' hns' hd' => ?_
    · rcases List.mem_cons.mp q with q | q
      · exact hd (lr, PySem.W.listOf rs.toArray nr) (.tail _ (.tail _ (.head _))) q
      · exact nlr.2.1 (List.mem_singleton.mp q)
    · show Same s s' ∧ _
      obtain ⟨o', ho', hok'⟩ := hd'.obj
      have no : ∀ a : Addr, a ≠ d → a ≠ env.locals → a ∉ [d, env.locals] := fun a h1 h2 q => by
        rcases List.mem_cons.mp q with q | q
        · exact h1 q
        · exact h2 (List.mem_singleton.mp q)
      refine ⟨hs1.trans ⟨g'.gens, g'.drawn, g'.os⟩, _, o', fr_3 ⟨hns' _ (.head _) _ F4.ns, fun b o e => hk' b o (no b (fun q => by rw [q, nd.2.2] at e; cases e) (fun q => by rw [q, Heap.get?_none_of_le F4.above] at e; cases e)) (F4.keep b o e), F4.above⟩ rfl rfl rfl, fun p hp => ?_, hok', ?_⟩
      · rcases List.mem_cons.mp hp with rfl | hp
        · exact ⟨ho', nd.2⟩
        · have z := N4 p (.tail _ hp)
          exact ⟨hk' _ _ (no _ (hd p hp) z.2.1) z.1, z.2⟩
      · exact hk' _ _ (no _ (Nat.ne_of_gt (nk (d, o) (.head _))) (Nat.ne_of_gt hIL)) I4
  · rintro s1 h2 tk2 ⟨hs1, m1, o1, F2, N2, hod1, hit1⟩ hk2
    have one : ∀ a : Addr, a ≠ h1.objs.size → a ∉ [h1.objs.size] := fun a ha q => ha (List.mem_singleton.mp q)
    refine fin o1 m1 _ (hs1.trans ⟨rfl, rfl, rfl⟩) ⟨F2.ns.at' fun o e => hk2 _ o (one _ (Nat.ne_of_lt hIL)) e, fun b o e => hk2 b o (one _ fun q => by rw [q, hI0] at e; cases e) (F2.keep b o e), F2.above⟩ (fun p hp => ⟨hk2 _ _ (one _ ?_) (N2 p hp).1, (N2 p hp).2⟩) hod1
    rcases List.mem_cons.mp hp with rfl | hp
    · exact Nat.ne_of_lt (nk (d, o) (.head _))
    · exact Nat.ne_of_lt (nk p (.tail _ hp))
  · exact ⟨⟨rfl, rfl, rfl⟩, m, o, F1.push _, fun p hp => ⟨Heap.get?_push_of_some _ (k1 _ _ (N p hp).1), (N p hp).2⟩, hod, by
      have e : Builtin.Range.rangeSize 0 6 1 = 6 := by decide
      show _ = _
      rw [e]
      simpa using Heap.get?_push_size _ rfl⟩
/-- if stemmer.stemWords(words[1:3]) != roots[1:3]: return False -/
theorem ifWords {p1 p2 p3 p4 p5 : PySem.Pos} {body : List Stmt} {ea er : Expr} {Q : Flow → Shared → Prop} (Z : Top1 w h K) (LA : LawA A env.locals) (hfn : env.scope.kind = .function)
    (l1 : env.kindOf "stemmer" = some .local) (hline : (p2.endLine == p3.line) = true) (hst : (backTo p3 (starEach [ea] env)).all (fun x => !x.1) = true) (he : starEach (ea :: []) env = (false, eval ea env) :: starEach [] env) (hm : behindInMarks .NotEq er = false)
    (hu : A.units + 64 < cLine) {w1 r1 w2 r2 : Str} {t1 t2 t3 t4 : Tok} (a1 : Asks w1 r1) (a2 : Asks w2 r2) (s1 : PyData.strOk r1 = true) (s2 : PyData.strOk r2 = true)
    (hea : ∀ (s : Shared) (T : Value → Shared → Prop) (news : List (Addr × Obj)), Fr h env.locals s.heap (stF x lw lr m) → News h env.locals s.heap ((lw, PySem.W.listOf ws.toArray nw) :: news) → (∀ (dl : Addr) (h' : Heap) (tk : Nat), Fr h env.locals h' (stF x lw lr m) → News h env.locals h' ((dl, PySem.W.listOf #[Value.str w1 t1, .str w2 t2] 0) :: (lw, PySem.W.listOf ws.toArray nw) :: news) → T (.ref dl) { s with heap := h', toks := tk }) → wpAny (model prog w) A (eval ea env) T (fun _ _ => False) s)
    (her : ∀ (s : Shared) (T : Value → Shared → Prop) (news : List (Addr × Obj)), Fr h env.locals s.heap (stF x lw lr m) → News h env.locals s.heap ((lr, PySem.W.listOf rs.toArray nr) :: news) → (∀ (dl : Addr) (h' : Heap) (tk : Nat), Fr h env.locals h' (stF x lw lr m) → News h env.locals h' ((dl, PySem.W.listOf #[Value.str r1 t3, .str r2 t4] 0) :: (lr, PySem.W.listOf rs.toArray nr) :: news) → T (.ref dl) { s with heap := h', toks := tk }) → wpAny (model prog w) A (eval er env) T (fun _ _ => False) s)
    (F : Fr h env.locals s.heap (stF x lw lr m)) (N : News h env.locals s.heap ((d, o) :: (x, instObj (clsA k) d) :: (lw, PySem.W.listOf ws.toArray nw) :: (lr, PySem.W.listOf rs.toArray nr) :: rest)) (hd : ∀ p ∈ (x, instObj (clsA k) d) :: (lw, PySem.W.listOf ws.toArray nw) :: (lr, PySem.W.listOf rs.toArray nr) :: rest, @Ne Nat p.1 d) (hod : DOk w.params o)
    (fin : ∀ o' s', Same s s' → Fr h env.locals s'.heap (stF x lw lr m) → News h env.locals s'.heap ((d, o') :: (x, instObj (clsA k) d) :: (lw, PySem.W.listOf ws.toArray nw) :: (lr, PySem.W.listOf rs.toArray nr) :: rest) → DOk w.params o' → Q .next s') :
    wpAny (model prog w) A (exec (.If (.Compare (.Call (.Attribute (.Name "stemmer" p1) "stemWords" p2) [ea] [] p3) [.NotEq] [er] p4) body [] p5) env) Q (fun _ _ => False) s := by
  obtain ⟨_, _, _, _, m5⟩ := Z.mks k
  obtain ⟨_, f2, f3, f4, f5⟩ := Z.fn
  have nd := N (d, o) (.head _)
  have nx := N _ (.tail _ (.head _))
  refine wpAny_If (wpAny_isTrue_Compare1 (meth_callG rfl hst (by simp) hline (nameV F hfn l1 (by decide) rfl fun pl => ?_)) hm)
  obtain ⟨es, n, fl, rfl, D, ndp, gf⟩ := id hod
  refine method_inst F Z.X ⟨nx.1, rfl, rfl, nd.1⟩ (Z.cls k).hg m5 f2 (D.none (fun f => by cases f <;> decide)) ?_
  dsimp only
  refine callWith_K (h₀ := s.heap) (Z.X.keeps F.keep) f3 (spliced_more (hea s _ ((d, dictOf es n) :: (x, instObj (clsA k) d) :: (lr, PySem.W.listOf rs.toArray nr) :: rest) F (fun p hp => N p ?_) fun dl h1 tk1 F1 N1 => spliced_none ⟨Z.X.keeps F1.keep, wpAny_call ?_⟩) he) he rfl
  · rcases List.mem_cons.mp hp with rfl | hp
    · exact .tail _ (.tail _ (.head _))
    · rcases List.mem_cons.mp hp with rfl | hp
      · exact .head _
      · rcases List.mem_cons.mp hp with rfl | hp
        · exact .tail _ (.head _)
        · exact .tail _ (.tail _ (.tail _ hp))
  have n1dl := N1 _ (.head _)
  have n1d := N1 (d, dictOf es n) (.tail _ (.tail _ (.head _)))
  have n1x := N1 _ (.tail _ (.tail _ (.tail _ (.head _))))
  have dld : dl ≠ d := fun q => by
    have e := n1dl.1
    dsimp only at e
    rw [q] at e
    have e' := n1d.1
    dsimp only at e'
    rw [e] at e'
    have z := congrArg Obj.data (Option.some.inj e')
    cases z
  refine callWords (s := { s with heap := h1, toks := tk1 }) Z.toTop0 (LA.frs F1) F1.keep n1x.1 ⟨fl, gf, es, n, n1d.1, D, ndp⟩ n1d.2.2 n1d.2.1 LA.dep ⟨_, n1dl.1, rfl, _, rfl⟩ (fun q => ?_) a1 a2 f4 f5 fun D' ta tb s' g' hk' hns' hd' hD hDn hDL hDd => ?_
  · rcases List.mem_cons.mp q with q | q
    · exact dld q
    · exact n1dl.2.1 (List.mem_singleton.mp q)
  have no : ∀ a : Addr, a ≠ d → a ≠ env.locals → a ∉ [d, env.locals] := fun a h1 h2 q => by
    rcases List.mem_cons.mp q with q | q
    · exact h1 q
    · exact h2 (List.mem_singleton.mp q)
  have F2 : Fr h env.locals s'.heap (stF x lw lr m) := ⟨hns' _ F1.ns, fun b o e => hk' b o (no b (fun q => by rw [q, n1d.2.2] at e; cases e) (fun q => by rw [q, Heap.get?_none_of_le F1.above] at e; cases e)) (F1.keep b o e), F1.above⟩
  obtain ⟨o', ho', hok'⟩ := hd'.obj
  have D0 : h.get? D' = none := by
    cases e : h.get? D' with
    | none => rfl
    | some o => have := F1.keep _ _ e; rw [hDn] at this; cases this
  have N2 : News h env.locals s'.heap ((lr, PySem.W.listOf rs.toArray nr) :: (D', LCg.lst [.str r1 ta, .str r2 tb]) :: (d, o') :: (x, instObj (clsA k) d) :: (lw, PySem.W.listOf ws.toArray nw) :: rest) := by
    have mv : ∀ p : Addr × Obj, p ∈ (x, instObj (clsA k) d) :: (lw, PySem.W.listOf ws.toArray nw) :: (lr, PySem.W.listOf rs.toArray nr) :: rest → s'.heap.get? p.1 = some p.2 ∧ p.1 ≠ env.locals ∧ h.get? p.1 = none := fun p hp => by
      have z : p ∈ (dl, PySem.W.listOf #[Value.str w1 t1, .str w2 t2] 0) :: (lw, PySem.W.listOf ws.toArray nw) :: (d, dictOf es n) :: (x, instObj (clsA k) d) :: (lr, PySem.W.listOf rs.toArray nr) :: rest := by
        rcases List.mem_cons.mp hp with rfl | hp
        · exact .tail _ (.tail _ (.tail _ (.head _)))
        · rcases List.mem_cons.mp hp with rfl | hp
          · exact .tail _ (.head _)
          · exact .tail _ (.tail _ (.tail _ (.tail _ hp)))
      exact ⟨hk' _ _ (no _ (hd p hp) (N1 p z).2.1) (N1 p z).1, (N1 p z).2⟩
    intro p hp
    rcases List.mem_cons.mp hp with rfl | hp
    · exact mv _ (.tail _ (.tail _ (.head _)))
    · rcases List.mem_cons.mp hp with rfl | hp
      · exact ⟨hD, hDL, D0⟩
      · rcases List.mem_cons.mp hp with rfl | hp
        · exact ⟨ho', n1d.2⟩
        · rcases List.mem_cons.mp hp with rfl | hp
          · exact mv _ (.head _)
          · rcases List.mem_cons.mp hp with rfl | hp
            · exact mv _ (.tail _ (.head _))
            · exact mv _ (.tail _ (.tail _ (.tail _ hp)))
  refine her s' _ _ F2 N2 fun le h3 tk3 F3 N3 => ?_
  refine ne_texts ⟨_, (N3 _ (.tail _ (.tail _ (.head _)))).1, rfl, _, rfl⟩ ⟨_, (N3 _ (.head _)).1, rfl, _, rfl⟩ hu s1 s2 ?_
  refine wpAny_truthy_bool (wpAny_execs_nil ?_)
  refine fin o' _ ⟨g'.gens, g'.drawn, g'.os⟩ F3 (fun p hp => N3 p ?_) hok'
  rcases List.mem_cons.mp hp with rfl | hp
  · exact .tail _ (.tail _ (.tail _ (.head _)))
  · rcases List.mem_cons.mp hp with rfl | hp
    · exact .tail _ (.tail _ (.tail _ (.tail _ (.head _))))
    · rcases List.mem_cons.mp hp with rfl | hp
      · exact .tail _ (.tail _ (.tail _ (.tail _ (.tail _ (.head _)))))
      · rcases List.mem_cons.mp hp with rfl | hp
        · exact .tail _ (.head _)
        · exact .tail _ (.tail _ (.tail _ (.tail _ (.tail _ (.tail _ hp)))))
end
end Sb
end

section
open PySem PySem.W PyProof.Rows PySem.Calls PySem.Spec
set_option Elab.async false
set_option maxRecDepth 100000
set_option linter.constructorNameAsVariable false
set_option linter.unusedVariables false
namespace Sb
theorem lawA (L : Addr) : LawA (callerA.deeper (lawEnv L)) L where
  hh := rfl
  ex := ⟨[lawEnv L], rfl, fun e he => by
    obtain rfl := List.mem_singleton.mp he
    exact ⟨by show ScopeKind.function ≠ .module; decide, L, rfl, .head _⟩⟩
  dep := by show callerA.depth + 1 + 9 ≤ recursionLimit; decide
theorem stBody_eq : ∃ p1 p2 p3 p4 p5 p6 p7 p8 p9 p10 p11 p12 p13 b1 b2 q1 q2 q3 q4 q5, (p2.endLine == p6.line) = true ∧ (q2.endLine == q3.line) = true ∧ (∀ L, (backTo q3 (starEach [callA (cmpL (ifTest (nthS 1 stBody)))] (lawEnv L))).all (fun x => !x.1) = true) ∧
    stBody = [.For (.Name "k" p12) (forIter (nthS 0 stBody)) [.If (.Compare (.Call (.Attribute (.Name "stemmer" p1) "stemWord" p2) [.Subscript (.Name "words" p3) (.Name "k" p4) p5] [] p6) [.NotEq] [.Subscript (.Name "roots" p7) (.Name "k" p8) p9] p10) b1 [] p11] [] p13,
      .If (.Compare (.Call (.Attribute (.Name "stemmer" q1) "stemWords" q2) [callA (cmpL (ifTest (nthS 1 stBody)))] [] q3) [.NotEq] [cmpR (ifTest (nthS 1 stBody))] q4) b2 [] q5] := by
  refine ⟨_, _, _, _, _, _, _, _, _, _, _, _, _, _, _, _, _, _, _, _, ?_, ?_, fun L => ?_, rfl⟩ <;> rfl
theorem fr_as1 {h h' : Heap} {L : Addr} {f : Str → Option Value} {a : Str} {v : Value} (F : Fr h L h' f) (e : f a = some v) : Fr h L h' (fun y => if y = a then some v else f y) := by
  have z := fr_set e
  rw [← z]; exact F
theorem fr_un1 {h h' : Heap} {L : Addr} {f : Str → Option Value} {a : Str} {v : Value} (e : f a = some v) (F : Fr h L h' (fun y => if y = a then some v else f y)) : Fr h L h' f := by
  have z := fr_set e
  rw [← z] at F; exact F
theorem st_fold (L : Addr) : (∀ y, foldedSetIterable (forIter (nthS 0 stBody)) (lawEnv L) y = pure y) ∧ starEach (callA (cmpL (ifTest (nthS 1 stBody))) :: []) (lawEnv L) = (false, eval (callA (cmpL (ifTest (nthS 1 stBody)))) (lawEnv L)) :: starEach [] (lawEnv L) ∧ behindInMarks .NotEq (cmpR (ifTest (nthS 1 stBody))) = false :=
  ⟨fun _ => rfl, rfl, rfl⟩
theorem lawLoc (L : Addr) : (lawEnv L).kindOf "stemmer" = some .local ∧ (lawEnv L).kindOf "words" = some .local ∧ (lawEnv L).kindOf "roots" = some .local ∧ (lawEnv L).kindOf "k" = some .local ∧ (lawEnv L).scope.kind = .function ∧ ((lawEnv L).scope.kind == .class || ((lawEnv L).scope.kind == .module && (lawEnv L).locals != (lawEnv L).globals)) = false ∧ (callerA.deeper (lawEnv L)).units + 64 < cLine :=
  ⟨rfl, rfl, rfl, rfl, rfl, rfl, by show callerA.units + 3 + 64 < cLine; decide⟩
/-- one stemmer -/
theorem stemStage {w : World} {s : Shared} {h : Heap} {L : Addr} {K : Frag} (X : (KL w.params).In h) (Z : Top1 w h K) (K0 : Below callerA h [] h) (k : Cls) {x d lw lr : Addr} {o : Obj} {m : Str → Option Value} {a0 a1 a2 a3 a4 a5 b0 b1 b2 b3 b4 b5 : Str} {s0 s1 s2 s3 s4 s5 u0 u1 u2 u3 u4 u5 : Tok} {nw nr : Nat} {rest : List (Addr × Obj)} {Q : Flow → Shared → Prop}
    (H : Six [.str a0 s0, .str a1 s1, .str a2 s2, .str a3 s3, .str a4 s4, .str a5 s5] [.str b0 u0, .str b1 u1, .str b2 u2, .str b3 u3, .str b4 u4, .str b5 u5]) (hb1 : PyData.strOk b1 = true) (hb2 : PyData.strOk b2 = true)
    (F : Fr h L s.heap (stF x lw lr m)) (N : News h L s.heap ((d, o) :: (x, instObj (clsA k) d) :: (lw, PySem.W.listOf ([.str a0 s0, .str a1 s1, .str a2 s2, .str a3 s3, .str a4 s4, .str a5 s5] : List Value).toArray nw) :: (lr, PySem.W.listOf ([.str b0 u0, .str b1 u1, .str b2 u2, .str b3 u3, .str b4 u4, .str b5 u5] : List Value).toArray nr) :: rest))
    (hd : ∀ p ∈ (x, instObj (clsA k) d) :: (lw, PySem.W.listOf ([.str a0 s0, .str a1 s1, .str a2 s2, .str a3 s3, .str a4 s4, .str a5 s5] : List Value).toArray nw) :: (lr, PySem.W.listOf ([.str b0 u0, .str b1 u1, .str b2 u2, .str b3 u3, .str b4 u4, .str b5 u5] : List Value).toArray nr) :: rest, @Ne Nat p.1 d) (hod : DOk w.params o)
    (fin : ∀ o' m' s', Same s s' → Fr h L s'.heap (stF x lw lr m') → News h L s'.heap ((d, o') :: (x, instObj (clsA k) d) :: (lw, PySem.W.listOf ([.str a0 s0, .str a1 s1, .str a2 s2, .str a3 s3, .str a4 s4, .str a5 s5] : List Value).toArray nw) :: (lr, PySem.W.listOf ([.str b0 u0, .str b1 u1, .str b2 u2, .str b3 u3, .str b4 u4, .str b5 u5] : List Value).toArray nr) :: rest) → DOk w.params o' → Q .next s') :
    Goes (model prog w) (callerA.deeper (lawEnv L)) (execs stBody (lawEnv L)) Q (fun _ _ => False) s := by
  obtain ⟨p1, p2, p3, p4, p5, p6, p7, p8, p9, p10, p11, p12, p13, c1, c2, q1, q2, q3, q4, q5, g1, g2, g3, e⟩ := stBody_eq
  obtain ⟨l1, l2, l3, l4, l5, l6, l7⟩ := lawLoc L
  obtain ⟨f1, f2, f3⟩ := st_fold L
  have LA : LawA (callerA.deeper (lawEnv L)) (lawEnv L).locals := lawA L
  obtain ⟨v1, r1, tw1, tr1, e1, e1', k1⟩ := H 1 (by omega)
  obtain ⟨v2, r2, tw2, tr2, e2, e2', k2⟩ := H 2 (by omega)
  obtain ⟨rfl, rfl⟩ : a1 = v1 ∧ b1 = r1 := by
    simp only [List.getElem?_cons_succ, List.getElem?_cons_zero, Option.some.injEq, Value.str.injEq] at e1 e1'
    exact ⟨e1.1, e1'.1⟩
  obtain ⟨rfl, rfl⟩ : a2 = v2 ∧ b2 = r2 := by
    simp only [List.getElem?_cons_succ, List.getElem?_cons_zero, Option.some.injEq, Value.str.injEq] at e2 e2'
    exact ⟨e2.1, e2'.1⟩
  have key : wpAny (model prog w) (callerA.deeper (lawEnv L)) (execs [.For (.Name "k" p12) (forIter (nthS 0 stBody)) [.If (.Compare (.Call (.Attribute (.Name "stemmer" p1) "stemWord" p2) [.Subscript (.Name "words" p3) (.Name "k" p4) p5] [] p6) [.NotEq] [.Subscript (.Name "roots" p7) (.Name "k" p8) p9] p10) c1 [] p11] [] p13,
      .If (.Compare (.Call (.Attribute (.Name "stemmer" q1) "stemWords" q2) [callA (cmpL (ifTest (nthS 1 stBody)))] [] q3) [.NotEq] [cmpR (ifTest (nthS 1 stBody))] q4) c2 [] q5] (lawEnv L)) Q (fun _ _ => False) s := by
    refine wpAny_execs_cons (loopK (k := k) (d := d) Z LA l5 l6 l1 l2 l3 l4 g1 (fun T hT => (itk w s h L X Z.T _ F News.nil K0 T rfl hT).wp) f1 N hd hod H fun o1 m1 sA hs1 F1 N1 hod1 => ?_)
    refine wpAny_execs_cons (ifWords (k := k) (d := d) (t1 := s1) (t2 := s2) (t3 := u1) (t4 := u2) Z LA l5 l1 g2 (g3 L) f2 f3 l7 k1 k2 hb1 hb2 (fun s T news F N hT => ?_) (fun s T news F N hT => ?_) F1 N1 hd hod1 fun o2 sB hs2 F2 N2 hod2 => wpAny_execs_nil (fin o2 m1 sB (hs1.trans hs2) F2 N2 hod2))
    · exact (itw w s h L X Z.T (stF x lw lr m1) news lw _ _ _ _ _ _ nw (fr_as1 F rfl) N K0 T rfl fun dl h' tk F' N' => hT dl h' tk (fr_un1 rfl F') N').wp
    · exact (itr w s h L X Z.T (stF x lw lr m1) news lr _ _ _ _ _ _ nr (fr_as1 F rfl) N K0 T rfl fun dl h' tk F' N' => hT dl h' tk (fr_un1 rfl F') N').wp
  exact ⟨by rw [e]; exact key⟩
end Sb
end

section
open PySem PySem.W PyProof.Rows PySem.Calls PySem.Spec
set_option Elab.async false
set_option maxRecDepth 100000
set_option linter.constructorNameAsVariable false
set_option linter.unusedVariables false
namespace Sb
abbrev wrF (lw lr : Addr) (m : Str → Option Value) : Str → Option Value := fun y => if y = "words" then some (.ref lw) else if y = "roots" then some (.ref lr) else m y
/-- the loop over the three stemmers -/
theorem loopS {w : World} {A : Around} {s : Shared} {h : Heap} {env : Env} {lw lr t x1 d1 x2 d2 x3 d3 : Addr} {o1 o2 o3 ow olr : Obj} {m : Str → Option Value} {body : List Stmt} {px : PySem.Pos} {Q : Flow → Shared → Prop}
    (hA : A.handled = none) (hp : (env.scope.kind == .class || (env.scope.kind == .module && env.locals != env.globals)) = false) (l1 : env.kindOf "stemmer" = some .local)
    (F : Fr h env.locals s.heap (wrF lw lr m))
    (N : News h env.locals s.heap [(t, tupO [.ref x1, .ref x2, .ref x3]), (d1, o1), (x1, instObj (clsA .da) d1), (d2, o2), (x2, instObj (clsA .no) d2), (d3, o3), (x3, instObj (clsA .sv) d3), (lw, ow), (lr, olr)])
    (k1 : DOk w.params o1) (k2 : DOk w.params o2) (k3 : DOk w.params o3)
    (a1 : @LT.lt Nat _ lw d1) (a2 : @LT.lt Nat _ lr d1) (a3 : @LT.lt Nat _ d1 x1) (a4 : @LT.lt Nat _ x1 d2) (a5 : @LT.lt Nat _ d2 x2) (a6 : @LT.lt Nat _ x2 d3) (a7 : @LT.lt Nat _ d3 x3) (a8 : @LT.lt Nat _ x3 t)
    (stg : ∀ (k : Cls) (s : Shared) (x d : Addr) (o : Obj) (m : Str → Option Value) (rest : List (Addr × Obj)) (Q : Flow → Shared → Prop), Fr h env.locals s.heap (stF x lw lr m) → News h env.locals s.heap ((d, o) :: (x, instObj (clsA k) d) :: (lw, ow) :: (lr, olr) :: rest) →
      (∀ p ∈ (x, instObj (clsA k) d) :: (lw, ow) :: (lr, olr) :: rest, @Ne Nat p.1 d) → DOk w.params o →
      (∀ o' m' s', Same s s' → Fr h env.locals s'.heap (stF x lw lr m') → News h env.locals s'.heap ((d, o') :: (x, instObj (clsA k) d) :: (lw, ow) :: (lr, olr) :: rest) → DOk w.params o' → Q .next s') →
      wpAny (model prog w) A (execs body env) Q (fun _ _ => False) s)
    (fin : ∀ m' s', Same s s' → Fr h env.locals s'.heap m' → Q .next s') :
    wpAny (model prog w) A (pyIter (.ref t)) (fun it s₂ => codeAny (model prog w) A (.forLoop (.Name "stemmer" px) it body [] env) (fun r s' => match r with | .ok f => Q f s' | .error e => cameBackBy (model prog w) A env (fun _ _ => False) e s') s₂) (fun _ _ => False) s := by
  have nt := N _ (.head _)
  refine wpAny_pyIter_tuple (items := #[.ref x1, .ref x2, .ref x3]) ⟨_, nt.1, rfl, _, rfl⟩ ?_
  have hI : ∀ p ∈ [(t, tupO [.ref x1, .ref x2, .ref x3]), (d1, o1), (x1, instObj (clsA .da) d1), (d2, o2), (x2, instObj (clsA .no) d2), (d3, o3), (x3, instObj (clsA .sv) d3), (lw, ow), (lr, olr)], p.1 < s.heap.objs.size := fun p hp => Heap.lt_size (N p hp).1
  have hIt : @LT.lt Nat _ t s.heap.objs.size := hI _ (.head _)
  have hIL : @LT.lt Nat _ env.locals s.heap.objs.size := F.ns.lt
  have hI0 : h.get? s.heap.objs.size = none := next_is_new F
  generalize hIe : s.heap.objs.size = I at hI hIt hIL hI0
  have Wk := Walks.tuple (prog := prog) (w := w) (A := A) hA I t (Nat.ne_of_lt hIt) #[.ref x1, .ref x2, .ref x3]
  have goK : ∀ (i : Nat) (k : Cls) (x d : Addr) (o : Obj) (s1 : Shared) (m1 : Str → Option Value) (io : Obj) (rest : List (Addr × Obj)) (h2 : Heap) (tk2 : Nat) (R : Flow → Shared → Prop), Same s s1 → Fr h env.locals s1.heap (wrF lw lr m1) →
      News h env.locals s1.heap ((d, o) :: (x, instObj (clsA k) d) :: (lw, ow) :: (lr, olr) :: rest) → (∀ p ∈ (d, o) :: (x, instObj (clsA k) d) :: (lw, ow) :: (lr, olr) :: rest, @Ne Nat p.1 I) → (∀ p ∈ (x, instObj (clsA k) d) :: (lw, ow) :: (lr, olr) :: rest, @Ne Nat p.1 d) → DOk w.params o → Kept [I] s1.heap h2 → h2.get? I = some io →
      (∀ o' m' s', Same s s' → Fr h env.locals s'.heap (wrF lw lr m') → News h env.locals s'.heap ((d, o') :: (x, instObj (clsA k) d) :: (lw, ow) :: (lr, olr) :: (I, io) :: rest) → DOk w.params o' → R .next s') →
      wpAny (model prog w) A (assign (.Name "stemmer" px) env (.ref x)) (fun _ s₂ => wpAny (model prog w) A (execs body env) R (fun _ _ => False) s₂) (fun _ _ => False) { s1 with heap := h2, toks := tk2 } := by
    intro i k x d o s1 m1 io rest h2 tk2 R hs1 F1 N1 hnI hd hok hk2 hio fin'
    have one : ∀ a : Addr, @Ne Nat a I → a ∉ [I] := fun a ha q => ha (List.mem_singleton.mp q)
    have F2 : Fr h env.locals h2 (wrF lw lr m1) := ⟨F1.ns.at' fun o e => hk2 _ o (one _ (Nat.ne_of_lt hIL)) e, fun b o e => hk2 b o (one _ fun q => by rw [show b = I from q, hI0] at e; cases e) (F1.keep b o e), F1.above⟩
    refine wpAny_assign_Name (wpAny_storeName_local l1 F2.ns (fun h3 hn3 hs3 => ?_) hp)
    have N3 : News h env.locals h3 ((d, o) :: (x, instObj (clsA k) d) :: (lw, ow) :: (lr, olr) :: (I, io) :: rest) := by
      have old : ∀ p ∈ (d, o) :: (x, instObj (clsA k) d) :: (lw, ow) :: (lr, olr) :: rest, h3.get? p.1 = some p.2 ∧ p.1 ≠ env.locals ∧ h.get? p.1 = none := fun p hp =>
        ⟨(hs3.2 p.1 (N1 p hp).2.1).trans (hk2 _ _ (one _ (hnI p hp)) (N1 p hp).1), (N1 p hp).2⟩
      have new : h3.get? I = some io ∧ I ≠ env.locals ∧ h.get? I = none := ⟨(hs3.2 I (Ne.symm (Nat.ne_of_lt hIL))).trans hio, Ne.symm (Nat.ne_of_lt hIL), hI0⟩
      intro p hp
      rcases List.mem_cons.mp hp with rfl | hp
      · exact old _ (.head _)
      rcases List.mem_cons.mp hp with rfl | hp
      · exact old _ (.tail _ (.head _))
      rcases List.mem_cons.mp hp with rfl | hp
      · exact old _ (.tail _ (.tail _ (.head _)))
      rcases List.mem_cons.mp hp with rfl | hp
      · exact old _ (.tail _ (.tail _ (.tail _ (.head _))))
      rcases List.mem_cons.mp hp with rfl | hp
      · exact new
      · exact old _ (.tail _ (.tail _ (.tail _ (.tail _ hp))))
    have hdI : @Ne Nat I d := Ne.symm (hnI (d, o) (.head _))
    refine stg k _ x d o m1 ((I, io) :: rest) R (F2.set hn3 hs3) N3 (fun p hp => ?_) hok fun o' m' s' g' F' N' hok' => fin' o' (fun y => if y = "stemmer" then some (.ref x) else m' y) s' (hs1.trans ⟨g'.gens, g'.drawn, g'.os⟩) ?_ N' hok'
    · rcases List.mem_cons.mp hp with rfl | hp
      · exact hd _ (.head _)
      rcases List.mem_cons.mp hp with rfl | hp
      · exact hd _ (.tail _ (.head _))
      rcases List.mem_cons.mp hp with rfl | hp
      · exact hd _ (.tail _ (.tail _ (.head _)))
      rcases List.mem_cons.mp hp with rfl | hp
      · exact hdI
      · exact hd _ (.tail _ (.tail _ (.tail _ hp)))
    · have e : stF x lw lr m' = wrF lw lr (fun y => if y = "stemmer" then some (.ref x) else m' y) := by
        funext y
        show (if y = "stemmer" then _ else if y = "words" then _ else if y = "roots" then _ else _) = (if y = "words" then _ else if y = "roots" then _ else if y = "stemmer" then _ else _)
        by_cases q1 : y = "stemmer"
        · subst q1
          rw [if_pos rfl, if_neg (by decide), if_neg (by decide), if_pos rfl]
        · simp [q1]
      rw [← e]; exact F'
  refine loopW Wk (fun _ => rfl) (fun i s' => Same s s' ∧ ∃ m' e1 e2 e3 io, Fr h env.locals s'.heap (wrF lw lr m') ∧ News h env.locals s'.heap [(I, io), (t, tupO [.ref x1, .ref x2, .ref x3]), (d1, e1), (x1, instObj (clsA .da) d1), (d2, e2), (x2, instObj (clsA .no) d2), (d3, e3), (x3, instObj (clsA .sv) d3), (lw, ow), (lr, olr)] ∧
      DOk w.params e1 ∧ DOk w.params e2 ∧ DOk w.params e3 ∧ io.cls = .type "tuple_iterator" ∧ io.data = .fields #[.ref t, .int (i : Nat) 0]) (fun i s' z => ?_) ?_ ?_ 3 0 rfl _ ?_
  · obtain ⟨_, m', e1, e2, e3, io, _, N', _, _, _, q1, q2⟩ := z
    exact ⟨⟨io, (N' _ (.head _)).1, q1, q2⟩, ⟨_, (N' _ (.tail _ (.head _))).1, rfl, _, rfl⟩⟩
  · rintro i s1 v h2 tk2 hi ⟨hs1, m1, e1, e2, e3, io0, F1, N0, j1, j2, j3, _, _⟩ hv hst2 hk2
    have N1 := news_tail N0
    have hnI : ∀ p ∈ [(t, tupO [.ref x1, .ref x2, .ref x3]), (d1, e1), (x1, instObj (clsA .da) d1), (d2, e2), (x2, instObj (clsA .no) d2), (d3, e3), (x3, instObj (clsA .sv) d3), (lw, ow), (lr, olr)], @Ne Nat p.1 I := fun p hp => by
      simp only [List.mem_cons, List.not_mem_nil, or_false] at hp
      rcases hp with rfl | rfl | rfl | rfl | rfl | rfl | rfl | rfl | rfl <;> (dsimp only; omega)
    have hi3 : i < 3 := hi
    rcases (show i = 0 ∨ i = 1 ∨ i = 2 by omega) with rfl | rfl | rfl
    · obtain rfl : v = .ref x1 := by simpa using hv.symm
      obtain ⟨io, hio, hc, hdt⟩ := hst2.1
      refine goK 0 .da x1 d1 e1 s1 m1 io [(t, tupO [.ref x1, .ref x2, .ref x3]), (d2, e2), (x2, instObj (clsA .no) d2), (d3, e3), (x3, instObj (clsA .sv) d3)] h2 tk2 _ hs1 F1 (fun p hp => N1 p (by simp only [List.mem_cons, List.not_mem_nil, or_false] at hp ⊢; rcases hp with rfl | rfl | rfl | rfl | rfl | rfl | rfl | rfl | rfl <;> simp)) (fun p hp => hnI p (by simp only [List.mem_cons, List.not_mem_nil, or_false] at hp ⊢; rcases hp with rfl | rfl | rfl | rfl | rfl | rfl | rfl | rfl | rfl <;> simp)) (fun p hp => ?_) j1 hk2 hio fun o' m' s' g' F' N' hok' => ⟨g', m', o', e2, e3, io, F', fun p hp => N' p (by simp only [List.mem_cons, List.not_mem_nil, or_false] at hp ⊢; rcases hp with rfl | rfl | rfl | rfl | rfl | rfl | rfl | rfl | rfl | rfl <;> simp), hok', j2, j3, hc, hdt⟩
      simp only [List.mem_cons, List.not_mem_nil, or_false] at hp
      rcases hp with rfl | rfl | rfl | rfl | rfl | rfl | rfl | rfl <;> (dsimp only; omega)
    · obtain rfl : v = .ref x2 := by simpa using hv.symm
      obtain ⟨io, hio, hc, hdt⟩ := hst2.1
      refine goK 1 .no x2 d2 e2 s1 m1 io [(t, tupO [.ref x1, .ref x2, .ref x3]), (d1, e1), (x1, instObj (clsA .da) d1), (d3, e3), (x3, instObj (clsA .sv) d3)] h2 tk2 _ hs1 F1 (fun p hp => N1 p (by simp only [List.mem_cons, List.not_mem_nil, or_false] at hp ⊢; rcases hp with rfl | rfl | rfl | rfl | rfl | rfl | rfl | rfl | rfl <;> simp)) (fun p hp => hnI p (by simp only [List.mem_cons, List.not_mem_nil, or_false] at hp ⊢; rcases hp with rfl | rfl | rfl | rfl | rfl | rfl | rfl | rfl | rfl <;> simp)) (fun p hp => ?_) j2 hk2 hio fun o' m' s' g' F' N' hok' => ⟨g', m', e1, o', e3, io, F', fun p hp => N' p (by simp only [List.mem_cons, List.not_mem_nil, or_false] at hp ⊢; rcases hp with rfl | rfl | rfl | rfl | rfl | rfl | rfl | rfl | rfl | rfl <;> simp), j1, hok', j3, hc, hdt⟩
      simp only [List.mem_cons, List.not_mem_nil, or_false] at hp
      rcases hp with rfl | rfl | rfl | rfl | rfl | rfl | rfl | rfl <;> (dsimp only; omega)
    · obtain rfl : v = .ref x3 := by simpa using hv.symm
      obtain ⟨io, hio, hc, hdt⟩ := hst2.1
      refine goK 2 .sv x3 d3 e3 s1 m1 io [(t, tupO [.ref x1, .ref x2, .ref x3]), (d1, e1), (x1, instObj (clsA .da) d1), (d2, e2), (x2, instObj (clsA .no) d2)] h2 tk2 _ hs1 F1 (fun p hp => N1 p (by simp only [List.mem_cons, List.not_mem_nil, or_false] at hp ⊢; rcases hp with rfl | rfl | rfl | rfl | rfl | rfl | rfl | rfl | rfl <;> simp)) (fun p hp => hnI p (by simp only [List.mem_cons, List.not_mem_nil, or_false] at hp ⊢; rcases hp with rfl | rfl | rfl | rfl | rfl | rfl | rfl | rfl | rfl <;> simp)) (fun p hp => ?_) j3 hk2 hio fun o' m' s' g' F' N' hok' => ⟨g', m', e1, e2, o', io, F', fun p hp => N' p (by simp only [List.mem_cons, List.not_mem_nil, or_false] at hp ⊢; rcases hp with rfl | rfl | rfl | rfl | rfl | rfl | rfl | rfl | rfl | rfl <;> simp), j1, j2, hok', hc, hdt⟩
      simp only [List.mem_cons, List.not_mem_nil, or_false] at hp
      rcases hp with rfl | rfl | rfl | rfl | rfl | rfl | rfl | rfl <;> (dsimp only; omega)
  · rintro s1 h2 tk2 ⟨hs1, m1, e1, e2, e3, io0, F1, N0, j1, j2, j3, _, _⟩ hk2
    have one : ∀ a : Addr, @Ne Nat a I → a ∉ [I] := fun a ha q => ha (List.mem_singleton.mp q)
    exact fin _ _ (hs1.trans ⟨rfl, rfl, rfl⟩) ⟨F1.ns.at' fun o e => hk2 _ o (one _ (Nat.ne_of_lt hIL)) e, fun b o e => hk2 b o (one _ fun q => by rw [show b = I from q, hI0] at e; cases e) (F1.keep b o e), F1.above⟩
  · refine ⟨⟨rfl, rfl, rfl⟩, m, o1, o2, o3, { cls := .type "tuple_iterator", data := .fields #[.ref t, .int 0 0] }, F.push _, ?_, k1, k2, k3, rfl, rfl⟩
    have z := News.push F N { cls := .type "tuple_iterator", data := .fields #[.ref t, .int 0 0] }
    rw [hIe] at z
    exact z
end Sb
end

section
open PySem PySem.W PyProof.Rows PySem.Calls PySem.Spec
set_option Elab.async false
set_option maxRecDepth 100000
set_option linter.constructorNameAsVariable false
set_option linter.unusedVariables false
namespace Sb
theorem asks_of {R e f : List Nat} (hf : f ∈ forms) (he : e ∈ rootEnds) (h0 : 1 ≤ R.length) (hR : R.length ≤ 6) (hno : ∀ x ∈ R, x ≠ 39) : Asks (st (wd R (f.reverse ++ e))) (st (wd R e)) := by
  have := form_len hf
  rw [st_len] at this
  exact ⟨R, f, e, hf, he, h0, hno, by show _ ≤ 4096; omega, rfl, rfl⟩
theorem nil_form : ([] : List Nat) ∈ forms := by decide +kernel
theorem ends_small : (rootEnds.all fun e => e.all fun x => decide (x < 1114112)) = true := by decide +kernel
theorem ok_of {R e : List Nat} (he : e ∈ rootEnds) (hR : ∀ x ∈ R, x < 1114112) : PyData.strOk (st (wd R e)) = true := by
  show (st (wd R e)).cps.all _ = true
  rw [← Array.all_toList, List.all_eq_true]
  intro x hx
  rw [st_cps] at hx
  rcases List.mem_append.mp hx with h | h
  · simpa using hR x h
  · have := List.all_eq_true.mp (List.all_eq_true.mp ends_small e he) x (List.mem_reverse.mp h)
    simpa using this
theorem k_st : (Str.ofString "k" : Str) = st [107] := by decide +kernel
theorem kr (R e : List Nat) : Str.ofString "k" ++ st (wd R e) = st (wd (107 :: R) e) := by rw [k_st, st_append]; rfl
theorem rf (R e f : List Nat) : st (wd R e) ++ st f = st (wd R (f.reverse ++ e)) := by
  rw [st_append]
  show st (R ++ e.reverse ++ f) = st (R ++ (f.reverse ++ e).reverse)
  rw [List.reverse_append, List.reverse_reverse, List.append_assoc]
theorem six_of {R e f f' : List Nat} {ta tb tc td tq tr : Tok} (hf : f ∈ forms) (hf' : f' ∈ forms) (he : e ∈ rootEnds) (h0 : 1 ≤ R.length) (hR : R.length ≤ 5) (hno : ∀ x ∈ R, x ≠ 39) :
    Six [.str (Str.ofString "k" ++ st (wd R e) ++ st f) ta, .str (st (wd R e) ++ st f) tb, .str (Str.ofString "k" ++ st (wd R e) ++ st f') tc, .str (st (wd R e) ++ st f') td, .str (Str.ofString "k" ++ st (wd R e)) tq, .str (st (wd R e)) tr]
      [.str (Str.ofString "k" ++ st (wd R e)) tq, .str (st (wd R e)) tr, .str (Str.ofString "k" ++ st (wd R e)) tq, .str (st (wd R e)) tr, .str (Str.ofString "k" ++ st (wd R e)) tq, .str (st (wd R e)) tr] := by
  have hk : ∀ x ∈ (107 :: R), x ≠ 39 := fun x hx => by
    rcases List.mem_cons.mp hx with rfl | hx
    · decide
    · exact hno x hx
  have A1 : ∀ g ∈ forms, Asks (Str.ofString "k" ++ st (wd R e) ++ st g) (Str.ofString "k" ++ st (wd R e)) := fun g hg => by
    rw [kr, rf]; exact asks_of hg he (by simp) (by simp; omega) hk
  have A2 : ∀ g ∈ forms, Asks (st (wd R e) ++ st g) (st (wd R e)) := fun g hg => by
    rw [rf]; exact asks_of hg he h0 (by omega) hno
  have A3 : Asks (Str.ofString "k" ++ st (wd R e)) (Str.ofString "k" ++ st (wd R e)) := by
    rw [kr]; exact asks_of nil_form he (by simp) (by simp; omega) hk
  have A4 : Asks (st (wd R e)) (st (wd R e)) := asks_of nil_form he h0 (by omega) hno
  intro i hi
  rcases (show i = 0 ∨ i = 1 ∨ i = 2 ∨ i = 3 ∨ i = 4 ∨ i = 5 by omega) with rfl | rfl | rfl | rfl | rfl | rfl
  · exact ⟨_, _, _, _, rfl, rfl, A1 f hf⟩
  · exact ⟨_, _, _, _, rfl, rfl, A2 f hf⟩
  · exact ⟨_, _, _, _, rfl, rfl, A1 f' hf'⟩
  · exact ⟨_, _, _, _, rfl, rfl, A2 f' hf'⟩
  · exact ⟨_, _, _, _, rfl, rfl, A3⟩
  · exact ⟨_, _, _, _, rfl, rfl, A4⟩
end Sb
end

section
open PySem PySem.W PyProof.Rows PySem.Calls PySem.Spec
set_option Elab.async false
set_option maxRecDepth 100000
set_option linter.constructorNameAsVariable false
set_option linter.unusedVariables false
namespace Sb
theorem st8_eq : ∃ p0 p1 p2 p3 p4 p5 p6 p7 p8 c0, nthS 8 lawBody = .For (.Name "stemmer" p0) (.Tuple [.Call (.Name "DanishStemmer" p1) [] [] p2, .Call (.Name "NorwegianStemmer" p3) [] [] p4, .Call (.Name "SwedishStemmer" p5) [] [] p6] c0 p7) stBody [] p8 := ⟨_, _, _, _, _, _, _, _, _, _, rfl⟩
theorem st9_eq : ∃ p q, nthS 9 lawBody = .Return (some (.Constant (.bool true) 0 p)) q := ⟨_, _, rfl⟩
theorem law_cut : lawBody = lawBody.take 2 ++ ((lawBody.drop 2).take 1 ++ ((lawBody.drop 3).take 1 ++ ((lawBody.drop 4).take 1 ++ ((lawBody.drop 5).take 1 ++ ([nthS 6 lawBody] ++ ((lawBody.drop 7).take 1 ++ ([nthS 8 lawBody] ++ [nthS 9 lawBody]))))))) := by rfl
theorem lawX (L : Addr) : lawEnv L = envX (q "law") lawSc L 999 (.ref 998) (cellsFrom (L + 1) lawSc.names []) ∧ (∀ k : Cls, (envX (q "law") lawSc L 999 (.ref 998) (cellsFrom (L + 1) lawSc.names [])).kindOf k.name = some .globalImplicit) ∧ lawSc.kind = .function :=
  ⟨rfl, fun k => by cases k <;> rfl, rfl⟩
theorem foldTup {a b c : Expr} {c0 : Nat} {p : PySem.Pos} {env : Env} : ∀ y, foldedSetIterable (.Tuple [a, b, c] c0 p) env y = pure y := fun _ => rfl

theorem c8 {w : World} {s : Shared} {h : Heap} {L : Addr} {K : Frag} (X : (KL w.params).In h) (Z : Top1 w h K) (K0 : Below callerA h [] h) {lw lr : Addr} {m : Str → Option Value} {a0 a1 a2 a3 a4 a5 b0 b1 b2 b3 b4 b5 : Str} {s0 s1 s2 s3 s4 s5 u0 u1 u2 u3 u4 u5 : Tok} {nw nr : Nat} {Q : Flow → Shared → Prop}
    (H : Six [.str a0 s0, .str a1 s1, .str a2 s2, .str a3 s3, .str a4 s4, .str a5 s5] [.str b0 u0, .str b1 u1, .str b2 u2, .str b3 u3, .str b4 u4, .str b5 u5]) (hb1 : PyData.strOk b1 = true) (hb2 : PyData.strOk b2 = true)
    (F : Fr h L s.heap (wrF lw lr m)) (N : News h L s.heap [(lw, PySem.W.listOf ([.str a0 s0, .str a1 s1, .str a2 s2, .str a3 s3, .str a4 s4, .str a5 s5] : List Value).toArray nw), (lr, PySem.W.listOf ([.str b0 u0, .str b1 u1, .str b2 u2, .str b3 u3, .str b4 u4, .str b5 u5] : List Value).toArray nr)])
    (fin : ∀ m' s', Same s s' → Fr h L s'.heap m' → Q .next s') :
    Goes (model prog w) (callerA.deeper (lawEnv L)) (exec (nthS 8 lawBody) (lawEnv L)) Q (fun _ _ => False) s := by
  obtain ⟨p0, p1, p2, p3, p4, p5, p6, p7, p8, c0, e⟩ := st8_eq
  obtain ⟨eX, gX, kX⟩ := lawX L
  obtain ⟨l1, l2, l3, l4, l5, l6, l7⟩ := lawLoc L
  have LA : LawA (callerA.deeper (lawEnv L)) L := lawA L
  rw [e]
  refine ⟨wpAny_For ?_ foldTup⟩
  have key : ∀ T : Value → Shared → Prop, (∀ t x1 d1 o1 x2 d2 o2 x3 d3 o3 s', Same s s' → Fr h L s'.heap (wrF lw lr m) → News h L s'.heap ((t, tupO [.ref x1, .ref x2, .ref x3]) :: (d3, o3) :: (x3, instObj (clsA .sv) d3) :: (d2, o2) :: (x2, instObj (clsA .no) d2) :: (d1, o1) :: (x1, instObj (clsA .da) d1) :: [(lw, PySem.W.listOf ([.str a0 s0, .str a1 s1, .str a2 s2, .str a3 s3, .str a4 s4, .str a5 s5] : List Value).toArray nw), (lr, PySem.W.listOf ([.str b0 u0, .str b1 u1, .str b2 u2, .str b3 u3, .str b4 u4, .str b5 u5] : List Value).toArray nr)]) →
      DOk w.params o1 → DOk w.params o2 → DOk w.params o3 → (∀ p ∈ [(lw, PySem.W.listOf ([.str a0 s0, .str a1 s1, .str a2 s2, .str a3 s3, .str a4 s4, .str a5 s5] : List Value).toArray nw), (lr, PySem.W.listOf ([.str b0 u0, .str b1 u1, .str b2 u2, .str b3 u3, .str b4 u4, .str b5 u5] : List Value).toArray nr)], p.1 < d1) → d1 < x1 → x1 < d2 → d2 < x2 → x2 < d3 → d3 < x3 → x3 < t → T (.ref t) s') →
      wpAny (model prog w) (callerA.deeper (lawEnv L)) (eval (.Tuple [.Call (.Name "DanishStemmer" p1) [] [] p2, .Call (.Name "NorwegianStemmer" p3) [] [] p4, .Call (.Name "SwedishStemmer" p5) [] [] p6] c0 p7) (lawEnv L)) T (fun _ _ => False) s := by
    intro T hT
    rw [eX]
    exact tup3 Z LA F N kX gX hT
  refine key _ fun t x1 d1 o1 x2 d2 o2 x3 d3 o3 s' g' F' N' k1 k2 k3 j1 j2 j3 j4 j5 j6 j7 => ?_
  refine loopS (env := lawEnv L) (h := h) (ow := PySem.W.listOf ([.str a0 s0, .str a1 s1, .str a2 s2, .str a3 s3, .str a4 s4, .str a5 s5] : List Value).toArray nw) (olr := PySem.W.listOf ([.str b0 u0, .str b1 u1, .str b2 u2, .str b3 u3, .str b4 u4, .str b5 u5] : List Value).toArray nr) LA.hh l6 l1 F' (fun p hp => N' p ?_) k1 k2 k3 (j1 _ (.head _)) (j1 _ (.tail _ (.head _))) j2 j3 j4 j5 j6 j7 (fun k s x d o m rest Q F N hd hod fin => (stemStage X Z K0 k H hb1 hb2 F N hd hod fin).wp) fun m' s'' g'' F'' => fin m' s'' (g'.trans g'') F''
  simp only [List.mem_cons, List.not_mem_nil, or_false] at hp ⊢
  rcases hp with rfl | rfl | rfl | rfl | rfl | rfl | rfl | rfl | rfl <;> simp
end Sb
end

section
open PySem PySem.W PyProof.Rows PySem.Calls PySem.Spec
set_option Elab.async false
set_option maxRecDepth 100000
set_option linter.constructorNameAsVariable false
set_option linter.unusedVariables false
namespace Sb
theorem gret {w : World} {A : Around} {s : Shared} {env : Env} {Q : Flow → Shared → Prop} {p q' : PySem.Pos} (h : Q (.ret (.bool true)) s) : wpAny (model prog w) A (execs [.Return (some (.Constant (.bool true) 0 p)) q'] env) Q (fun _ _ => False) s :=
  wpAny_execs_cons (wpAny_Return_some (by rw [eval_Constant]; exact wpAny_pure h))
/-- law's body behind its first two statements -/
theorem law_rest {w : World} {s : Shared} {h : Heap} {L : Addr} {K : Frag} (X : (KL w.params).In h) (Z : Top1 w h K) (K0 : Below callerA h [] h) {D : Addr} {o : Obj} (hd : o.data = .cell (some (.ref D))) (hlt : @LT.lt Nat _ (L + 1) D) {n0 n1 n2 n3 n4 : Int} {t0 t1 t2 t3 t4 : Tok} {m : Str → Option Value}
    (F : Fr h L s.heap m) (N : News h L s.heap [(D, PySem.W.listOf [.int n0 t0, .int n1 t1, .int n2 t2, .int n3 t3, .int n4 t4].toArray 0), (L + 1, o)]) {Q : Flow → Shared → Prop}
    (fin : ∀ m' s', Same s s' → Fr h L s'.heap m' → Q (.ret (.bool true)) s') :
    Goes (model prog w) (callerA.deeper (lawEnv L)) (execs ((lawBody.drop 2).take 1 ++ ((lawBody.drop 3).take 1 ++ ((lawBody.drop 4).take 1 ++ ((lawBody.drop 5).take 1 ++ ([nthS 6 lawBody] ++ ((lawBody.drop 7).take 1 ++ ([nthS 8 lawBody] ++ [nthS 9 lawBody]))))))) (lawEnv L)) Q (fun _ _ => False) s := by
  refine gseq (c2 w s h L X Z.T m D o hd hlt n0 n1 n2 n3 n4 t0 t1 t2 t3 t4 F N K0 _ rfl fun r2 tr2 h2 tk2 m2 hr2 F2 N2 => ?_)
  dsimp only
  obtain ⟨l, rfl, hl, hno⟩ := rootA_of hr2
  refine gseq (c3 w { s with heap := h2, toks := tk2 } h L X Z.T m2 D o hd hlt n0 n1 n2 n3 n4 t0 t1 t2 t3 t4 (st l) tr2 (by rw [st_len]; exact hl) F2 N2 K0 _ rfl fun r3 tr3 h3 tk3 m3 hr3 F3 N3 => ?_)
  dsimp only
  obtain ⟨e, he, rfl⟩ := rootB_of hr3
  have he2 : e.length = 2 := of_decide_eq_true (List.all_eq_true.mp ends_two e he)
  have hlen3 : (st l ++ st e.reverse).length = l.length + 2 := by rw [st_append, st_len, List.length_append, List.length_reverse, he2]
  refine gseq (c4 w { s with heap := h3, toks := tk3 } h L X Z.T m3 D o hd hlt n0 n1 n2 n3 n4 t0 t1 t2 t3 t4 (st l ++ st e.reverse) tr3 (by rw [hlen3]; omega) F3 N3 K0 _ rfl fun r4 tr4 h4 tk4 m4 hr4 F4 N4 => ?_)
  dsimp only
  obtain ⟨R, e', rfl, he', hR1, hR5, hR⟩ := root_of hl hno he hr4
  have he2' : e'.length = 2 := of_decide_eq_true (List.all_eq_true.mp ends_two e' he')
  have hlen4 : (st (wd R e')).length = R.length + 2 := by rw [st_len, wd_len, he2']
  have hrr : 2 ≤ (st (wd R e')).length ∧ (st (wd R e')).length ≤ 7 := by rw [hlen4]; omega
  refine gseq (c5 w { s with heap := h4, toks := tk4 } h L X Z.T m4 D o hd hlt n0 n1 n2 n3 n4 t0 t1 t2 t3 t4 (st (wd R e')) tr4 hrr F4 N4 K0 _ rfl fun lw lr tq h5 tk5 m5 F5 a1 a2 a3 N5 => ?_)
  dsimp only
  refine gseq (gone1 (c6 w { s with heap := h5, toks := tk5 } h L X Z.T m5 D o hd hlt n0 n1 n2 n3 n4 t0 t1 t2 t3 t4 lw lr _ a1 (st (wd R e')) tr4 hrr F5 N5 K0 _ fun f f' ta tb tc td nv' h6 tk6 m6 hf hf' F6 N6 => ?_))
  dsimp only
  refine gseq (c7 w { s with heap := h6, toks := tk6 } h L X Z.T m6 lw lr (Nat.ne_of_lt a1) [Value.str (Str.ofString "k" ++ st (wd R e') ++ st f) ta, .str (st (wd R e') ++ st f) tb, Value.str (Str.ofString "k" ++ st (wd R e') ++ st f') tc, .str (st (wd R e') ++ st f') td] nv' (by simp) (st (wd R e')) tr4 tq hrr F6 N6 K0 _ rfl fun nv7 h7 tk7 m7 F7 N7 => ?_)
  dsimp only
  obtain ⟨p, q', e9⟩ := st9_eq
  have hb1 : PyData.strOk (st (wd R e')) = true := ok_of he' fun x hx => (hR x hx).2
  have hb2 : PyData.strOk (Str.ofString "k" ++ st (wd R e')) = true := by
    rw [kr]
    exact ok_of he' fun x hx => by
      rcases List.mem_cons.mp hx with rfl | hx
      · decide
      · exact (hR x hx).2
  refine gseq (gone1 (c8 (s := { s with heap := h7, toks := tk7 }) X Z K0 (six_of (ta := ta) (tb := tb) (tc := tc) (td := td) (tq := tq) (tr := tr4) hf hf' he' hR1 hR5 fun x hx => (hR x hx).1) hb1 hb2 F7 N7 fun m8 s8 g8 F8 => ?_))
  dsimp only
  rw [e9]
  exact ⟨gret (fin m8 s8 ⟨g8.gens, g8.drawn, g8.os⟩ F8)⟩
end Sb
end

section
open PySem PySem.W PyProof.Rows PySem.Calls PySem.Spec
set_option Elab.async false
set_option maxRecDepth 100000
set_option linter.constructorNameAsVariable false
set_option linter.unusedVariables false
namespace Sb
theorem ints_are : ∀ l : List Value, (∀ v ∈ l, ∃ i t, v = .int i t) → ∃ ns, IntsAre l ns ∧ ns.length = l.length
  | [], _ => ⟨[], .nil, rfl⟩
  | v :: l, h => by
    obtain ⟨i, t, rfl⟩ := h v (.head _)
    obtain ⟨ns, a, b⟩ := ints_are l fun v hv => h v (.tail _ hv)
    exact ⟨i :: ns, .cons i t a, by simp [b]⟩
theorem shape : ∀ l : List Value, (∀ v ∈ l, ∃ i t, v = .int i t) → l.length ≤ 63 → l = [] ∨ (∃ v0 u0, l = [.int v0 u0]) ∨ (∃ v0 u0 v1 u1, l = [.int v0 u0, .int v1 u1]) ∨ (∃ v0 u0 v1 u1 v2 u2, l = [.int v0 u0, .int v1 u1, .int v2 u2]) ∨
    (∃ v0 u0 v1 u1 v2 u2 v3 u3, l = [.int v0 u0, .int v1 u1, .int v2 u2, .int v3 u3]) ∨ ∃ v0 u0 v1 u1 v2 u2 v3 u3 v4 u4 vs ns, IntsAre vs ns ∧ ns.length ≤ 58 ∧ l = .int v0 u0 :: .int v1 u1 :: .int v2 u2 :: .int v3 u3 :: .int v4 u4 :: vs := by
  intro l h hz
  cases l with
  | nil => exact .inl rfl
  | cons a l =>
    obtain ⟨v0, u0, rfl⟩ := h a (.head _)
    cases l with
    | nil => exact .inr (.inl ⟨_, _, rfl⟩)
    | cons a l =>
      obtain ⟨v1, u1, rfl⟩ := h a (.tail _ (.head _))
      cases l with
      | nil => exact .inr (.inr (.inl ⟨_, _, _, _, rfl⟩))
      | cons a l =>
        obtain ⟨v2, u2, rfl⟩ := h a (.tail _ (.tail _ (.head _)))
        cases l with
        | nil => exact .inr (.inr (.inr (.inl ⟨_, _, _, _, _, _, rfl⟩)))
        | cons a l =>
          obtain ⟨v3, u3, rfl⟩ := h a (.tail _ (.tail _ (.tail _ (.head _))))
          cases l with
          | nil => exact .inr (.inr (.inr (.inr (.inl ⟨_, _, _, _, _, _, _, _, rfl⟩))))
          | cons a l =>
            obtain ⟨v4, u4, rfl⟩ := h a (.tail _ (.tail _ (.tail _ (.tail _ (.head _)))))
            obtain ⟨ns, hi, hn⟩ := ints_are l fun v hv => h v (.tail _ (.tail _ (.tail _ (.tail _ (.tail _ hv)))))
            simp only [List.length_cons] at hz
            exact .inr (.inr (.inr (.inr (.inr ⟨_, _, _, _, _, _, _, _, _, _, _, ns, hi, by omega, rfl⟩))))
theorem law_body {w : World} {s : Shared} {h : Heap} {L : Addr} {K : Frag} (X : (KL w.params).In h) (Z : Top1 w h K) (K0 : Below callerA h [] h) {a0 : Addr} {l : List Value} (hl : h.IsList a0 l.toArray) (hints : ∀ v ∈ l, ∃ i t, v = .int i t) (hsz : l.length ≤ 63) {o : Obj} (hd : o.data = .cell none) {m : Str → Option Value}
    (F : Fr h L s.heap (fun y => if y = "script" then some (.ref a0) else m y)) (N : News h L s.heap [(L + 1, o)]) {Q : Flow → Shared → Prop}
    (fin : ∀ m' s', Same s s' → Fr h L s'.heap m' → Q (.ret (.bool true)) s') :
    Goes (model prog w) (callerA.deeper (lawEnv L)) (execs lawBody (lawEnv L)) Q (fun _ _ => False) s := by
  refine gof law_cut ?_
  have next : ∀ (D : Addr) (o : Obj) (n0 n1 n2 n3 n4 : Int) (t0 t1 t2 t3 t4 : Tok) (h' : Heap) (tk : Nat) (m' : Str → Option Value), Fr h L h' m' → News h L h' [(D, PySem.W.listOf [.int n0 t0, .int n1 t1, .int n2 t2, .int n3 t3, .int n4 t4].toArray 0), (L + 1, o)] → o.data = .cell (some (.ref D)) → @LT.lt Nat _ (L + 1) D →
      Goes (model prog w) (callerA.deeper (lawEnv L)) (execs ((lawBody.drop 2).take 1 ++ ((lawBody.drop 3).take 1 ++ ((lawBody.drop 4).take 1 ++ ((lawBody.drop 5).take 1 ++ ([nthS 6 lawBody] ++ ((lawBody.drop 7).take 1 ++ ([nthS 8 lawBody] ++ [nthS 9 lawBody]))))))) (lawEnv L)) Q (fun _ _ => False) { s with heap := h', toks := tk } :=
    fun D o n0 n1 n2 n3 n4 t0 t1 t2 t3 t4 h' tk m' F' N' d' l' => law_rest X Z K0 d' l' F' N' fun m2 s2 g2 F2 => fin m2 s2 ⟨g2.gens, g2.drawn, g2.os⟩ F2
  rcases shape l hints hsz with rfl | ⟨v0, u0, rfl⟩ | ⟨v0, u0, v1, u1, rfl⟩ | ⟨v0, u0, v1, u1, v2, u2, rfl⟩ | ⟨v0, u0, v1, u1, v2, u2, v3, u3, rfl⟩ | ⟨v0, u0, v1, u1, v2, u2, v3, u3, v4, u4, vs, ns, hv, hn, rfl⟩
  · exact gseq (c1_0 w s h L X Z.T m a0 hl .nil o hd F N K0 _ rfl next)
  · exact gseq (c1_1 w s h L X Z.T m a0 v0 u0 hl (.cons _ _ .nil) o hd F N K0 _ rfl next)
  · exact gseq (c1_2 w s h L X Z.T m a0 v0 v1 u0 u1 hl (.cons _ _ (.cons _ _ .nil)) o hd F N K0 _ rfl next)
  · exact gseq (c1_3 w s h L X Z.T m a0 v0 v1 v2 u0 u1 u2 hl (.cons _ _ (.cons _ _ (.cons _ _ .nil))) o hd F N K0 _ rfl next)
  · exact gseq (c1_4 w s h L X Z.T m a0 v0 v1 v2 v3 u0 u1 u2 u3 hl (.cons _ _ (.cons _ _ (.cons _ _ (.cons _ _ .nil)))) o hd F N K0 _ rfl next)
  · exact gseq (c1_5 w s h L X Z.T m a0 v0 v1 v2 v3 v4 u0 u1 u2 u3 u4 vs ns hv hn hl (.cons _ _ (.cons _ _ (.cons _ _ (.cons _ _ (.cons _ _ hv))))) o hd F N K0 _ rfl next)

theorem law_goes : LawGoes := by
  intro w s LT hgens a0 ob vs n ho hc hdt hints hsz
  obtain ⟨d0, d1, d2, d3, d4, d5, d6, d7, hS, K, T⟩ := LT
  have X := kl_in K
  have Z := top1_of hS K T
  have ho9 : s.heap.get? 999 = some (o999 w.params) := X _ _ (by kernel_rfl)
  have hcd : s.heap.CodeRec (.ref 998) (q "law") := codeRec_of X (by kernel_rfl)
  have K0 := below_caller s.heap
  refine wpAny_call ?_
  refine call_cellsN (name := q "law") (params := (defTop 27).1) (body := lawBody) (scope := lawSc) (binds := [(q "script", .ref a0)]) (by decide) ho9 rfl T.nolimit hcd (by kernel_rfl) (fun x hx => by rcases List.mem_singleton.mp hx with rfl; exact .inl (by rfl)) (by decide +kernel) (fun h₁ tk₁ cells F N0 X0 => ?_) (by rfl) (by rfl) (by rfl)
  obtain ⟨oc, rfl, hod⟩ := CellsAre.one (n := q "numbers") (c := s.heap.objs.size + 1) X0
  have F' : Fr s.heap s.heap.objs.size h₁ (fun y => if y = "script" then some (.ref a0) else (fun _ => none) y) := F
  have hb := law_body (s := { s with heap := h₁, toks := tk₁ }) (L := s.heap.objs.size) (l := vs.toList) X Z K0 (a0 := a0) ⟨ob, ho, hc, n, by rw [hdt]⟩ hints (by rw [Array.length_toList]; exact hsz) (o := oc) hod F' N0
    (Q := fun f s' => f = .ret (.bool true) ∧ Same { s with heap := h₁, toks := tk₁ } s' ∧ ∃ m', Fr s.heap s.heap.objs.size s'.heap m') fun m' s' g' F'' => ⟨rfl, g', m', F''⟩
  refine wpAny_mono hb.wp (fun f s' z => ?_) fun _ _ z => z.elim
  obtain ⟨rfl, g', m', F''⟩ := z
  exact ⟨rfl, F''.keep, g'.os, g'.gens.trans hgens⟩
end Sb
end

open PySem PySem.W PyProof.Rows
set_option Elab.async false
set_option maxRecDepth 100000 in
set_option maxHeartbeats 8000000 in
theorem PySem.Challenge.cw_bi0025_01_holds : PySem.Challenge.rw_bi0025_01.Holds := by
  o_law
  rename _ = true => said
  refine Sb.hold Sb.law_goes ?hw said ?ok ?hb
  case ok => kernel_rfl
  case hw => w_witness2
  case hb => exact ⟨rfl, rfl, rfl, rfl, rfl, by kernel_rfl⟩
