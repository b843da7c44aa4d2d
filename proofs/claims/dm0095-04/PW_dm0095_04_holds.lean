import PyProof.Rows.All
import Wide.All
import OpenK.AllK
import Wide.FinOn
import PySem.Challenge.RW_dm0095_04

open PySem PySem.W PyProof.Rows
set_option Elab.async false
set_option linter.unusedVariables false
set_option linter.unusedSimpArgs false
set_option maxRecDepth 100000
set_option maxHeartbeats 8000000

section
namespace Mine.Hd
/-- a text by its signs' numbers -/
abbrev tx (l : List Nat) : Str := Str.mk (Array.mk l)
abbrev ts (l : List Nat) (n : Nat) : Value := Value.str (Str.mk (Array.mk l)) n
abbrev x1 (a n : Nat) : Value := Value.str (Str.mk (Array.mk [a])) n
abbrev x3 (a b n : Nat) : Value := Value.str (Str.mk (Array.mk [61, a, b])) n
def stI (R : OpenLaw) (i : Nat) : Stmt := match R.prog.main.body.drop i with | s :: _ => s | [] => .Pass default
def fdOf (s : Stmt) (globals : Addr) (closure : List (Str × Addr)) (dV kV doc pm : Value) (an : Option Addr) (cd ct : Value) (bl : Addr) : FuncData := match s with
  | .FunctionDef n ps b _ _ _ sc _ _ _ => ⟨n, n, ps, .stmts b, sc, globals, closure, dV, kV, doc, pm, an, cd, ct, bl⟩
  | _ => default
def bd (R : OpenLaw) : List Stmt := behindTheImports R.prog
def en (R : OpenLaw) (cd : Value) (fr : Addr) : Env := { scope := R.prog.main.scope, locals := mainNs, globals := mainNs, cells := [], code := cd, frame := some fr }
def co (R : OpenLaw) (cd : Value) (fr : Addr) : Code := Code.body (bd R) (en R cd fr)
def sts (R : OpenLaw) (i k : Nat) : List Stmt := ((bd R).drop i).take k

abbrev Seg := (String → Option Builtin) → Program → World → Nat → Option Value → Nat → Nat → SharedT → Thread → Option (Flow × SharedT × Code × Pos)
abbrev Tb := String → Option Builtin
abbrev Exs := List Stmt → Env → Sem Flow
abbrev St := OpenLaw → World → OsState → SharedT
structure Fr where
  m0 : Nat
  ann : Option Value
  cd : Value
  fr : Addr
  q : Pos

/-- one piece of the top: k statements from the i-th on -/
def Piece (F : Fr) (n i k : Nat) (pos pos' : Pos) (S1 S2 : St) (seg : Seg) (tb : Tb) (ex : Exs) (R : OpenLaw) (w : World) : Prop :=
  (fun os => seg tb R.prog w F.m0 F.ann 1 n (S1 R w os) ⟨(ex (sts R i k) (en R F.cd F.fr)).wrap doneF deadEnd id id, co R F.cd F.fr, pos, [topFrame F.q]⟩) = fun os => some (Flow.next, S2 R w os, co R F.cd F.fr, pos')

theorem chain {F : Fr} {n i k : Nat} {pos pos' : Pos} {S1 S2 : St} {R : OpenLaw} (h : ∀ w, Piece F n i k pos pos' S1 S2 segRunT treeTable execs R w) (w : World) (os : OsState) {N : Nat} {r : Shared}
    (kk : topRun treeTable R.prog w F.m0 F.ann N (S2 R w os).abs (restOf ((bd R).drop (i + k)) (en R F.cd F.fr) (co R F.cd F.fr) pos' [topFrame F.q]) = some r) :
    topRun treeTable R.prog w F.m0 F.ann (n + N) (S1 R w os).abs (restOf ((bd R).drop i) (en R F.cd F.fr) (co R F.cd F.fr) pos [topFrame F.q]) = some r := by
  have e : (bd R).drop i = sts R i k ++ (bd R).drop (i + k) := by
    unfold sts; rw [← List.drop_drop, List.take_append_drop]
  rw [e]
  exact piece_app (segRun_of (congrFun (h w) os)) kk

def Pre (F : Fr) (n : Nat) (pos : Pos) (S0 S1 : St) (go : Tb → Program → World → Nat → Option Value → Nat → Shared → Thread → Option (Shared × Thread)) (tb : Tb) (den : Tb → Code → Sem Fin) (R : OpenLaw) (w : World) : Prop :=
  (fun os => go tb R.prog w F.m0 F.ann n (S0 R w os).abs (topStub R.prog)) = fun os => some ((S1 R w os).abs, ⟨den tb (co R F.cd F.fr), co R F.cd F.fr, pos, [topFrame F.q]⟩)
def Blk (F : Fr) (n : Nat) (pos pos' : Pos) (S1 S2 : St) (seg : Seg) (tb : Tb) (bs : List Stmt → Env → Sem Unit) (R : OpenLaw) (w : World) : Prop :=
  (fun os => seg tb R.prog w F.m0 F.ann 1 n (S1 R w os) ⟨(bs (bd R) (en R F.cd F.fr)).wrap (fun _ => doneF .next) deadEnd id id, co R F.cd F.fr, pos, [topFrame F.q]⟩) = fun os => some (Flow.next, S2 R w os, co R F.cd F.fr, pos')
def Last (F : Fr) (n i : Nat) (pos : Pos) (S1 S2 : St) (top : Tb → Program → World → Nat → Option Value → Nat → Shared → Thread → Option Shared) (tb : Tb) (ex : Exs) (R : OpenLaw) (w : World) : Prop :=
  (fun os => top tb R.prog w F.m0 F.ann n (S1 R w os).abs ⟨(ex ((bd R).drop i) (en R F.cd F.fr)).wrap doneF (leaveH (en R F.cd F.fr)) id id, co R F.cd F.fr, pos, [topFrame F.q]⟩) = fun os => some (S2 R w os).abs

theorem begin_ {F : Fr} {n m : Nat} {pos pos' : Pos} {S0 S1 S2 : St} {R : OpenLaw} (h : ∀ w, Pre F n pos S0 S1 topGo treeTable denote R w) (b : ∀ w, Blk F m pos pos' S1 S2 segRunT treeTable blockStart R w) (w : World) (os : OsState) {N : Nat} {r : Shared}
    (kk : topRun treeTable R.prog w F.m0 F.ann N (S2 R w os).abs (restOf ((bd R).drop 0) (en R F.cd F.fr) (co R F.cd F.fr) pos' [topFrame F.q]) = some r) :
    topRun treeTable R.prog w F.m0 F.ann (n + (m + N)) (S0 R w os).abs (topStub R.prog) = some r :=
  go_top (congrFun (h w) os) (piece_block (segRun_of (congrFun (b w) os)) kk)
theorem last_ {F : Fr} {n i : Nat} {pos : Pos} {S1 S2 : St} {R : OpenLaw} (h : ∀ w, Last F n i pos S1 S2 topRun treeTable execs R w) (w : World) (os : OsState) :
    topRun treeTable R.prog w F.m0 F.ann n (S1 R w os).abs (restOf ((bd R).drop i) (en R F.cd F.fr) (co R F.cd F.fr) pos [topFrame F.q]) = some (S2 R w os).abs := congrFun (h w) os
theorem two_rows {P : World → Prop} (r1 r2 : String) (a : ∀ w : World, P ((w.withFollow r1 false).withFollow r2 false)) (b : ∀ w : World, P ((w.withFollow r1 false).withFollow r2 true))
    (c : ∀ w : World, P ((w.withFollow r1 true).withFollow r2 false)) (d : ∀ w : World, P ((w.withFollow r1 true).withFollow r2 true)) (w : World) : P w := by
  exact byRow2 r2 (byRow2 (P := fun w => P (w.withFollow r2 false)) r1 a c) (byRow2 (P := fun w => P (w.withFollow r2 true)) r1 b d) w
end Mine.Hd
end

section
lay_quick PySem.Challenge.rw_dm0095_04
namespace Mine.Hd
abbrev Rw : OpenLaw := PySem.Challenge.rw_dm0095_04
noncomputable abbrev Rt : OpenLaw := PySem.W.Fast.tw2417958274410355607
def F : Fr := ⟨11, (some (.ref 6)), (.ref 13), 14, ⟨0, 0, 0, 0⟩⟩
noncomputable def o0 (R : OpenLaw) (P : Params) : Obj := ⟨(.type PySem.W.SL.s14018661285674007319x4), none, (.dict (Array.mk [⟨(PyData.keyHash P (tx [95, 95, 110, 97, 109, 101, 95, 95])), (ts [95, 95, 110, 97, 109, 101, 95, 95] 1), (ts [98, 117, 105, 108, 116, 105, 110, 115] 160)⟩, ⟨(PyData.keyHash P (tx [95, 95, 100, 111, 99, 95, 95])), (ts [95, 95, 100, 111, 99, 95, 95] 2), (.builtin "builtins.__doc__:str#opaque")⟩, ⟨(PyData.keyHash P (tx [95, 95, 112, 97, 99, 107, 97, 103, 101, 95, 95])), (ts [95, 95, 112, 97, 99, 107, 97, 103, 101, 95, 95] 3), (.builtin "builtins.__package__:str#opaque")⟩, ⟨(PyData.keyHash P (tx [95, 95, 108, 111, 97, 100, 101, 114, 95, 95])), (ts [95, 95, 108, 111, 97, 100, 101, 114, 95, 95] 4), (.builtin "builtins.__loader__:shared#opaque")⟩, ⟨(PyData.keyHash P (tx [95, 95, 115, 112, 101, 99, 95, 95])), (ts [95, 95, 115, 112, 101, 99, 95, 95] 5), (.builtin PySem.W.SL.s11665532747177232413x24)⟩, ⟨(PyData.keyHash P (tx [95, 95, 98, 117, 105, 108, 100, 95, 99, 108, 97, 115, 115, 95, 95])), (ts [95, 95, 98, 117, 105, 108, 100, 95, 99, 108, 97, 115, 115, 95, 95] 6), (.builtin PySem.W.SL.s15183661809925369436x15)⟩, ⟨(PyData.keyHash P (tx [95, 95, 105, 109, 112, 111, 114, 116, 95, 95])), (ts [95, 95, 105, 109, 112, 111, 114, 116, 95, 95] 7), (.builtin PySem.W.SL.s13915890719876406383x10)⟩, ⟨(PyData.keyHash P (tx [97, 98, 115])), (ts [97, 98, 115] 8), (.builtin PySem.W.SL.s13459172003223722735x3)⟩, ⟨(PyData.keyHash P (tx [97, 108, 108])), (ts [97, 108, 108] 9), (.builtin PySem.W.SL.s10557405761357834076x3)⟩, ⟨(PyData.keyHash P (tx [97, 110, 121])), (ts [97, 110, 121] 10), (.builtin PySem.W.SL.s4233737765568776869x3)⟩, ⟨(PyData.keyHash P (tx [97, 115, 99, 105, 105])), (ts [97, 115, 99, 105, 105] 11), (.builtin PySem.W.SL.s2508922471967985374x5)⟩, ⟨(PyData.keyHash P (tx [98, 105, 110])), (ts [98, 105, 110] 12), (.builtin PySem.W.SL.s15574269061696679450x3)⟩, ⟨(PyData.keyHash P (tx [98, 114, 101, 97, 107, 112, 111, 105, 110, 116])), (ts [98, 114, 101, 97, 107, 112, 111, 105, 110, 116] 13), (.builtin PySem.W.SL.s6016482663378992977x10)⟩, ⟨(PyData.keyHash P (tx [99, 97, 108, 108, 97, 98, 108, 101])), (ts [99, 97, 108, 108, 97, 98, 108, 101] 14), (.builtin PySem.W.SL.s5596568736180474577x8)⟩, ⟨(PyData.keyHash P (tx [99, 104, 114])), (ts [99, 104, 114] 15), (.builtin PySem.W.SL.s2839554839881490554x3)⟩, ⟨(PyData.keyHash P (tx [99, 111, 109, 112, 105, 108, 101])), (ts [99, 111, 109, 112, 105, 108, 101] 16), (.builtin PySem.W.SL.s725004073602090463x7)⟩, ⟨(PyData.keyHash P (tx [100, 101, 108, 97, 116, 116, 114])), (ts [100, 101, 108, 97, 116, 116, 114] 17), (.builtin PySem.W.SL.s9436932552931045734x7)⟩, ⟨(PyData.keyHash P (tx [100, 105, 114])), (ts [100, 105, 114] 18), (.builtin PySem.W.SL.s2754603736356183583x3)⟩, ⟨(PyData.keyHash P (tx [100, 105, 118, 109, 111, 100])), (ts [100, 105, 118, 109, 111, 100] 19), (.builtin PySem.W.SL.s15185746759980889043x6)⟩, ⟨(PyData.keyHash P (tx [101, 118, 97, 108])), (ts [101, 118, 97, 108] 20), (.builtin PySem.W.SL.s8192189862530294059x4)⟩, ⟨(PyData.keyHash P (tx [101, 120, 101, 99])), (ts [101, 120, 101, 99] 21), (.builtin PySem.W.SL.s7038307821325472102x4)⟩, ⟨(PyData.keyHash P (tx [102, 111, 114, 109, 97, 116])), (ts [102, 111, 114, 109, 97, 116] 22), (.builtin PySem.W.SL.s5662562618415449548x6)⟩, ⟨(PyData.keyHash P (tx [103, 101, 116, 97, 116, 116, 114])), (ts [103, 101, 116, 97, 116, 116, 114] 23), (.builtin PySem.W.SL.s15281542589158584767x7)⟩, ⟨(PyData.keyHash P (tx [103, 108, 111, 98, 97, 108, 115])), (ts [103, 108, 111, 98, 97, 108, 115] 24), (.builtin PySem.W.SL.s17651547275483570877x7)⟩, ⟨(PyData.keyHash P (tx [104, 97, 115, 97, 116, 116, 114])), (ts [104, 97, 115, 97, 116, 116, 114] 25), (.builtin PySem.W.SL.s4036449017235975746x7)⟩, ⟨(PyData.keyHash P (tx [104, 97, 115, 104])), (ts [104, 97, 115, 104] 26), (.builtin PySem.W.SL.s8879979712987360175x4)⟩, ⟨(PyData.keyHash P (tx [104, 101, 120])), (ts [104, 101, 120] 27), (.builtin PySem.W.SL.s1801250619170735830x3)⟩, ⟨(PyData.keyHash P (tx [105, 100])), (ts [105, 100] 28), (.builtin PySem.W.SL.s17659931425627118568x2)⟩, ⟨(PyData.keyHash P (tx [105, 110, 112, 117, 116])), (ts [105, 110, 112, 117, 116] 29), (.builtin PySem.W.SL.s6063217899685152688x5)⟩, ⟨(PyData.keyHash P (tx [105, 115, 105, 110, 115, 116, 97, 110, 99, 101])), (ts [105, 115, 105, 110, 115, 116, 97, 110, 99, 101] 30), (.builtin PySem.W.SL.s8008927332132565319x10)⟩, ⟨(PyData.keyHash P (tx [105, 115, 115, 117, 98, 99, 108, 97, 115, 115])), (ts [105, 115, 115, 117, 98, 99, 108, 97, 115, 115] 31), (.builtin PySem.W.SL.s3544116645089599534x10)⟩, ⟨(PyData.keyHash P (tx [105, 116, 101, 114])), (ts [105, 116, 101, 114] 32), (.builtin PySem.W.SL.s13761710972054866084x4)⟩, ⟨(PyData.keyHash P (tx [97, 105, 116, 101, 114])), (ts [97, 105, 116, 101, 114] 33), (.builtin PySem.W.SL.s12896375587409280029x5)⟩, ⟨(PyData.keyHash P (tx [108, 101, 110])), (ts [108, 101, 110] 34), (.builtin PySem.W.SL.s13014049009108672802x3)⟩, ⟨(PyData.keyHash P (tx [108, 111, 99, 97, 108, 115])), (ts [108, 111, 99, 97, 108, 115] 35), (.builtin PySem.W.SL.s13935586738268321596x6)⟩, ⟨(PyData.keyHash P (tx [109, 97, 120])), (ts [109, 97, 120] 36), (.builtin PySem.W.SL.s8200498257699607233x3)⟩, ⟨(PyData.keyHash P (tx [109, 105, 110])), (ts [109, 105, 110] 37), (.builtin PySem.W.SL.s14114244577727609259x3)⟩, ⟨(PyData.keyHash P (tx [110, 101, 120, 116])), (ts [110, 101, 120, 116] 38), (.builtin PySem.W.SL.s1499430450269397089x4)⟩, ⟨(PyData.keyHash P (tx [97, 110, 101, 120, 116])), (ts [97, 110, 101, 120, 116] 39), (.builtin PySem.W.SL.s8755793994789770505x5)⟩, ⟨(PyData.keyHash P (tx [111, 99, 116])), (ts [111, 99, 116] 40), (.builtin PySem.W.SL.s15725212667919936108x3)⟩, ⟨(PyData.keyHash P (tx [111, 114, 100])), (ts [111, 114, 100] 41), (.builtin PySem.W.SL.s15791221867095933363x3)⟩, ⟨(PyData.keyHash P (tx [112, 111, 119])), (ts [112, 111, 119] 42), (.builtin PySem.W.SL.s81309575031448614x3)⟩, ⟨(PyData.keyHash P (tx [112, 114, 105, 110, 116])), (ts [112, 114, 105, 110, 116] 43), (.builtin PySem.W.SL.s8069831620301644142x5)⟩, ⟨(PyData.keyHash P (tx [114, 101, 112, 114])), (ts [114, 101, 112, 114] 44), (.builtin PySem.W.SL.s10061844253413749634x4)⟩, ⟨(PyData.keyHash P (tx [114, 111, 117, 110, 100])), (ts [114, 111, 117, 110, 100] 45), (.builtin PySem.W.SL.s9496514870978017513x5)⟩, ⟨(PyData.keyHash P (tx [115, 101, 116, 97, 116, 116, 114])), (ts [115, 101, 116, 97, 116, 116, 114] 46), (.builtin PySem.W.SL.s8899691144933366716x7)⟩, ⟨(PyData.keyHash P (tx [115, 111, 114, 116, 101, 100])), (ts [115, 111, 114, 116, 101, 100] 47), (.builtin PySem.W.SL.s15201008993051130160x6)⟩, ⟨(PyData.keyHash P (tx [115, 117, 109])), (ts [115, 117, 109] 48), (.builtin PySem.W.SL.s741896355592496720x3)⟩, ⟨(PyData.keyHash P (tx [118, 97, 114, 115])), (ts [118, 97, 114, 115] 49), (.builtin PySem.W.SL.s17925004256654032244x4)⟩, ⟨(PyData.keyHash P (tx [78, 111, 110, 101])), (ts [78, 111, 110, 101] 50), .none⟩, ⟨(PyData.keyHash P (tx [69, 108, 108, 105, 112, 115, 105, 115])), (ts [69, 108, 108, 105, 112, 115, 105, 115] 51), .ellipsis⟩, ⟨(PyData.keyHash P (tx [78, 111, 116, 73, 109, 112, 108, 101, 109, 101, 110, 116, 101, 100])), (ts [78, 111, 116, 73, 109, 112, 108, 101, 109, 101, 110, 116, 101, 100] 52), .notImplemented⟩, ⟨(PyData.keyHash P (tx [70, 97, 108, 115, 101])), (ts [70, 97, 108, 115, 101] 53), (.bool false)⟩, ⟨(PyData.keyHash P (tx [84, 114, 117, 101])), (ts [84, 114, 117, 101] 54), (.bool true)⟩, ⟨(PyData.keyHash P (tx [98, 111, 111, 108])), (ts [98, 111, 111, 108] 55), (.type PySem.W.SL.s11695548795398191787x4)⟩, ⟨(PyData.keyHash P (tx [109, 101, 109, 111, 114, 121, 118, 105, 101, 119])), (ts [109, 101, 109, 111, 114, 121, 118, 105, 101, 119] 56), (.type PySem.W.SL.s4156966113859768872x10)⟩, ⟨(PyData.keyHash P (tx [98, 121, 116, 101, 97, 114, 114, 97, 121])), (ts [98, 121, 116, 101, 97, 114, 114, 97, 121] 57), (.type PySem.W.SL.s9501651726347032510x9)⟩, ⟨(PyData.keyHash P (tx [98, 121, 116, 101, 115])), (ts [98, 121, 116, 101, 115] 58), (.type PySem.W.SL.s15722918466584999320x5)⟩, ⟨(PyData.keyHash P (tx [99, 108, 97, 115, 115, 109, 101, 116, 104, 111, 100])), (ts [99, 108, 97, 115, 115, 109, 101, 116, 104, 111, 100] 59), (.type PySem.W.SL.s591115383303110208x11)⟩, ⟨(PyData.keyHash P (tx [99, 111, 109, 112, 108, 101, 120])), (ts [99, 111, 109, 112, 108, 101, 120] 60), (.type PySem.W.SL.s15721156781594690315x7)⟩, ⟨(PyData.keyHash P (tx [100, 105, 99, 116])), (ts [100, 105, 99, 116] 61), (.type PySem.W.SL.s14018661285674007319x4)⟩, ⟨(PyData.keyHash P (tx [101, 110, 117, 109, 101, 114, 97, 116, 101])), (ts [101, 110, 117, 109, 101, 114, 97, 116, 101] 62), (.type PySem.W.SL.s14340494229221121180x9)⟩, ⟨(PyData.keyHash P (tx [102, 105, 108, 116, 101, 114])), (ts [102, 105, 108, 116, 101, 114] 63), (.type PySem.W.SL.s13429844117177748173x6)⟩, ⟨(PyData.keyHash P (tx [102, 108, 111, 97, 116])), (ts [102, 108, 111, 97, 116] 64), (.type PySem.W.SL.s16463266125957815391x5)⟩, ⟨(PyData.keyHash P (tx [102, 114, 111, 122, 101, 110, 115, 101, 116])), (ts [102, 114, 111, 122, 101, 110, 115, 101, 116] 65), (.type PySem.W.SL.s4922535414793169389x9)⟩, ⟨(PyData.keyHash P (tx [112, 114, 111, 112, 101, 114, 116, 121])), (ts [112, 114, 111, 112, 101, 114, 116, 121] 66), (.type PySem.W.SL.s8101838861749082086x8)⟩, ⟨(PyData.keyHash P (tx [105, 110, 116])), (ts [105, 110, 116] 67), (.type PySem.W.SL.s7066276694103001551x3)⟩, ⟨(PyData.keyHash P (tx [108, 105, 115, 116])), (ts [108, 105, 115, 116] 68), (.type PySem.W.SL.s9222952809800978799x4)⟩, ⟨(PyData.keyHash P (tx [109, 97, 112])), (ts [109, 97, 112] 69), (.type PySem.W.SL.s462964344163437139x3)⟩, ⟨(PyData.keyHash P (tx [111, 98, 106, 101, 99, 116])), (ts [111, 98, 106, 101, 99, 116] 70), (.type PySem.W.SL.s2742458400755230247x6)⟩, ⟨(PyData.keyHash P (tx [114, 97, 110, 103, 101])), (ts [114, 97, 110, 103, 101] 71), (.type PySem.W.SL.s1438033511350832697x5)⟩, ⟨(PyData.keyHash P (tx [114, 101, 118, 101, 114, 115, 101, 100])), (ts [114, 101, 118, 101, 114, 115, 101, 100] 72), (.type PySem.W.SL.s14365286008749172514x8)⟩, ⟨(PyData.keyHash P (tx [115, 101, 116])), (ts [115, 101, 116] 73), (.type PySem.W.SL.s3642769012341782148x3)⟩, ⟨(PyData.keyHash P (tx [115, 108, 105, 99, 101])), (ts [115, 108, 105, 99, 101] 74), (.type PySem.W.SL.s4674234679698826739x5)⟩, ⟨(PyData.keyHash P (tx [115, 116, 97, 116, 105, 99, 109, 101, 116, 104, 111, 100])), (ts [115, 116, 97, 116, 105, 99, 109, 101, 116, 104, 111, 100] 75), (.type PySem.W.SL.s16656946322747308186x12)⟩, ⟨(PyData.keyHash P (tx [115, 116, 114])), (ts [115, 116, 114] 76), (.type PySem.W.SL.s10796804682411823810x3)⟩, ⟨(PyData.keyHash P (tx [115, 117, 112, 101, 114])), (ts [115, 117, 112, 101, 114] 77), (.type PySem.W.SL.s4290257624100764138x5)⟩, ⟨(PyData.keyHash P (tx [116, 117, 112, 108, 101])), (ts [116, 117, 112, 108, 101] 78), (.type PySem.W.SL.s2766695959194262286x5)⟩, ⟨(PyData.keyHash P (tx [116, 121, 112, 101])), (ts [116, 121, 112, 101] 79), (.type PySem.W.SL.s17162191345867700912x4)⟩, ⟨(PyData.keyHash P (tx [122, 105, 112])), (ts [122, 105, 112] 80), (.type PySem.W.SL.s14339709457334898076x3)⟩, ⟨(PyData.keyHash P (tx [95, 95, 100, 101, 98, 117, 103, 95, 95])), (ts [95, 95, 100, 101, 98, 117, 103, 95, 95] 81), (.bool true)⟩, ⟨(PyData.keyHash P (tx [66, 97, 115, 101, 69, 120, 99, 101, 112, 116, 105, 111, 110])), (ts [66, 97, 115, 101, 69, 120, 99, 101, 112, 116, 105, 111, 110] 82), (.type PySem.W.SL.s4278001404047624695x13)⟩, ⟨(PyData.keyHash P (tx [66, 97, 115, 101, 69, 120, 99, 101, 112, 116, 105, 111, 110, 71, 114, 111, 117, 112])), (ts [66, 97, 115, 101, 69, 120, 99, 101, 112, 116, 105, 111, 110, 71, 114, 111, 117, 112] 83), (.type PySem.W.SL.s6585700554429387442x18)⟩, ⟨(PyData.keyHash P (tx [69, 120, 99, 101, 112, 116, 105, 111, 110])), (ts [69, 120, 99, 101, 112, 116, 105, 111, 110] 84), (.type PySem.W.SL.s5946037652744460706x9)⟩, ⟨(PyData.keyHash P (tx [71, 101, 110, 101, 114, 97, 116, 111, 114, 69, 120, 105, 116])), (ts [71, 101, 110, 101, 114, 97, 116, 111, 114, 69, 120, 105, 116] 85), (.type PySem.W.SL.s7410770068591931388x13)⟩, ⟨(PyData.keyHash P (tx [75, 101, 121, 98, 111, 97, 114, 100, 73, 110, 116, 101, 114, 114, 117, 112, 116])), (ts [75, 101, 121, 98, 111, 97, 114, 100, 73, 110, 116, 101, 114, 114, 117, 112, 116] 86), (.type PySem.W.SL.s11817881795495490833x17)⟩, ⟨(PyData.keyHash P (tx [83, 121, 115, 116, 101, 109, 69, 120, 105, 116])), (ts [83, 121, 115, 116, 101, 109, 69, 120, 105, 116] 87), (.type PySem.W.SL.s15679963881808890155x10)⟩, ⟨(PyData.keyHash P (tx [65, 114, 105, 116, 104, 109, 101, 116, 105, 99, 69, 114, 114, 111, 114])), (ts [65, 114, 105, 116, 104, 109, 101, 116, 105, 99, 69, 114, 114, 111, 114] 88), (.type PySem.W.SL.s3871700062485845797x15)⟩, ⟨(PyData.keyHash P (tx [65, 115, 115, 101, 114, 116, 105, 111, 110, 69, 114, 114, 111, 114])), (ts [65, 115, 115, 101, 114, 116, 105, 111, 110, 69, 114, 114, 111, 114] 89), (.type PySem.W.SL.s7689518266570723881x14)⟩, ⟨(PyData.keyHash P (tx [65, 116, 116, 114, 105, 98, 117, 116, 101, 69, 114, 114, 111, 114])), (ts [65, 116, 116, 114, 105, 98, 117, 116, 101, 69, 114, 114, 111, 114] 90), (.type PySem.W.SL.s9001593270443806431x14)⟩, ⟨(PyData.keyHash P (tx [66, 117, 102, 102, 101, 114, 69, 114, 114, 111, 114])), (ts [66, 117, 102, 102, 101, 114, 69, 114, 114, 111, 114] 91), (.type PySem.W.SL.s6882542574934516792x11)⟩, ⟨(PyData.keyHash P (tx [69, 79, 70, 69, 114, 114, 111, 114])), (ts [69, 79, 70, 69, 114, 114, 111, 114] 92), (.type PySem.W.SL.s14403400214490484960x8)⟩, ⟨(PyData.keyHash P (tx [73, 109, 112, 111, 114, 116, 69, 114, 114, 111, 114])), (ts [73, 109, 112, 111, 114, 116, 69, 114, 114, 111, 114] 93), (.type PySem.W.SL.s14457978657717015782x11)⟩, ⟨(PyData.keyHash P (tx [76, 111, 111, 107, 117, 112, 69, 114, 114, 111, 114])), (ts [76, 111, 111, 107, 117, 112, 69, 114, 114, 111, 114] 94), (.type PySem.W.SL.s1753610191782819921x11)⟩, ⟨(PyData.keyHash P (tx [77, 101, 109, 111, 114, 121, 69, 114, 114, 111, 114])), (ts [77, 101, 109, 111, 114, 121, 69, 114, 114, 111, 114] 95), (.type PySem.W.SL.s14119380538032626715x11)⟩, ⟨(PyData.keyHash P (tx [78, 97, 109, 101, 69, 114, 114, 111, 114])), (ts [78, 97, 109, 101, 69, 114, 114, 111, 114] 96), (.type PySem.W.SL.s11437920000406562045x9)⟩, ⟨(PyData.keyHash P (tx [79, 83, 69, 114, 114, 111, 114])), (ts [79, 83, 69, 114, 114, 111, 114] 97), (.type PySem.W.SL.s10852414792293593619x7)⟩, ⟨(PyData.keyHash P (tx [82, 101, 102, 101, 114, 101, 110, 99, 101, 69, 114, 114, 111, 114])), (ts [82, 101, 102, 101, 114, 101, 110, 99, 101, 69, 114, 114, 111, 114] 98), (.type PySem.W.SL.s14816307405966870543x14)⟩, ⟨(PyData.keyHash P (tx [82, 117, 110, 116, 105, 109, 101, 69, 114, 114, 111, 114])), (ts [82, 117, 110, 116, 105, 109, 101, 69, 114, 114, 111, 114] 99), (.type PySem.W.SL.s8682627914449686677x12)⟩, ⟨(PyData.keyHash P (tx [83, 116, 111, 112, 65, 115, 121, 110, 99, 73, 116, 101, 114, 97, 116, 105, 111, 110])), (ts [83, 116, 111, 112, 65, 115, 121, 110, 99, 73, 116, 101, 114, 97, 116, 105, 111, 110] 100), (.type PySem.W.SL.s4428170145600203450x18)⟩, ⟨(PyData.keyHash P (tx [83, 116, 111, 112, 73, 116, 101, 114, 97, 116, 105, 111, 110])), (ts [83, 116, 111, 112, 73, 116, 101, 114, 97, 116, 105, 111, 110] 101), (.type PySem.W.SL.s5991306692159431302x13)⟩, ⟨(PyData.keyHash P (tx [83, 121, 110, 116, 97, 120, 69, 114, 114, 111, 114])), (ts [83, 121, 110, 116, 97, 120, 69, 114, 114, 111, 114] 102), (.type PySem.W.SL.s16067994140765818257x11)⟩, ⟨(PyData.keyHash P (tx [83, 121, 115, 116, 101, 109, 69, 114, 114, 111, 114])), (ts [83, 121, 115, 116, 101, 109, 69, 114, 114, 111, 114] 103), (.type PySem.W.SL.s2327743974964600596x11)⟩, ⟨(PyData.keyHash P (tx [84, 121, 112, 101, 69, 114, 114, 111, 114])), (ts [84, 121, 112, 101, 69, 114, 114, 111, 114] 104), (.type PySem.W.SL.s2804747833354056582x9)⟩, ⟨(PyData.keyHash P (tx [86, 97, 108, 117, 101, 69, 114, 114, 111, 114])), (ts [86, 97, 108, 117, 101, 69, 114, 114, 111, 114] 105), (.type PySem.W.SL.s6070975301684473832x10)⟩, ⟨(PyData.keyHash P (tx [87, 97, 114, 110, 105, 110, 103])), (ts [87, 97, 114, 110, 105, 110, 103] 106), (.type PySem.W.SL.s14270485950484850486x7)⟩, ⟨(PyData.keyHash P (tx [70, 108, 111, 97, 116, 105, 110, 103, 80, 111, 105, 110, 116, 69, 114, 114, 111, 114])), (ts [70, 108, 111, 97, 116, 105, 110, 103, 80, 111, 105, 110, 116, 69, 114, 114, 111, 114] 107), (.type PySem.W.SL.s12041534306414923332x18)⟩, ⟨(PyData.keyHash P (tx [79, 118, 101, 114, 102, 108, 111, 119, 69, 114, 114, 111, 114])), (ts [79, 118, 101, 114, 102, 108, 111, 119, 69, 114, 114, 111, 114] 108), (.type PySem.W.SL.s2531307568338490285x13)⟩, ⟨(PyData.keyHash P (tx [90, 101, 114, 111, 68, 105, 118, 105, 115, 105, 111, 110, 69, 114, 114, 111, 114])), (ts [90, 101, 114, 111, 68, 105, 118, 105, 115, 105, 111, 110, 69, 114, 114, 111, 114] 109), (.type PySem.W.SL.s631175304937289666x17)⟩, ⟨(PyData.keyHash P (tx [66, 121, 116, 101, 115, 87, 97, 114, 110, 105, 110, 103])), (ts [66, 121, 116, 101, 115, 87, 97, 114, 110, 105, 110, 103] 110), (.type PySem.W.SL.s5144983644357021410x12)⟩, ⟨(PyData.keyHash P (tx [68, 101, 112, 114, 101, 99, 97, 116, 105, 111, 110, 87, 97, 114, 110, 105, 110, 103])), (ts [68, 101, 112, 114, 101, 99, 97, 116, 105, 111, 110, 87, 97, 114, 110, 105, 110, 103] 111), (.type PySem.W.SL.s18039099521571816885x18)⟩, ⟨(PyData.keyHash P (tx [69, 110, 99, 111, 100, 105, 110, 103, 87, 97, 114, 110, 105, 110, 103])), (ts [69, 110, 99, 111, 100, 105, 110, 103, 87, 97, 114, 110, 105, 110, 103] 112), (.type PySem.W.SL.s6011586214260557989x15)⟩, ⟨(PyData.keyHash P (tx [70, 117, 116, 117, 114, 101, 87, 97, 114, 110, 105, 110, 103])), (ts [70, 117, 116, 117, 114, 101, 87, 97, 114, 110, 105, 110, 103] 113), (.type PySem.W.SL.s5430567037509283100x13)⟩, ⟨(PyData.keyHash P (tx [73, 109, 112, 111, 114, 116, 87, 97, 114, 110, 105, 110, 103])), (ts [73, 109, 112, 111, 114, 116, 87, 97, 114, 110, 105, 110, 103] 114), (.type PySem.W.SL.s8117915138073963741x13)⟩, ⟨(PyData.keyHash P (tx [80, 101, 110, 100, 105, 110, 103, 68, 101, 112, 114, 101, 99, 97, 116, 105, 111, 110, 87, 97, 114, 110, 105, 110, 103])), (ts [80, 101, 110, 100, 105, 110, 103, 68, 101, 112, 114, 101, 99, 97, 116, 105, 111, 110, 87, 97, 114, 110, 105, 110, 103] 115), (.type PySem.W.SL.s3423317712779056401x25)⟩, ⟨(PyData.keyHash P (tx [82, 101, 115, 111, 117, 114, 99, 101, 87, 97, 114, 110, 105, 110, 103])), (ts [82, 101, 115, 111, 117, 114, 99, 101, 87, 97, 114, 110, 105, 110, 103] 116), (.type PySem.W.SL.s2007317383269046180x15)⟩, ⟨(PyData.keyHash P (tx [82, 117, 110, 116, 105, 109, 101, 87, 97, 114, 110, 105, 110, 103])), (ts [82, 117, 110, 116, 105, 109, 101, 87, 97, 114, 110, 105, 110, 103] 117), (.type PySem.W.SL.s17481586968713580700x14)⟩, ⟨(PyData.keyHash P (tx [83, 121, 110, 116, 97, 120, 87, 97, 114, 110, 105, 110, 103])), (ts [83, 121, 110, 116, 97, 120, 87, 97, 114, 110, 105, 110, 103] 118), (.type PySem.W.SL.s2450899226349176912x13)⟩, ⟨(PyData.keyHash P (tx [85, 110, 105, 99, 111, 100, 101, 87, 97, 114, 110, 105, 110, 103])), (ts [85, 110, 105, 99, 111, 100, 101, 87, 97, 114, 110, 105, 110, 103] 119), (.type PySem.W.SL.s16626165730633575011x14)⟩, ⟨(PyData.keyHash P (tx [85, 115, 101, 114, 87, 97, 114, 110, 105, 110, 103])), (ts [85, 115, 101, 114, 87, 97, 114, 110, 105, 110, 103] 120), (.type PySem.W.SL.s14288496050688921416x11)⟩, ⟨(PyData.keyHash P (tx [66, 108, 111, 99, 107, 105, 110, 103, 73, 79, 69, 114, 114, 111, 114])), (ts [66, 108, 111, 99, 107, 105, 110, 103, 73, 79, 69, 114, 114, 111, 114] 121), (.type PySem.W.SL.s5735081916595925998x15)⟩, ⟨(PyData.keyHash P (tx [67, 104, 105, 108, 100, 80, 114, 111, 99, 101, 115, 115, 69, 114, 114, 111, 114])), (ts [67, 104, 105, 108, 100, 80, 114, 111, 99, 101, 115, 115, 69, 114, 114, 111, 114] 122), (.type PySem.W.SL.s3865607918536308442x17)⟩, ⟨(PyData.keyHash P (tx [67, 111, 110, 110, 101, 99, 116, 105, 111, 110, 69, 114, 114, 111, 114])), (ts [67, 111, 110, 110, 101, 99, 116, 105, 111, 110, 69, 114, 114, 111, 114] 123), (.type PySem.W.SL.s13337502604062700212x15)⟩, ⟨(PyData.keyHash P (tx [70, 105, 108, 101, 69, 120, 105, 115, 116, 115, 69, 114, 114, 111, 114])), (ts [70, 105, 108, 101, 69, 120, 105, 115, 116, 115, 69, 114, 114, 111, 114] 124), (.type PySem.W.SL.s13114017843053701147x15)⟩, ⟨(PyData.keyHash P (tx [70, 105, 108, 101, 78, 111, 116, 70, 111, 117, 110, 100, 69, 114, 114, 111, 114])), (ts [70, 105, 108, 101, 78, 111, 116, 70, 111, 117, 110, 100, 69, 114, 114, 111, 114] 125), (.type PySem.W.SL.s17467278006356818441x17)⟩, ⟨(PyData.keyHash P (tx [73, 110, 116, 101, 114, 114, 117, 112, 116, 101, 100, 69, 114, 114, 111, 114])), (ts [73, 110, 116, 101, 114, 114, 117, 112, 116, 101, 100, 69, 114, 114, 111, 114] 126), (.type PySem.W.SL.s17722149559621369488x16)⟩, ⟨(PyData.keyHash P (tx [73, 115, 65, 68, 105, 114, 101, 99, 116, 111, 114, 121, 69, 114, 114, 111, 114])), (ts [73, 115, 65, 68, 105, 114, 101, 99, 116, 111, 114, 121, 69, 114, 114, 111, 114] 127), (.type PySem.W.SL.s7855274175708717672x17)⟩, ⟨(PyData.keyHash P (tx [78, 111, 116, 65, 68, 105, 114, 101, 99, 116, 111, 114, 121, 69, 114, 114, 111, 114])), (ts [78, 111, 116, 65, 68, 105, 114, 101, 99, 116, 111, 114, 121, 69, 114, 114, 111, 114] 128), (.type PySem.W.SL.s13351283678309829046x18)⟩, ⟨(PyData.keyHash P (tx [80, 101, 114, 109, 105, 115, 115, 105, 111, 110, 69, 114, 114, 111, 114])), (ts [80, 101, 114, 109, 105, 115, 115, 105, 111, 110, 69, 114, 114, 111, 114] 129), (.type PySem.W.SL.s6668348653404991179x15)⟩, ⟨(PyData.keyHash P (tx [80, 114, 111, 99, 101, 115, 115, 76, 111, 111, 107, 117, 112, 69, 114, 114, 111, 114])), (ts [80, 114, 111, 99, 101, 115, 115, 76, 111, 111, 107, 117, 112, 69, 114, 114, 111, 114] 130), (.type PySem.W.SL.s12913350958174193794x18)⟩, ⟨(PyData.keyHash P (tx [84, 105, 109, 101, 111, 117, 116, 69, 114, 114, 111, 114])), (ts [84, 105, 109, 101, 111, 117, 116, 69, 114, 114, 111, 114] 131), (.type PySem.W.SL.s16115879512475548326x12)⟩, ⟨(PyData.keyHash P (tx [73, 110, 100, 101, 110, 116, 97, 116, 105, 111, 110, 69, 114, 114, 111, 114])), (ts [73, 110, 100, 101, 110, 116, 97, 116, 105, 111, 110, 69, 114, 114, 111, 114] 132), (.type PySem.W.SL.s15920661018069861047x16)⟩, ⟨(PyData.keyHash P (tx [95, 73, 110, 99, 111, 109, 112, 108, 101, 116, 101, 73, 110, 112, 117, 116, 69, 114, 114, 111, 114])), (ts [95, 73, 110, 99, 111, 109, 112, 108, 101, 116, 101, 73, 110, 112, 117, 116, 69, 114, 114, 111, 114] 133), (.type PySem.W.SL.s10779130036587390575x21)⟩, ⟨(PyData.keyHash P (tx [73, 110, 100, 101, 120, 69, 114, 114, 111, 114])), (ts [73, 110, 100, 101, 120, 69, 114, 114, 111, 114] 134), (.type PySem.W.SL.s7801419657504700863x10)⟩, ⟨(PyData.keyHash P (tx [75, 101, 121, 69, 114, 114, 111, 114])), (ts [75, 101, 121, 69, 114, 114, 111, 114] 135), (.type PySem.W.SL.s1688129525768580628x8)⟩, ⟨(PyData.keyHash P (tx [77, 111, 100, 117, 108, 101, 78, 111, 116, 70, 111, 117, 110, 100, 69, 114, 114, 111, 114])), (ts [77, 111, 100, 117, 108, 101, 78, 111, 116, 70, 111, 117, 110, 100, 69, 114, 114, 111, 114] 136), (.type PySem.W.SL.s1031832959479892071x19)⟩, ⟨(PyData.keyHash P (tx [78, 111, 116, 73, 109, 112, 108, 101, 109, 101, 110, 116, 101, 100, 69, 114, 114, 111, 114])), (ts [78, 111, 116, 73, 109, 112, 108, 101, 109, 101, 110, 116, 101, 100, 69, 114, 114, 111, 114] 137), (.type PySem.W.SL.s8991790508128307865x19)⟩, ⟨(PyData.keyHash P (tx [80, 121, 116, 104, 111, 110, 70, 105, 110, 97, 108, 105, 122, 97, 116, 105, 111, 110, 69, 114, 114, 111, 114])), (ts [80, 121, 116, 104, 111, 110, 70, 105, 110, 97, 108, 105, 122, 97, 116, 105, 111, 110, 69, 114, 114, 111, 114] 138), (.type PySem.W.SL.s14539662485746970245x23)⟩, ⟨(PyData.keyHash P (tx [82, 101, 99, 117, 114, 115, 105, 111, 110, 69, 114, 114, 111, 114])), (ts [82, 101, 99, 117, 114, 115, 105, 111, 110, 69, 114, 114, 111, 114] 139), (.type PySem.W.SL.s11643622729373238714x14)⟩, ⟨(PyData.keyHash P (tx [85, 110, 98, 111, 117, 110, 100, 76, 111, 99, 97, 108, 69, 114, 114, 111, 114])), (ts [85, 110, 98, 111, 117, 110, 100, 76, 111, 99, 97, 108, 69, 114, 114, 111, 114] 140), (.type PySem.W.SL.s3386828779285465597x17)⟩, ⟨(PyData.keyHash P (tx [85, 110, 105, 99, 111, 100, 101, 69, 114, 114, 111, 114])), (ts [85, 110, 105, 99, 111, 100, 101, 69, 114, 114, 111, 114] 141), (.type PySem.W.SL.s13042696260734638735x12)⟩, ⟨(PyData.keyHash P (tx [66, 114, 111, 107, 101, 110, 80, 105, 112, 101, 69, 114, 114, 111, 114])), (ts [66, 114, 111, 107, 101, 110, 80, 105, 112, 101, 69, 114, 114, 111, 114] 142), (.type PySem.W.SL.s18239426817015966623x15)⟩, ⟨(PyData.keyHash P (tx [67, 111, 110, 110, 101, 99, 116, 105, 111, 110, 65, 98, 111, 114, 116, 101, 100, 69, 114, 114, 111, 114])), (ts [67, 111, 110, 110, 101, 99, 116, 105, 111, 110, 65, 98, 111, 114, 116, 101, 100, 69, 114, 114, 111, 114] 143), (.type PySem.W.SL.s1270395311379034370x22)⟩, ⟨(PyData.keyHash P (tx [67, 111, 110, 110, 101, 99, 116, 105, 111, 110, 82, 101, 102, 117, 115, 101, 100, 69, 114, 114, 111, 114])), (ts [67, 111, 110, 110, 101, 99, 116, 105, 111, 110, 82, 101, 102, 117, 115, 101, 100, 69, 114, 114, 111, 114] 144), (.type PySem.W.SL.s10696252587037064777x22)⟩, ⟨(PyData.keyHash P (tx [67, 111, 110, 110, 101, 99, 116, 105, 111, 110, 82, 101, 115, 101, 116, 69, 114, 114, 111, 114])), (ts [67, 111, 110, 110, 101, 99, 116, 105, 111, 110, 82, 101, 115, 101, 116, 69, 114, 114, 111, 114] 145), (.type PySem.W.SL.s7852717498200857586x20)⟩, ⟨(PyData.keyHash P (tx [84, 97, 98, 69, 114, 114, 111, 114])), (ts [84, 97, 98, 69, 114, 114, 111, 114] 146), (.type PySem.W.SL.s6377248116197321094x8)⟩, ⟨(PyData.keyHash P (tx [85, 110, 105, 99, 111, 100, 101, 68, 101, 99, 111, 100, 101, 69, 114, 114, 111, 114])), (ts [85, 110, 105, 99, 111, 100, 101, 68, 101, 99, 111, 100, 101, 69, 114, 114, 111, 114] 147), (.type PySem.W.SL.s3834378056692298002x18)⟩, ⟨(PyData.keyHash P (tx [85, 110, 105, 99, 111, 100, 101, 69, 110, 99, 111, 100, 101, 69, 114, 114, 111, 114])), (ts [85, 110, 105, 99, 111, 100, 101, 69, 110, 99, 111, 100, 101, 69, 114, 114, 111, 114] 148), (.type PySem.W.SL.s17586630440231065808x18)⟩, ⟨(PyData.keyHash P (tx [85, 110, 105, 99, 111, 100, 101, 84, 114, 97, 110, 115, 108, 97, 116, 101, 69, 114, 114, 111, 114])), (ts [85, 110, 105, 99, 111, 100, 101, 84, 114, 97, 110, 115, 108, 97, 116, 101, 69, 114, 114, 111, 114] 149), (.type PySem.W.SL.s15234114252648025395x21)⟩, ⟨(PyData.keyHash P (tx [69, 120, 99, 101, 112, 116, 105, 111, 110, 71, 114, 111, 117, 112])), (ts [69, 120, 99, 101, 112, 116, 105, 111, 110, 71, 114, 111, 117, 112] 150), (.type PySem.W.SL.s8496462677383758984x14)⟩, ⟨(PyData.keyHash P (tx [69, 110, 118, 105, 114, 111, 110, 109, 101, 110, 116, 69, 114, 114, 111, 114])), (ts [69, 110, 118, 105, 114, 111, 110, 109, 101, 110, 116, 69, 114, 114, 111, 114] 151), (.type PySem.W.SL.s10852414792293593619x7)⟩, ⟨(PyData.keyHash P (tx [73, 79, 69, 114, 114, 111, 114])), (ts [73, 79, 69, 114, 114, 111, 114] 152), (.type PySem.W.SL.s10852414792293593619x7)⟩, ⟨(PyData.keyHash P (tx [111, 112, 101, 110])), (ts [111, 112, 101, 110] 153), (.builtin PySem.W.SL.s16789243406116112673x4)⟩, ⟨(PyData.keyHash P (tx [113, 117, 105, 116])), (ts [113, 117, 105, 116] 154), (.builtin PySem.W.SL.s14400166428656793546x20)⟩, ⟨(PyData.keyHash P (tx [101, 120, 105, 116])), (ts [101, 120, 105, 116] 155), (.builtin PySem.W.SL.s5857708277339239366x20)⟩, ⟨(PyData.keyHash P (tx [99, 111, 112, 121, 114, 105, 103, 104, 116])), (ts [99, 111, 112, 121, 114, 105, 103, 104, 116] 156), (.builtin "builtins.copyright#opaque")⟩, ⟨(PyData.keyHash P (tx [99, 114, 101, 100, 105, 116, 115])), (ts [99, 114, 101, 100, 105, 116, 115] 157), (.builtin "builtins.credits#opaque")⟩, ⟨(PyData.keyHash P (tx [108, 105, 99, 101, 110, 115, 101])), (ts [108, 105, 99, 101, 110, 115, 101] 158), (.builtin "builtins.license#opaque")⟩, ⟨(PyData.keyHash P (tx [104, 101, 108, 112])), (ts [104, 101, 108, 112] 159), (.builtin PySem.W.SL.s7804999707787243718x20)⟩]) 159), Array.mk []⟩
noncomputable def o1 (R : OpenLaw) (P : Params) : Obj := ⟨(.type PySem.W.SL.s14018661285674007319x4), none, (.dict (Array.mk [⟨(PyData.keyHash P (tx [98, 117, 105, 108, 116, 105, 110, 115])), (ts [98, 117, 105, 108, 116, 105, 110, 115] 162), (.ref 4)⟩, ⟨(PyData.keyHash P (tx [95, 95, 109, 97, 105, 110, 95, 95])), (ts [95, 95, 109, 97, 105, 110, 95, 95] 163), (.ref 5)⟩]) 2), Array.mk []⟩
noncomputable def o2 (R : OpenLaw) (P : Params) : Obj := ⟨.none, none, (.dict (Array.mk []) 0), Array.mk []⟩
noncomputable def o3 (R : OpenLaw) (P : Params) : Obj := ⟨(.type PySem.W.SL.s14018661285674007319x4), none, (.dict (Array.mk [⟨(PyData.keyHash P (tx [95, 95, 110, 97, 109, 101, 95, 95])), (ts [95, 95, 110, 97, 109, 101, 95, 95] 165), (ts [95, 95, 109, 97, 105, 110, 95, 95] 164)⟩, ⟨(PyData.keyHash P (tx [95, 95, 100, 111, 99, 95, 95])), (ts [95, 95, 100, 111, 99, 95, 95] 166), .none⟩, ⟨(PyData.keyHash P (tx [95, 95, 112, 97, 99, 107, 97, 103, 101, 95, 95])), (ts [95, 95, 112, 97, 99, 107, 97, 103, 101, 95, 95] 167), .none⟩, ⟨(PyData.keyHash P (tx [95, 95, 108, 111, 97, 100, 101, 114, 95, 95])), (ts [95, 95, 108, 111, 97, 100, 101, 114, 95, 95] 168), (.builtin PySem.W.SL.s7097527257260152453x26)⟩, ⟨(PyData.keyHash P (tx [95, 95, 115, 112, 101, 99, 95, 95])), (ts [95, 95, 115, 112, 101, 99, 95, 95] 169), .none⟩, ⟨(PyData.keyHash P (tx [95, 95, 97, 110, 110, 111, 116, 97, 116, 105, 111, 110, 115, 95, 95])), (ts [95, 95, 97, 110, 110, 111, 116, 97, 116, 105, 111, 110, 115, 95, 95] 170), (.ref 6)⟩, ⟨(PyData.keyHash P (tx [95, 95, 98, 117, 105, 108, 116, 105, 110, 115, 95, 95])), (ts [95, 95, 98, 117, 105, 108, 116, 105, 110, 115, 95, 95] 171), (.ref 4)⟩, ⟨(PyData.keyHash P (tx [95, 95, 102, 105, 108, 101, 95, 95])), (ts [95, 95, 102, 105, 108, 101, 95, 95] 173), (ts [47, 99, 108, 97, 105, 109, 47, 99, 117, 116, 46, 112, 121] 172)⟩, ⟨(PyData.keyHash P (tx [95, 95, 99, 97, 99, 104, 101, 100, 95, 95])), (ts [95, 95, 99, 97, 99, 104, 101, 100, 95, 95] 174), .none⟩]) 9), Array.mk []⟩
noncomputable def o4 (R : OpenLaw) (P : Params) : Obj := ⟨(.type PySem.W.SL.s6658869562736209489x6), (some 0), .plain, Array.mk []⟩
noncomputable def o5 (R : OpenLaw) (P : Params) : Obj := ⟨(.type PySem.W.SL.s6658869562736209489x6), (some 3), .plain, Array.mk []⟩
noncomputable def o6 (R : OpenLaw) (P : Params) : Obj := ⟨(.type PySem.W.SL.s14018661285674007319x4), none, (.dict (Array.mk []) 0), Array.mk []⟩
noncomputable def o7 (R : OpenLaw) (P : Params) : Obj := ⟨(.type PySem.W.SL.s2766695959194262286x5), none, (.seq (Array.mk []) 0), Array.mk []⟩
noncomputable def o8 (R : OpenLaw) (P : Params) : Obj := ⟨.none, none, (.fields (Array.mk [])), Array.mk []⟩
noncomputable def o9 (R : OpenLaw) (P : Params) : Obj := ⟨(.type PySem.W.SL.s5856160107412720595x4), none, (.fields (Array.mk [(ts [60, 109, 111, 100, 117, 108, 101, 62] 176), (ts [60, 109, 111, 100, 117, 108, 101, 62] 177), (ts [47, 99, 108, 97, 105, 109, 47, 99, 117, 116, 46, 112, 121] 178), (.int 1 0), (.int 0 0), (.int 0 0), (.int 0 0), (.int 0 0), (.ref 7), (.bool false), (.int 175 0), (.ref 8), .none, .none, .none, .none, (.int 179 0), (.int 1 0), (ts [47, 99, 108, 97, 105, 109, 47, 99, 117, 116, 46, 112, 121] 180)])), Array.mk []⟩
noncomputable def o10 (R : OpenLaw) (P : Params) : Obj := ⟨(.type PySem.W.SL.s658472552662922059x5), none, .plain, Array.mk [(some (.ref 9)), (some (.ref 3)), (some (.ref 3)), none, (some (ts [95, 95, 109, 97, 105, 110, 95, 95] 164)), none, (some (.ref 0))]⟩
noncomputable def trz (R : OpenLaw) (P : Params) : BT := (.node (o0 R P) (.node (o1 R P) (.node (o3 R P) (.node (o7 R P) .nil .nil) .nil) (.node (o5 R P) (.node (o9 R P) .nil .nil) .nil)) (.node (o2 R P) (.node (o4 R P) (.node (o8 R P) .nil .nil) .nil) (.node (o6 R P) (.node (o10 R P) .nil .nil) .nil)))
noncomputable def Sz : St := fun R w os => ⟨trz R w.params, 11, {}, Array.mk [], {}, 181, os⟩
noncomputable def o11 (R : OpenLaw) (P : Params) : Obj := ⟨(.type PySem.W.SL.s5856160107412720595x4), none, (.fields (Array.mk [(ts [60, 109, 111, 100, 117, 108, 101, 62] 182), (ts [60, 109, 111, 100, 117, 108, 101, 62] 183), (ts [47, 99, 108, 97, 105, 109, 47, 99, 117, 116, 46, 112, 121] 184), (.int 1 0), (.int 0 0), (.int 0 0), (.int 0 0), (.int 0 0), (.ref 11), (.bool false), (.int 181 0), (.ref 12), .none, .none, .none, .none, (.int 185 0), (.int 1 0), (ts [47, 99, 108, 97, 105, 109, 47, 99, 117, 116, 46, 112, 121] 186)])), Array.mk []⟩
noncomputable def o12 (R : OpenLaw) (P : Params) : Obj := ⟨(.type PySem.W.SL.s658472552662922059x5), none, .plain, Array.mk [(some (.ref 13)), (some (.ref 3)), (some (.ref 3)), none, (some (ts [95, 95, 109, 97, 105, 110, 95, 95] 164)), none, (some (.ref 0))]⟩
noncomputable def tra (R : OpenLaw) (P : Params) : BT := (.node (o0 R P) (.node (o1 R P) (.node (o3 R P) (.node (o7 R P) .nil .nil) (.node (o7 R P) .nil .nil)) (.node (o5 R P) (.node (o9 R P) .nil .nil) (.node (o11 R P) .nil .nil))) (.node (o2 R P) (.node (o4 R P) (.node (o8 R P) .nil .nil) (.node (o8 R P) .nil .nil)) (.node (o6 R P) (.node (o10 R P) .nil .nil) (.node (o12 R P) .nil .nil))))
noncomputable def Sa : St := fun R w os => ⟨tra R w.params, 15, {}, Array.mk [], {}, 187, os⟩
noncomputable def tr0 (R : OpenLaw) (P : Params) : BT := (.node (o0 R P) (.node (o1 R P) (.node (o3 R P) (.node (o7 R P) .nil .nil) (.node (o7 R P) .nil .nil)) (.node (o5 R P) (.node (o9 R P) .nil .nil) (.node (o11 R P) .nil .nil))) (.node (o2 R P) (.node (o4 R P) (.node (o8 R P) .nil .nil) (.node (o8 R P) .nil .nil)) (.node (o6 R P) (.node (o10 R P) .nil .nil) (.node (o12 R P) .nil .nil))))
noncomputable def S0 : St := fun R w os => ⟨tr0 R w.params, 15, {}, Array.mk [], {}, 187, os⟩
noncomputable def o13 (R : OpenLaw) (P : Params) : Obj := ⟨(.type PySem.W.SL.s14018661285674007319x4), none, (.dict (Array.mk [⟨(PyData.keyHash P (tx [95, 95, 110, 97, 109, 101, 95, 95])), (ts [95, 95, 110, 97, 109, 101, 95, 95] 165), (ts [108, 97, 119, 95, 100, 109, 48, 48, 57, 53, 95, 48, 52] 218)⟩, ⟨(PyData.keyHash P (tx [95, 95, 100, 111, 99, 95, 95])), (ts [95, 95, 100, 111, 99, 95, 95] 166), .none⟩, ⟨(PyData.keyHash P (tx [95, 95, 112, 97, 99, 107, 97, 103, 101, 95, 95])), (ts [95, 95, 112, 97, 99, 107, 97, 103, 101, 95, 95] 167), .none⟩, ⟨(PyData.keyHash P (tx [95, 95, 108, 111, 97, 100, 101, 114, 95, 95])), (ts [95, 95, 108, 111, 97, 100, 101, 114, 95, 95] 168), (.builtin PySem.W.SL.s7097527257260152453x26)⟩, ⟨(PyData.keyHash P (tx [95, 95, 115, 112, 101, 99, 95, 95])), (ts [95, 95, 115, 112, 101, 99, 95, 95] 169), .none⟩, ⟨(PyData.keyHash P (tx [95, 95, 97, 110, 110, 111, 116, 97, 116, 105, 111, 110, 115, 95, 95])), (ts [95, 95, 97, 110, 110, 111, 116, 97, 116, 105, 111, 110, 115, 95, 95] 170), (.ref 6)⟩, ⟨(PyData.keyHash P (tx [95, 95, 98, 117, 105, 108, 116, 105, 110, 115, 95, 95])), (ts [95, 95, 98, 117, 105, 108, 116, 105, 110, 115, 95, 95] 171), (.ref 4)⟩, ⟨(PyData.keyHash P (tx [95, 95, 102, 105, 108, 101, 95, 95])), (ts [95, 95, 102, 105, 108, 101, 95, 95] 173), (ts [47, 99, 108, 97, 105, 109, 47, 99, 117, 116, 46, 112, 121] 172)⟩, ⟨(PyData.keyHash P (tx [95, 95, 99, 97, 99, 104, 101, 100, 95, 95])), (ts [95, 95, 99, 97, 99, 104, 101, 100, 95, 95] 174), .none⟩, ⟨(PyData.keyHash P (tx [78, 76])), (ts [78, 76] 188), (x1 10 187)⟩, ⟨(PyData.keyHash P (tx [100, 105, 103, 105, 116, 115])), (ts [100, 105, 103, 105, 116, 115] 190), (ts [48, 49, 50, 51, 52, 53, 54, 55, 56, 57] 189)⟩, ⟨(PyData.keyHash P (tx [104, 101, 120, 100, 105, 103, 105, 116, 115])), (ts [104, 101, 120, 100, 105, 103, 105, 116, 115] 195), (ts [48, 49, 50, 51, 52, 53, 54, 55, 56, 57, 97, 98, 99, 100, 101, 102, 65, 66, 67, 68, 69, 70] 194)⟩, ⟨(PyData.keyHash P (tx [117, 110, 113, 117, 111, 116, 101])), (ts [117, 110, 113, 117, 111, 116, 101] 204), (.ref 21)⟩, ⟨(PyData.keyHash P (tx [100, 101, 99, 111, 100, 101])), (ts [100, 101, 99, 111, 100, 101] 217), (.ref 29)⟩, ⟨(PyData.keyHash P (tx [95, 108, 97, 119, 95, 116, 101, 120, 116])), (ts [95, 108, 97, 119, 95, 116, 101, 120, 116] 225), (.ref 34)⟩, ⟨(PyData.keyHash P (tx [95, 108, 97, 119, 95, 108, 105, 118, 101, 115])), (ts [95, 108, 97, 119, 95, 108, 105, 118, 101, 115] 231), (.ref 39)⟩, ⟨(PyData.keyHash P (tx [95, 108, 97, 119, 95, 97, 102, 116, 101, 114])), (ts [95, 108, 97, 119, 95, 97, 102, 116, 101, 114] 237), (.ref 44)⟩, ⟨(PyData.keyHash P (tx [108, 97, 119])), (ts [108, 97, 119] 243), (.ref 49)⟩]) 18), Array.mk []⟩
noncomputable def o14 (R : OpenLaw) (P : Params) : Obj := ⟨.none, none, (.fields (Array.mk [(.int 5 0), (.int 0 0), (.ref 20), (.int 7 0), (.int 0 0), (.ref 28), (.int 38 0), (.int 0 0), (.ref 33), (.int 41 0), (.int 0 0), (.ref 38), (.int 78 0), (.int 0 0), (.ref 43), (.int 80 0), (.int 0 0), (.ref 48)])), Array.mk []⟩
noncomputable def o15 (R : OpenLaw) (P : Params) : Obj := ⟨(.type PySem.W.SL.s2766695959194262286x5), none, (.seq (Array.mk [(x1 115 201)]) 0), Array.mk []⟩
noncomputable def o16 (R : OpenLaw) (P : Params) : Obj := ⟨.none, none, (.func (fdOf (stI R 4) 0 [] .none .none .none .none none .none .none 0)), Array.mk []⟩
noncomputable def o17 (R : OpenLaw) (P : Params) : Obj := ⟨(.type PySem.W.SL.s5856160107412720595x4), none, (.fields (Array.mk [(ts [117, 110, 113, 117, 111, 116, 101] 198), (ts [117, 110, 113, 117, 111, 116, 101] 199), (ts [47, 99, 108, 97, 105, 109, 47, 99, 117, 116, 46, 112, 121] 200), (.int 5 0), (.int 1 0), (.int 0 0), (.int 0 0), (.int 3 0), (.ref 15), (.bool true), (.int 181 0), (.ref 16), .none, (.ref 17), (.ref 18), (.ref 19), (.int 202 0), (.int 5 0), (ts [47, 99, 108, 97, 105, 109, 47, 99, 117, 116, 46, 112, 121] 203)])), Array.mk []⟩
noncomputable def o18 (R : OpenLaw) (P : Params) : Obj := ⟨(.type PySem.W.SL.s7174869446012820540x8), none, (.func (fdOf (stI R 4) 3 [] .none .none .none (ts [99, 112, 121, 51, 49, 51, 46, 101, 109, 97, 105, 108, 46, 113, 117, 111, 112, 114, 105, 109, 105, 109, 101] 196) none (.ref 20) .none 0)), Array.mk []⟩
noncomputable def o19 (R : OpenLaw) (P : Params) : Obj := ⟨(.type PySem.W.SL.s2766695959194262286x5), none, (.seq (Array.mk [(x1 10 187)]) 0), Array.mk []⟩
noncomputable def o20 (R : OpenLaw) (P : Params) : Obj := ⟨(.type PySem.W.SL.s2766695959194262286x5), none, (.seq (Array.mk [(ts [101, 110, 99, 111, 100, 101, 100] 208), (ts [101, 111, 108] 209), (ts [100, 101, 99, 111, 100, 101, 100] 210), (ts [108, 105, 110, 101] 211), (x1 105 212), (x1 110 213), (x1 99 214)]) 0), Array.mk []⟩
noncomputable def o21 (R : OpenLaw) (P : Params) : Obj := ⟨.none, none, (.func (fdOf (stI R 5) 0 [] .none .none .none .none none .none .none 0)), Array.mk []⟩
noncomputable def o22 (R : OpenLaw) (P : Params) : Obj := ⟨(.type PySem.W.SL.s5856160107412720595x4), none, (.fields (Array.mk [(ts [100, 101, 99, 111, 100, 101] 205), (ts [100, 101, 99, 111, 100, 101] 206), (ts [47, 99, 108, 97, 105, 109, 47, 99, 117, 116, 46, 112, 121] 207), (.int 7 0), (.int 2 0), (.int 0 0), (.int 0 0), (.int 3 0), (.ref 23), (.bool true), (.int 181 0), (.ref 24), .none, (.ref 25), (.ref 26), (.ref 27), (.int 215 0), (.int 7 0), (ts [47, 99, 108, 97, 105, 109, 47, 99, 117, 116, 46, 112, 121] 216)])), Array.mk []⟩
noncomputable def o23 (R : OpenLaw) (P : Params) : Obj := ⟨(.type PySem.W.SL.s7174869446012820540x8), none, (.func (fdOf (stI R 5) 3 [] (.ref 22) .none .none (ts [99, 112, 121, 51, 49, 51, 46, 101, 109, 97, 105, 108, 46, 113, 117, 111, 112, 114, 105, 109, 105, 109, 101] 196) none (.ref 28) .none 0)), Array.mk []⟩
noncomputable def o24 (R : OpenLaw) (P : Params) : Obj := ⟨.none, none, (.func (fdOf (stI R 7) 0 [] .none .none .none .none none .none .none 0)), Array.mk []⟩
noncomputable def o25 (R : OpenLaw) (P : Params) : Obj := ⟨(.type PySem.W.SL.s5856160107412720595x4), none, (.fields (Array.mk [(ts [95, 108, 97, 119, 95, 116, 101, 120, 116] 220), (ts [95, 108, 97, 119, 95, 116, 101, 120, 116] 221), (ts [47, 99, 108, 97, 105, 109, 47, 99, 117, 116, 46, 112, 121] 222), (.int 38 0), (.int 1 0), (.int 0 0), (.int 0 0), (.int 3 0), (.ref 30), (.bool true), (.int 181 0), (.ref 31), .none, .none, .none, (.ref 32), (.int 223 0), (.int 38 0), (ts [47, 99, 108, 97, 105, 109, 47, 99, 117, 116, 46, 112, 121] 224)])), Array.mk []⟩
noncomputable def o26 (R : OpenLaw) (P : Params) : Obj := ⟨(.type PySem.W.SL.s7174869446012820540x8), none, (.func (fdOf (stI R 7) 3 [] .none .none .none (ts [108, 97, 119, 95, 100, 109, 48, 48, 57, 53, 95, 48, 52] 218) none (.ref 33) .none 0)), Array.mk []⟩
noncomputable def o27 (R : OpenLaw) (P : Params) : Obj := ⟨.none, none, (.func (fdOf (stI R 8) 0 [] .none .none .none .none none .none .none 0)), Array.mk []⟩
noncomputable def o28 (R : OpenLaw) (P : Params) : Obj := ⟨(.type PySem.W.SL.s5856160107412720595x4), none, (.fields (Array.mk [(ts [95, 108, 97, 119, 95, 108, 105, 118, 101, 115] 226), (ts [95, 108, 97, 119, 95, 108, 105, 118, 101, 115] 227), (ts [47, 99, 108, 97, 105, 109, 47, 99, 117, 116, 46, 112, 121] 228), (.int 41 0), (.int 1 0), (.int 0 0), (.int 0 0), (.int 3 0), (.ref 35), (.bool true), (.int 181 0), (.ref 36), .none, .none, .none, (.ref 37), (.int 229 0), (.int 41 0), (ts [47, 99, 108, 97, 105, 109, 47, 99, 117, 116, 46, 112, 121] 230)])), Array.mk []⟩
noncomputable def o29 (R : OpenLaw) (P : Params) : Obj := ⟨(.type PySem.W.SL.s7174869446012820540x8), none, (.func (fdOf (stI R 8) 3 [] .none .none .none (ts [108, 97, 119, 95, 100, 109, 48, 48, 57, 53, 95, 48, 52] 218) none (.ref 38) .none 0)), Array.mk []⟩
noncomputable def o30 (R : OpenLaw) (P : Params) : Obj := ⟨.none, none, (.func (fdOf (stI R 9) 0 [] .none .none .none .none none .none .none 0)), Array.mk []⟩
noncomputable def o31 (R : OpenLaw) (P : Params) : Obj := ⟨(.type PySem.W.SL.s5856160107412720595x4), none, (.fields (Array.mk [(ts [95, 108, 97, 119, 95, 97, 102, 116, 101, 114] 232), (ts [95, 108, 97, 119, 95, 97, 102, 116, 101, 114] 233), (ts [47, 99, 108, 97, 105, 109, 47, 99, 117, 116, 46, 112, 121] 234), (.int 78 0), (.int 2 0), (.int 0 0), (.int 0 0), (.int 3 0), (.ref 40), (.bool true), (.int 181 0), (.ref 41), .none, .none, .none, (.ref 42), (.int 235 0), (.int 78 0), (ts [47, 99, 108, 97, 105, 109, 47, 99, 117, 116, 46, 112, 121] 236)])), Array.mk []⟩
noncomputable def o32 (R : OpenLaw) (P : Params) : Obj := ⟨(.type PySem.W.SL.s7174869446012820540x8), none, (.func (fdOf (stI R 9) 3 [] .none .none .none (ts [108, 97, 119, 95, 100, 109, 48, 48, 57, 53, 95, 48, 52] 218) none (.ref 43) .none 0)), Array.mk []⟩
noncomputable def o33 (R : OpenLaw) (P : Params) : Obj := ⟨.none, none, (.func (fdOf (stI R 10) 0 [] .none .none .none .none none .none .none 0)), Array.mk []⟩
noncomputable def o34 (R : OpenLaw) (P : Params) : Obj := ⟨(.type PySem.W.SL.s5856160107412720595x4), none, (.fields (Array.mk [(ts [108, 97, 119] 238), (ts [108, 97, 119] 239), (ts [47, 99, 108, 97, 105, 109, 47, 99, 117, 116, 46, 112, 121] 240), (.int 80 0), (.int 1 0), (.int 0 0), (.int 0 0), (.int 3 0), (.ref 45), (.bool true), (.int 181 0), (.ref 46), .none, .none, .none, (.ref 47), (.int 241 0), (.int 80 0), (ts [47, 99, 108, 97, 105, 109, 47, 99, 117, 116, 46, 112, 121] 242)])), Array.mk []⟩
noncomputable def o35 (R : OpenLaw) (P : Params) : Obj := ⟨(.type PySem.W.SL.s7174869446012820540x8), none, (.func (fdOf (stI R 10) 3 [] .none .none .none (ts [108, 97, 119, 95, 100, 109, 48, 48, 57, 53, 95, 48, 52] 218) none (.ref 48) .none 0)), Array.mk []⟩
noncomputable def tr1 (R : OpenLaw) (P : Params) : BT := (.node (o0 R P) (.node (o1 R P) (.node (o13 R P) (.node (o7 R P) (.node (o7 R P) (.node (o8 R P) .nil .nil) (.node (o33 R P) .nil .nil)) (.node (o7 R P) (.node (o29 R P) .nil .nil) .nil)) (.node (o7 R P) (.node (o16 R P) (.node (o7 R P) .nil .nil) .nil) (.node (o21 R P) (.node (o31 R P) .nil .nil) .nil))) (.node (o5 R P) (.node (o9 R P) (.node (o15 R P) (.node (o25 R P) .nil .nil) (.node (o35 R P) .nil .nil)) (.node (o20 R P) (.node (o8 R P) .nil .nil) .nil)) (.node (o11 R P) (.node (o18 R P) (.node (o27 R P) .nil .nil) .nil) (.node (o23 R P) (.node (o7 R P) .nil .nil) .nil)))) (.node (o2 R P) (.node (o4 R P) (.node (o8 R P) (.node (o8 R P) (.node (o24 R P) .nil .nil) (.node (o34 R P) .nil .nil)) (.node (o8 R P) (.node (o7 R P) .nil .nil) .nil)) (.node (o14 R P) (.node (o17 R P) (.node (o8 R P) .nil .nil) .nil) (.node (o22 R P) (.node (o32 R P) .nil .nil) .nil))) (.node (o6 R P) (.node (o10 R P) (.node (o7 R P) (.node (o26 R P) .nil .nil) .nil) (.node (o7 R P) (.node (o30 R P) .nil .nil) .nil)) (.node (o12 R P) (.node (o19 R P) (.node (o28 R P) .nil .nil) .nil) (.node (o7 R P) (.node (o8 R P) .nil .nil) .nil)))))
noncomputable def S1 : St := fun R w os => ⟨tr1 R w.params, 50, {}, Array.mk [], {}, 244, os⟩
noncomputable def trf (R : OpenLaw) (P : Params) : BT := (.node (o0 R P) (.node (o1 R P) (.node (o13 R P) (.node (o7 R P) (.node (o7 R P) (.node (o8 R P) .nil .nil) (.node (o33 R P) .nil .nil)) (.node (o7 R P) (.node (o29 R P) .nil .nil) .nil)) (.node (o7 R P) (.node (o16 R P) (.node (o7 R P) .nil .nil) .nil) (.node (o21 R P) (.node (o31 R P) .nil .nil) .nil))) (.node (o5 R P) (.node (o9 R P) (.node (o15 R P) (.node (o25 R P) .nil .nil) (.node (o35 R P) .nil .nil)) (.node (o20 R P) (.node (o8 R P) .nil .nil) .nil)) (.node (o11 R P) (.node (o18 R P) (.node (o27 R P) .nil .nil) .nil) (.node (o23 R P) (.node (o7 R P) .nil .nil) .nil)))) (.node (o2 R P) (.node (o4 R P) (.node (o8 R P) (.node (o8 R P) (.node (o24 R P) .nil .nil) (.node (o34 R P) .nil .nil)) (.node (o8 R P) (.node (o7 R P) .nil .nil) .nil)) (.node (o14 R P) (.node (o17 R P) (.node (o8 R P) .nil .nil) .nil) (.node (o22 R P) (.node (o32 R P) .nil .nil) .nil))) (.node (o6 R P) (.node (o10 R P) (.node (o7 R P) (.node (o26 R P) .nil .nil) .nil) (.node (o7 R P) (.node (o30 R P) .nil .nil) .nil)) (.node (o12 R P) (.node (o19 R P) (.node (o28 R P) .nil .nil) .nil) (.node (o7 R P) (.node (o8 R P) .nil .nil) .nil)))))
noncomputable def Sf : St := fun R w os => ⟨trf R w.params, 50, {}, Array.mk [], {}, 244, os⟩
end Mine.Hd
end

section
namespace Mine.Hd
theorem pre' (w : World) : Pre F 12 ⟨0, 0, 0, 0⟩ Sz Sa PySem.W.Fast.tw15667345088766844465 PySem.W.Fast.tw14364793385576792824 PySem.W.Fast.tw11892475500146522536 Rt w := by delta Pre; kernel_rfl
theorem pre (w : World) : Pre F 12 ⟨0, 0, 0, 0⟩ Sz Sa topGo treeTable denote Rw w := by rw [PySem.W.Fast.te15667345088766844465, PySem.W.Fast.te14364793385576792824, PySem.W.Fast.te11892475500146522536, Rw, PySem.W.Fast.te2417958274410355607]; exact pre' w
theorem blk' (w : World) : Blk F 1 ⟨0, 0, 0, 0⟩ ⟨0, 0, 0, 0⟩ Sa S0 PySem.W.Fast.tw10110043849684766642 PySem.W.Fast.tw14364793385576792824 PySem.W.Fast.tw1066825118222455980 Rt w := by delta Blk; kernel_rfl
theorem blk (w : World) : Blk F 1 ⟨0, 0, 0, 0⟩ ⟨0, 0, 0, 0⟩ Sa S0 segRunT treeTable blockStart Rw w := by rw [PySem.W.Fast.te10110043849684766642, PySem.W.Fast.te14364793385576792824, PySem.W.Fast.te1066825118222455980, Rw, PySem.W.Fast.te2417958274410355607]; exact blk' w
theorem p0' (w : World) : Piece F 232 0 11 ⟨0, 0, 0, 0⟩ ⟨80, 0, 88, 15⟩ S0 S1 PySem.W.Fast.tw10110043849684766642 PySem.W.Fast.tw14364793385576792824 PySem.W.Fast.tw12563942051412417395 Rt w := by delta Piece; kernel_rfl
theorem p0 (w : World) : Piece F 232 0 11 ⟨0, 0, 0, 0⟩ ⟨80, 0, 88, 15⟩ S0 S1 segRunT treeTable execs Rw w := by rw [PySem.W.Fast.te10110043849684766642, PySem.W.Fast.te14364793385576792824, PySem.W.Fast.te12563942051412417395, Rw, PySem.W.Fast.te2417958274410355607]; exact p0' w
theorem fin' (w : World) : Last F 2 11 ⟨80, 0, 88, 15⟩ S1 Sf PySem.W.Fast.tw14082659384304107361 PySem.W.Fast.tw14364793385576792824 PySem.W.Fast.tw12563942051412417395 Rt w := by delta Last; kernel_rfl
theorem fin (w : World) : Last F 2 11 ⟨80, 0, 88, 15⟩ S1 Sf topRun treeTable execs Rw w := by rw [PySem.W.Fast.te14082659384304107361, PySem.W.Fast.te14364793385576792824, PySem.W.Fast.te12563942051412417395, Rw, PySem.W.Fast.te2417958274410355607]; exact fin' w
theorem run (w : World) (os : OsState) : topRun treeTable Rw.prog w F.m0 F.ann (12 + (1 + (232 + 2))) (Sz Rw w os).abs (topStub Rw.prog) = some (Sf Rw w os).abs :=
  begin_ pre blk w os (chain p0 w os (last_ fin w os))
abbrev steps : Nat := (12 + (1 + (232 + 2)))
abbrev N : Nat := 880
abbrev keep : List Nat := [0, 1, 2, 4, 7, 8, 9, 10]
abbrev loose : List Str := [(tx [104, 101, 120, 100, 105, 103, 105, 116, 115]), (tx [100, 101, 99, 111, 100, 101])]
abbrev toks0 : Nat := 181
abbrev toks1 : Nat := 244
abbrev size0 : Nat := 11
abbrev size1 : Nat := 50
abbrev lv : List (Str × WData) := [((tx [104, 101, 120, 100, 105, 103, 105, 116, 115]), WData.str (tx [48, 49, 50, 51, 52, 53, 54, 55, 56, 57, 97, 98, 99, 100, 101, 102, 65, 66, 67, 68, 69, 70]))]
end Mine.Hd
end

section
namespace Mine.Hd
abbrev qR (R : OpenLaw) : Program := view R.prog keep
noncomputable abbrev H0 (R : OpenLaw) (P : Params) : Heap := absHeap (trz R P) size0 {}
noncomputable abbrev H1 (R : OpenLaw) (P : Params) : Heap := absHeap (trf R P) size1 {}
noncomputable abbrev Sh (R : OpenLaw) (w : World) (os : OsState) : Shared := ⟨H1 R w.params, Array.mk [], {}, toks1, os⟩
abbrev Xt (R : OpenLaw) (s : Shared) : Bool := xlAt (qR R) lv s && recOk (RowW.records R.row.toRowW) s
def Z0 (R : OpenLaw) (w : World) : Prop := ((H0 R w.params).isNs mainGlobals && (Array.mk [] : Array GenState).size == 0, (H0 R w.params).objs.size, (H0 R w.params).nsMap mainGlobals "__annotations__") = (true, F.m0, F.ann)
def L1 (R : OpenLaw) (w : World) : Prop := (fun os => (staticsOk (importedModules R.prog.main.body) (H0 R w.params) (H1 R w.params) && namesBound R.prog (H1 R w.params) && gensDone (Sh R w os) && laidKept (H0 R w.params) (H1 R w.params))) = fun _ => true
def L2 (R : OpenLaw) (w : World) : Prop := (fun os => seen ((recsOf (qR R)).map (·.name)) (ownsOf (qR R)) [] { (Sh R w os) with gens := #[] }) = fun _ => expectedOf (qR R)
def L3 (R : OpenLaw) (w : World) : Prop := (fun os => (Sh R w os).heap.bltView) = fun (_ : OsState) => bltViewBooted
def L4 (R : OpenLaw) (w : World) : Prop := (fun os => (Sh R w os).heap.keysOk (looseW (qR R) loose) ((recsOf (qR R)).map (·.name)) ((litsOf (qR R)).map (·.1)) ((clssOf (qR R) (looseW (qR R) loose)).map (·.name)) && (Sh R w os).heap.accountedOkI (importedModules R.prog.main.body) && (Sh R w os).heap.isNs mainGlobals && (Sh R w os).heap.isNs builtinsNs && tablesOk (qR R) (Sh R w os).heap && Xt R (Sh R w os) && (if true then (Sh R w os).gens.size == 0 else !leftWithCleanup (Sh R w os).gens)) = fun (_ : OsState) => true
def L5 (R : OpenLaw) (w : World) : Prop := (fun os => tabsOk (qR R) (Sh R w os)) = fun (_ : OsState) => true
def L6 (R : OpenLaw) (w : World) : Prop := (fun os => pinSeenD (qR R) (drecsOf (qR R)) (Sh R w os)) = fun (_ : OsState) => pinGoodD (drecsOf (qR R))
def L7 (R : OpenLaw) (w : World) : Prop := (fun os => plainSeenE (qR R) (looseW (qR R) loose) (Sh R w os)) = fun (_ : OsState) => plainGoodE (qR R) (looseW (qR R) loose)
def L8 (R : OpenLaw) (w : World) : Prop := (fun os => plainSeenD (qR R) loose (Sh R w os)) = fun (_ : OsState) => plainGoodD (qR R) loose
def L9 (R : OpenLaw) (w : World) : Prop := (fun os => wideSeen (qR R) (Sh R w os)) = fun (_ : OsState) => wideGood (qR R)
def L10 (R : OpenLaw) (w : World) : Prop := (fun os => clsSeenW (qR R) loose (Sh R w os)) = fun (_ : OsState) => clsGoodW (qR R) loose
theorem z0 (w : World) : Z0 Rt w := by delta Z0; kernel_rfl
theorem l1 (w : World) : L1 Rt w := by delta L1; kernel_rfl
theorem l2 (w : World) : L2 Rt w := by delta L2; kernel_rfl
theorem l3 (w : World) : L3 Rt w := by delta L3; kernel_rfl
theorem l4 (w : World) : L4 Rt w := by delta L4; kernel_rfl
theorem l5 (w : World) : L5 Rt w := by delta L5; kernel_rfl
theorem l6 (w : World) : L6 Rt w := by delta L6; kernel_rfl
theorem l7 (w : World) : L7 Rt w := by delta L7; kernel_rfl
theorem l8 (w : World) : L8 Rt w := by delta L8; kernel_rfl
theorem l9 (w : World) : L9 Rt w := by delta L9; kernel_rfl
theorem l10 (w : World) : L10 Rt w := by delta L10; kernel_rfl
def Opn (imp : Tb → Program → World → Nat → Shared → Thread → Option Shared) (tb : Tb) (R : OpenLaw) (w : World) : Prop :=
  (((imp tb (opening R.prog) w N (start (opening R.prog)).1 (start (opening R.prog)).2).bind (fenceModules? R.prog)).map fun s => (s.heap, s.gens, s.drawn, s.toks)) = some (H0 R w.params, Array.mk [], {}, toks0)
theorem opens' (w : World) : Opn PySem.W.Fast.tw10274390034422433532 PySem.W.Fast.tw14364793385576792824 Rt w := by delta Opn; kernel_rfl
theorem opens (w : World) : (fencedOpening treeTable Rw.prog w N).map (fun s => (s.heap, s.gens, s.drawn, s.toks)) = some (H0 Rw w.params, Array.mk [], {}, toks0) := by
  show Opn importEnds treeTable Rw w
  rw [PySem.W.Fast.te10274390034422433532, PySem.W.Fast.te14364793385576792824, Rw, PySem.W.Fast.te2417958274410355607]; exact opens' w
theorem looks {α : Type} {Yf : Shared → α} {Ya : World → α} (hY : ∀ w os, Yf (Sh Rw w os) = Ya w) (w : World) : (fun os => ((staticsOk (importedModules Rw.prog.main.body) (H0 Rw w.params) (H1 Rw w.params) && namesBound Rw.prog (H1 Rw w.params) && gensDone ⟨H1 Rw w.params, Array.mk [], {}, toks1, os⟩ && laidKept (H0 Rw w.params) (H1 Rw w.params)),
        openSeen (qR Rw) loose (importedModules Rw.prog.main.body) (Xt Rw) true ⟨H1 Rw w.params, Array.mk [], {}, toks1, os⟩, Yf ⟨H1 Rw w.params, Array.mk [], {}, toks1, os⟩)) = fun _ => (true, openGood (qR Rw) loose, Ya w) := by
  have te : Rw = Rt := PySem.W.Fast.te2417958274410355607
  funext os
  have e1 : L1 Rw w := te ▸ l1 w
  have e2 : L2 Rw w := te ▸ l2 w
  have e3 : L3 Rw w := te ▸ l3 w
  have e4 : L4 Rw w := te ▸ l4 w
  have e5 : L5 Rw w := te ▸ l5 w
  have e6 : L6 Rw w := te ▸ l6 w
  have e7 : L7 Rw w := te ▸ l7 w
  have e8 : L8 Rw w := te ▸ l8 w
  have e9 : L9 Rw w := te ▸ l9 w
  have e10 : L10 Rw w := te ▸ l10 w
  exact looks_pair (congrFun e1 os) (looks_pair (looks_pair (congrFun e2 os) (looks_pair (congrFun e3 os) (looks_pair (congrFun e4 os) (looks_pair (congrFun e5 os) (looks_pair (congrFun e6 os) (looks_pair (congrFun e7 os) (looks_pair (congrFun e8 os) (looks_pair (congrFun e9 os) (congrFun e10 os))))))))) (hY w os))
theorem zz (w : World) : Z0 Rw w := by
  have te : Rw = Rt := PySem.W.Fast.te2417958274410355607
  exact te ▸ z0 w
theorem left {α : Type} {Yf : Shared → α} {Ya : World → α} (hY : ∀ w os, Yf (Sh Rw w os) = Ya w) : LeftO Rw.prog (qR Rw) loose (Xt Rw) Yf Ya N :=
  LeftO.of_pieces (H₀ := H0 Rw) (H₁ := H1 Rw) (gs₀ := Array.mk []) (gs₁ := Array.mk []) (d₀ := {}) (d₁ := {}) (k₀ := toks0) (k₁ := toks1) (m₀ := F.m0) (ann := F.ann) (M := steps)
    opens (fun w => zz w) run (by decide) (looks hY)
end Mine.Hd
local macro_rules
  | `(tactic| o_head $H) => do
    let hw := Lean.mkIdent `hw
    let hc := Lean.mkIdent `hc
    `(tactic| refine holds_open (q := Mine.Hd.qR Mine.Hd.Rw) (loose := Mine.Hd.loose) (Xt := Mine.Hd.Xt Mine.Hd.Rw) (XP := XL (Mine.Hd.qR Mine.Hd.Rw) Mine.Hd.lv) (Yf := Hook.obs $H) (Ya := Hook.val $H) (YP := Hook.says $H) (N := Mine.Hd.N) (Mine.Hd.left (fun w os => by kernel_rfl)) (Hook.of $H) (Hook.keeps $H) (fun s e => xl_of s (Bool.and_eq_true_iff.mp e).1) XL.keeps (by rfl) (by rfl) (by rfl) (fun s e => recFacts_of (Bool.and_eq_true_iff.mp e).2) (by rfl) (by first | assumption | decide +kernel) (by decide +kernel) ⟨rfl, rfl, rfl, rfl, rfl, by decide +kernel⟩ ?$hw ?$hc)
namespace Mine
open_top hd for PySem.Challenge.rw_dm0095_04
end Mine
end

section
namespace Mine
/-- no run takes a token back -/
theorem runs_toks {M : Model} {Γ : Ctx} {p : Pos} {t : Sem Fin} {fs : List Frame} {s s' : Shared} {e : End} (h : Runs M Γ p t fs s e s') : s.toks ≤ s'.toks := by
  induction h with
  | done => exact Nat.le_refl _
  | raise => exact Nat.le_refl _
  | yield => exact Nat.le_refl _
  | fresh _ ih => exact Nat.le_trans (Nat.le_succ _) ih
  | call _ _ i1 i2 => exact Nat.le_trans i1 i2
  | resumeFresh _ _ _ _ i1 i2 => exact Nat.le_trans i1 i2
  | resumeSuspended _ _ _ _ i1 i2 => exact Nat.le_trans i1 i2
  | segRet _ _ i1 i2 => exact Nat.le_trans i1 i2
  | segGen _ _ i1 i2 => exact Nat.le_trans i1 i2
  | segSuspGen _ _ _ _ i1 i2 => exact Nat.le_trans i1 i2
  | _ => assumption
theorem wakes_toks {M : Model} {Γ : Ctx} {p : Pos} {g : Nat} {r : Resume} {s s' : Shared} {res : GenResult} (h : Wakes M Γ p g r s res s') : s.toks ≤ s'.toks := by
  unfold Wakes at h
  split at h
  · exact h.elim
  · split at h
    · obtain ⟨e, s₁, h1, _, _, rfl⟩ := h
      have := runs_toks h1
      exact this
    · obtain ⟨_, rfl⟩ := h; exact Nat.le_refl _
    · obtain ⟨_, rfl⟩ := h; exact Nat.le_refl _
  · obtain ⟨e, s₁, h1, _, _, rfl⟩ := h
    have := runs_toks h1
    exact this
  · obtain ⟨_, rfl⟩ := h; exact Nat.le_refl _
  · obtain ⟨_, rfl⟩ := h; exact Nat.le_refl _
theorem wp_free {α : Type} {M : Model} {Γ : Ctx} {n : Nat} (t : Sem α) : ∀ {Q : α → Pos → Shared → Prop} {E : Value → Pos → Shared → Prop} {p : Pos} {s : Shared}, n ≤ s.toks →
    Sem.wp M Γ t (fun a p' s' => n ≤ s'.toks → Q a p' s') (fun e p' s' => n ≤ s'.toks → E e p' s') p s → Sem.wp M Γ t Q E p s := by
  induction t with
  | pure a => intro Q E p s hn h; exact h hn
  | raise e => intro Q E p s hn h; exact h hn
  | unsupported => intro Q E p s hn h; exact h
  | finish => intro Q E p s hn h; exact h
  | rule _ k ih => intro Q E p s hn h; exact ih () hn h
  | «at» p' k ih => intro Q E p s hn h; exact ih () hn h
  | load a _ k ih => intro Q E p s hn h; obtain ⟨o, h1, h2⟩ := h; exact ⟨o, h1, ih o hn h2⟩
  | update a _ f k ih => intro Q E p s hn h; exact ⟨h.1, ih () hn h.2⟩
  | alloc o k ih => intro Q E p s hn h; exact ih _ hn h
  | loadIfAlive a k ih => intro Q E p s hn h; exact ih _ hn h
  | point _ k ih => intro Q E p s hn h; exact ih () hn h
  | register => intro Q E p s hn h; exact h
  | fresh k ih => intro Q E p s hn h; exact ih _ (Nat.le_succ_of_le hn) h
  | ask k ih => intro Q E p s hn h; exact ih _ hn h
  | choose src m k ih => intro Q E p s hn h; exact ⟨h.1, ih _ hn h.2⟩
  | os q _ k ih => intro Q E p s hn h; exact ih _ hn h
  | call c hh g l k ih =>
    intro Q E p s hn h
    obtain ⟨r, s₁, h1, h2⟩ := h
    exact ⟨r, s₁, h1, ih r (Nat.le_trans hn (runs_toks h1)) h2⟩
  | handled own k ih => intro Q E p s hn h; exact ih _ hn h
  | newGen c k ih => intro Q E p s hn h; exact ih _ hn h
  | genState g k ih => intro Q E p s hn h; obtain ⟨st, h1, h2⟩ := h; exact ⟨st, h1, ih _ hn h2⟩
  | resume g r l k ih =>
    intro Q E p s hn h
    obtain ⟨res, s₁, h1, h2⟩ := h
    exact ⟨res, s₁, h1, ih res (Nat.le_trans hn (wakes_toks h1)) h2⟩
  | yield => intro Q E p s hn h; exact h
  | stack k ih => intro Q E p s hn h; exact ih _ hn h
  | fork => intro Q E p s hn h; exact h
  | thread k ih => intro Q E p s hn h; exact ih _ hn h
  | await => intro Q E p s hn h; exact h
theorem wpAny_free {α : Type} {M : Model} {A : Around} {t : Sem α} {Q : α → Shared → Prop} {E : Value → Shared → Prop} {s : Shared}
    (h : wpAny M A t (fun a s' => s.toks ≤ s'.toks → Q a s') (fun e s' => s.toks ≤ s'.toks → E e s') s) : wpAny M A t Q E s := fun Γ p hΓ => wp_free t (Nat.le_refl _) (h Γ p hΓ)
end Mine
end

section
namespace Mine

/-- a text from its signs' numbers -/
abbrev mkS (l : List Nat) : Str := ⟨l.toArray⟩

/-- deep data -/
inductive D where
  | none
  | bool (b : Bool)
  | int (i : Int)
  | str (x : List Nat)
  | bytes (x : List UInt8)
  | list (xs : List D)
  | tup (xs : List D)
  | rng (a b c : Int)
  | val (v : Value)
  | frag (f : List (Addr × Obj)) (v : Value)
  deriving Inhabited

mutual
inductive Is (Z : Addr → Prop) (h : Heap) : Value → D → Prop where
  | none : Is Z h .none .none
  | bool {b : Bool} : Is Z h (.bool b) (.bool b)
  | int {i : Int} {t : Tok} : Is Z h (.int i t) (.int i)
  | str {x : List Nat} {t : Tok} : Is Z h (.str (mkS x) t) (.str x)
  | bytes {x : List UInt8} {t : Tok} : Is Z h (.bytes x.toArray t) (.bytes x)
  | list {a : Addr} {vs : List Value} {ds : List D} : ¬ Z a → h.IsList a vs.toArray → IsAll Z h vs ds → Is Z h (.ref a) (.list ds)
  | tup {a : Addr} {vs : List Value} {ds : List D} : ¬ Z a → h.IsTuple a vs.toArray → IsAll Z h vs ds → Is Z h (.ref a) (.tup ds)
  | rng {r : Addr} {a b c : Int} {t u w : Tok} : ¬ Z r → IsRange h r a b c t u w → Is Z h (.ref r) (.rng a b c)
  | val {v : Value} : Is Z h v (.val v)
  | frag {v : Value} {f : List (Addr × Obj)} : (∀ p ∈ f, ¬ Z p.1 ∧ h.get? p.1 = some p.2) → Is Z h v (.frag f v)
inductive IsAll (Z : Addr → Prop) (h : Heap) : List Value → List D → Prop where
  | nil : IsAll Z h [] []
  | cons {v : Value} {d : D} {vs : List Value} {ds : List D} : Is Z h v d → IsAll Z h vs ds → IsAll Z h (v :: vs) (d :: ds)
end

theorem tup_at {h h' : Heap} {a : Addr} {items : Array Value} (x : h.IsTuple a items) (e : ∀ o, h.get? a = some o → h'.get? a = some o) : h'.IsTuple a items :=
  let ⟨o, ho, r⟩ := x; ⟨o, e _ ho, r⟩

mutual
theorem Is.move {Z Z' : Addr → Prop} {h h' : Heap} {v : Value} {d : D} (x : Is Z h v d) (hk : ∀ b o, ¬ Z b → h.get? b = some o → ¬ Z' b ∧ h'.get? b = some o) : Is Z' h' v d := by
  cases x with
  | none => exact .none
  | bool => exact .bool
  | int => exact .int
  | str => exact .str
  | bytes => exact .bytes
  | list hz hl hs =>
    obtain ⟨o, ho, _⟩ := id hl
    exact .list (hk _ _ hz ho).1 (hl.at fun o e => (hk _ _ hz e).2) (IsAll.move hs hk)
  | tup hz hl hs =>
    obtain ⟨o, ho, _⟩ := id hl
    exact .tup (hk _ _ hz ho).1 (tup_at hl fun o e => (hk _ _ hz e).2) (IsAll.move hs hk)
  | rng hz hr => exact .rng (hk _ _ hz hr).1 (hk _ _ hz hr).2
  | val => exact .val
  | frag hf => exact .frag fun p hp => hk _ _ (hf p hp).1 (hf p hp).2
theorem IsAll.move {Z Z' : Addr → Prop} {h h' : Heap} {vs : List Value} {ds : List D} (x : IsAll Z h vs ds) (hk : ∀ b o, ¬ Z b → h.get? b = some o → ¬ Z' b ∧ h'.get? b = some o) : IsAll Z' h' vs ds := by
  cases x with
  | nil => exact .nil
  | cons a b => exact .cons (Is.move a hk) (IsAll.move b hk)
end

theorem Is.keeps {Z : Addr → Prop} {h h' : Heap} {v : Value} {d : D} (x : Is Z h v d) (hk : ∀ b o, h.get? b = some o → h'.get? b = some o) : Is Z h' v d :=
  x.move fun b o hz e => ⟨hz, hk b o e⟩
theorem IsAll.keeps {Z : Addr → Prop} {h h' : Heap} {vs : List Value} {ds : List D} (x : IsAll Z h vs ds) (hk : ∀ b o, h.get? b = some o → h'.get? b = some o) : IsAll Z h' vs ds :=
  x.move fun b o hz e => ⟨hz, hk b o e⟩

theorem IsAll.length {Z : Addr → Prop} {h : Heap} {vs : List Value} {ds : List D} (x : IsAll Z h vs ds) : vs.length = ds.length := by
  induction ds generalizing vs with
  | nil => cases x; rfl
  | cons d ds ih => cases x with | cons a b => simp [ih b]
theorem IsAll.get {Z : Addr → Prop} {h : Heap} {vs : List Value} {ds : List D} (x : IsAll Z h vs ds) {i : Nat} {d : D} (e : ds[i]? = some d) : ∃ v, vs[i]? = some v ∧ Is Z h v d := by
  induction ds generalizing vs i with
  | nil => simp at e
  | cons d' ds ih => cases x with
    | cons a b => cases i with
      | zero => simp at e; subst e; exact ⟨_, rfl, a⟩
      | succ i => simp at e; simpa using ih b e
theorem IsAll.get' {Z : Addr → Prop} {h : Heap} {vs : List Value} {ds : List D} (x : IsAll Z h vs ds) {i : Nat} {v : Value} (e : vs[i]? = some v) : ∃ d, ds[i]? = some d ∧ Is Z h v d := by
  induction ds generalizing vs i with
  | nil => cases x; simp at e
  | cons d' ds ih => cases x with
    | cons a b => cases i with
      | zero => simp at e; subst e; exact ⟨_, rfl, a⟩
      | succ i => simp at e; simpa using ih b e
theorem IsAll.append {Z : Addr → Prop} {h : Heap} {vs ws : List Value} {ds es : List D} (x : IsAll Z h vs ds) (y : IsAll Z h ws es) : IsAll Z h (vs ++ ws) (ds ++ es) := by
  induction ds generalizing vs with
  | nil => cases x; exact y
  | cons d ds ih => cases x with | cons a b => exact .cons a (ih b)
theorem IsAll.one {Z : Addr → Prop} {h : Heap} {v : Value} {d : D} (x : Is Z h v d) : IsAll Z h [v] [d] := .cons x .nil

/-- names and data of a frame -/
abbrev Loc := List (Str × D)
def get : Loc → Str → Option D
  | [], _ => none
  | (y, d) :: r, x => if x = y then some d else get r x
def put : Loc → Str → D → Loc
  | [], x, d => [(x, d)]
  | (y, e) :: r, x, d => if x = y then (y, d) :: r else (y, e) :: put r x d
theorem get_put (r : Loc) (x y : Str) (d : D) : get (put r x d) y = if y = x then some d else get r y := by
  induction r with
  | nil => simp only [put, get]
  | cons p r ih =>
    obtain ⟨z, e⟩ := p
    simp only [put]
    by_cases h : x = z
    · subst h; simp only [if_true, get]; split <;> rfl
    · rw [if_neg h]; simp only [get, ih]
      by_cases h1 : y = z
      · subst h1; simp [Ne.symm h]
      · simp [h1]

abbrev Own := List (Addr × List D)

structure Cx where
  prog : Program
  w : World
  A : Around
  env : Env
  h₀ : Heap
  mg : Str → Option Value
  mb : Str → Option Value

abbrev Cx.M (C : Cx) : Model := model C.prog C.w
def Cx.Mu (C : Cx) (ω : Own) (a : Addr) : Prop := a = C.env.locals ∨ (∃ x, C.env.cells.lookup x = some a) ∨ a ∈ ω.map (·.1)
def Cx.Z (C : Cx) (Zo : Addr → Prop) (ω : Own) (a : Addr) : Prop := Zo a ∨ C.Mu ω a

/-- room around a call -/
structure Room (A : Around) (l : Nat) : Prop where
  hd : A.handled = none
  depth : A.depth + l < 900
  units : A.units + 10 * l < 9000

structure Cx.Ok (C : Cx) (l : Nat) : Prop where
  room : Room C.A l
  kind : C.env.scope.kind = .function
  gl : C.env.globals = mainGlobals
  bl : C.env.builtins = builtinsNs
  g : C.h₀.Ns mainGlobals C.mg
  b : C.h₀.Ns builtinsNs C.mb
  nolimit : C.h₀.NoLimit

def Live (Z : Addr → Prop) (h : Heap) : Prop := ∀ a, Z a → ∃ o, h.get? a = some o

structure Sta (C : Cx) (Zo : Addr → Prop) (ρ : Loc) (ω : Own) (s : Shared) : Prop where
  base : ∀ b o, C.h₀.get? b = some o → s.heap.get? b = some o
  new : ∀ a, C.Z Zo ω a → C.h₀.get? a = none
  ns : ∃ m, s.heap.Ns C.env.locals m ∧ ∀ x d, get ρ x = some d → C.env.kindOf x = some .local → ∃ v, m x = some v ∧ Is (C.Z Zo ω) s.heap v d
  cell : ∀ x d, get ρ x = some d → (C.env.kindOf x = some .cell ∨ C.env.kindOf x = some .free) → ∃ c v, C.env.cells.lookup x = some c ∧ s.heap.IsCell c (some v) ∧ Is (C.Z Zo ω) s.heap v d
  cells : ∀ x c, C.env.cells.lookup x = some c → ∃ v, s.heap.IsCell c v
  inj : ∀ x y c, C.env.cells.lookup x = some c → C.env.cells.lookup y = some c → x = y
  own : ∀ p ∈ ω, ∃ vs, s.heap.PlainList p.1 vs.toArray ∧ IsAll (C.Z Zo ω) s.heap vs p.2
  nodup : (ω.map (·.1)).Nodup
  apart : ∀ a ∈ ω.map (·.1), ¬ Zo a
  zo : Live Zo s.heap
  tok : 0 < s.toks

/-- keeps every object -/
def Kp (s s' : Shared) : Prop := ∃ h' tk, s' = { s with heap := h', toks := tk } ∧ (∀ b o, s.heap.get? b = some o → h'.get? b = some o) ∧ s.toks ≤ tk
theorem Kp.refl (s : Shared) : Kp s s := ⟨s.heap, s.toks, rfl, fun _ _ e => e, Nat.le_refl _⟩
theorem Kp.trans {s s' s'' : Shared} (x : Kp s s') (y : Kp s' s'') : Kp s s'' := by
  obtain ⟨h1, t1, rfl, k1, l1⟩ := x
  obtain ⟨h2, t2, rfl, k2, l2⟩ := y
  exact ⟨h2, t2, rfl, fun b o e => k2 b o (k1 b o e), Nat.le_trans l1 l2⟩
theorem Kp.get {s s' : Shared} (x : Kp s s') : ∀ b o, s.heap.get? b = some o → s'.heap.get? b = some o := by
  obtain ⟨h1, t1, rfl, k1, _⟩ := x; exact k1
theorem Kp.toks {s s' : Shared} (x : Kp s s') : s.toks ≤ s'.toks := by
  obtain ⟨h1, t1, rfl, _, l1⟩ := x; exact l1
theorem Kp.tok (s : Shared) (k : Nat) (h : s.toks ≤ k := by first | exact Nat.le_succ _ | exact Nat.le_refl _ | assumption | exact Nat.le_add_right _ _ | exact Nat.le_trans (Nat.le_succ _) (Nat.le_succ _)) : Kp s { s with toks := k } := ⟨s.heap, k, rfl, fun _ _ e => e, h⟩
theorem Kp.push (s : Shared) (o : Obj) : Kp s { s with heap := s.heap.push o } := ⟨_, s.toks, rfl, fun _ _ e => Heap.get?_push_of_some _ e, Nat.le_refl _⟩
theorem Kp.push_tok (s : Shared) (o : Obj) (k : Nat) (h : s.toks ≤ k := by first | exact Nat.le_succ _ | exact Nat.le_refl _ | assumption | exact Nat.le_add_right _ _ | exact Nat.le_trans (Nat.le_succ _) (Nat.le_succ _)) : Kp s { s with heap := s.heap.push o, toks := k } := ⟨_, k, rfl, fun _ _ e => Heap.get?_push_of_some _ e, h⟩

theorem Sta.keeps {C : Cx} {Zo : Addr → Prop} {ρ : Loc} {ω : Own} {s s' : Shared} (x : Sta C Zo ρ ω s) (k : Kp s s') : Sta C Zo ρ ω s' := by
  have hk := k.get
  refine ⟨fun b o e => hk _ _ (x.base b o e), x.new, ?_, ?_, ?_, x.inj, ?_, x.nodup, x.apart, (fun a ha => let ⟨o, ho⟩ := x.zo a ha; ⟨o, hk _ _ ho⟩), Nat.lt_of_lt_of_le x.tok k.toks⟩
  · obtain ⟨m, hn, hm⟩ := x.ns
    exact ⟨m, hn.keeps hk, fun y d hy hl => let ⟨v, h1, h2⟩ := hm y d hy hl; ⟨v, h1, h2.keeps hk⟩⟩
  · intro y d hy hl
    obtain ⟨c, v, h1, ⟨o, h2, h2'⟩, h3⟩ := x.cell y d hy hl
    exact ⟨c, v, h1, ⟨o, hk _ _ h2, h2'⟩, h3.keeps hk⟩
  · intro y c hy
    obtain ⟨v, o, h2, h2'⟩ := x.cells y c hy
    exact ⟨v, o, hk _ _ h2, h2'⟩
  · intro p hp
    obtain ⟨vs, h1, h2⟩ := x.own p hp
    exact ⟨vs, h1.at fun o e => hk _ _ e, h2.keeps hk⟩

theorem Sta.ownL {C : Cx} {Zo : Addr → Prop} {ρ : Loc} {ω : Own} {s : Shared} (x : Sta C Zo ρ ω s) : ∀ p ∈ ω, ∃ vs, s.heap.IsList p.1 vs.toArray ∧ IsAll (C.Z Zo ω) s.heap vs p.2 := fun p hp =>
  let ⟨vs, h1, h2⟩ := x.own p hp; ⟨vs, h1.isList, h2⟩
theorem Sta.live {C : Cx} {Zo : Addr → Prop} {ρ : Loc} {ω : Own} {s : Shared} (hs : Sta C Zo ρ ω s) : Live (C.Z Zo ω) s.heap := by
  rintro a (h | h | ⟨x, h⟩ | h)
  · exact hs.zo a h
  · obtain ⟨m, ⟨o, _, _, ho, _⟩, _⟩ := hs.ns
    exact ⟨o, h ▸ ho⟩
  · obtain ⟨v, o, ho, _⟩ := hs.cells x _ h
    exact ⟨o, ho⟩
  · obtain ⟨p, hp, e⟩ := List.mem_map.mp h
    obtain ⟨vs, ⟨o, ho, _⟩, _⟩ := hs.ownL p hp
    exact ⟨o, e ▸ ho⟩
theorem Live.new {Z : Addr → Prop} {h : Heap} (x : Live Z h) : ¬ Z h.objs.size := fun hz =>
  let ⟨_, ho⟩ := x _ hz; Nat.lt_irrefl _ (Heap.lt_size ho)
theorem Live.keeps {Z : Addr → Prop} {h h' : Heap} (x : Live Z h) (hk : ∀ b o, h.get? b = some o → h'.get? b = some o) : Live Z h' := fun a ha =>
  let ⟨o, ho⟩ := x a ha; ⟨o, hk _ _ ho⟩

/-- what a pure tree gives -/
def Gv (Z : Addr → Prop) (s : Shared) (K : D → Prop) (v : Value) (s' : Shared) : Prop := Kp s s' ∧ ∃ d, Is Z s'.heap v d ∧ K d
abbrev NoE : Value → Shared → Prop := fun _ _ => False

/-- an expression that keeps the heap and gives a datum -/
structure Pe (C : Cx) (ρ : Loc) (ω : Own) (e : Expr) (K : D → Prop) : Prop where
  run : ∀ {Zo : Addr → Prop} s, Sta C Zo ρ ω s → wpAny C.M C.A (eval e C.env) (Gv (C.Z Zo ω) s K) NoE s
/-- a test -/
structure Pt (C : Cx) (ρ : Loc) (ω : Own) (e : Expr) (K : Bool → Prop) : Prop where
  run : ∀ {Zo : Addr → Prop} s, Sta C Zo ρ ω s → wpAny C.M C.A (isTrue e C.env (eval e C.env)) (fun b s' => Kp s s' ∧ K b) NoE s
/-- a list of expressions -/
structure Pl (C : Cx) (ρ : Loc) (ω : Own) (es : List Expr) (K : List D → Prop) : Prop where
  run : ∀ {Zo : Addr → Prop} s pos, Sta C Zo ρ ω s → wpAny C.M C.A (spliced (backTo pos (starEach es C.env))) (fun vs s' => Kp s s' ∧ ∃ ds, IsAll (C.Z Zo ω) s'.heap vs ds ∧ K ds) NoE s

theorem Gv.mono {Z : Addr → Prop} {s s' : Shared} {K K' : D → Prop} {v : Value} (x : Gv Z s K v s') (h : ∀ d, K d → K' d) : Gv Z s K' v s' :=
  ⟨x.1, let ⟨d, h1, h2⟩ := x.2; ⟨d, h1, h d h2⟩⟩
theorem Pe.mono {C : Cx} {ρ : Loc} {ω : Own} {e : Expr} {K K' : D → Prop} (x : Pe C ρ ω e K) (h : ∀ d, K d → K' d) : Pe C ρ ω e K' := .mk <|
  fun {Zo} s hs => wpAny_mono (x.run s hs) (fun _ _ g => g.mono h) fun _ _ e => e
/-- what stands under a call: the base, and nothing of it in the zone -/
structure Und (C : Cx) (Z : Addr → Prop) (s : Shared) : Prop where
  live : Live Z s.heap
  base : ∀ b o, C.h₀.get? b = some o → s.heap.get? b = some o
  new : ∀ a, Z a → C.h₀.get? a = none
  tok : 0 < s.toks
theorem Sta.und {C : Cx} {Zo : Addr → Prop} {ρ : Loc} {ω : Own} {s : Shared} (x : Sta C Zo ρ ω s) : Und C (C.Z Zo ω) s := ⟨x.live, x.base, x.new, x.tok⟩

/-- an operation upon one, two data -/
structure Do1 (C : Cx) (f : Value → Sem Value) (a : D) (K : D → Prop) : Prop where
  run : ∀ {Z : Addr → Prop} s v, Und C Z s → Is Z s.heap v a → wpAny C.M C.A (f v) (Gv Z s K) NoE s
structure Do2 (C : Cx) (f : Value → Value → Sem Value) (a b : D) (K : D → Prop) : Prop where
  run : ∀ {Z : Addr → Prop} s v w, Und C Z s → Is Z s.heap v a → Is Z s.heap w b → wpAny C.M C.A (f v w) (Gv Z s K) NoE s
/-- a call upon data: a built-in, or a def under the base -/
structure DoC (C : Cx) (f : Value) (as : List D) (K : D → Prop) : Prop where
  run : ∀ {Z : Addr → Prop} s vs, Und C Z s → IsAll Z s.heap vs as → wpAny C.M C.A (call f vs) (Gv Z s K) NoE s
structure Tr1 (C : Cx) (a : D) (K : Bool → Prop) : Prop where
  run : ∀ {Z : Addr → Prop} s v, Und C Z s → Is Z s.heap v a → wpAny C.M C.A (truthy v) (fun b s' => Kp s s' ∧ K b) NoE s

section
variable {C : Cx} {Zo : Addr → Prop} {ρ : Loc} {ω : Own} {l : Nat} {K : D → Prop}

theorem pe_int {i : Int} {k : Nat} {p : Pos} (h : K (.int i)) : Pe C ρ ω (.Constant (.int i) k p) K := .mk fun {_} _ _ =>
  wpAny_Constant_int ⟨Kp.tok _ _, _, .int, h⟩
theorem pe_str {x : Str} {k : Nat} {p : Pos} (h : K (.str x.cps.toList)) : Pe C ρ ω (.Constant (.str x) k p) K := .mk fun {_} _ _ =>
  wpAny_Constant_str ⟨Kp.tok _ _, _, (by
    have : x = mkS x.cps.toList := by obtain ⟨a⟩ := x; simp [mkS]
    conv => arg 3; rw [this]
    exact .str), h⟩
theorem pe_bool {b : Bool} {k : Nat} {p : Pos} (h : K (.bool b)) : Pe C ρ ω (.Constant (.bool b) k p) K := .mk fun {_} _ _ =>
  wpAny_Constant_bool ⟨Kp.refl _, _, .bool, h⟩
theorem pe_loc {x : Str} {p : Pos} {d : D} (ok : C.Ok l) (hx : get ρ x = some d) (hk : C.env.kindOf x = some .local) (h : K d) (hd : (x == ("__debug__" : Str)) = false := by decide) : Pe C ρ ω (.Name x p) K := .mk fun {Zo} s hs => by
  obtain ⟨m, hn, hm⟩ := hs.ns
  obtain ⟨v, h1, h2⟩ := hm x d hx hk
  exact wpAny_Name (wpAny_loadName_local ok.kind hk hn h1 ⟨Kp.refl _, d, h2, h⟩) hd
theorem pe_cell {x : Str} {p : Pos} {d : D} (ok : C.Ok l) (hx : get ρ x = some d) (hk : C.env.kindOf x = some .cell) (h : K d) (hd : (x == ("__debug__" : Str)) = false := by decide) : Pe C ρ ω (.Name x p) K := .mk fun {Zo} s hs => by
  obtain ⟨c, v, h1, h2, h3⟩ := hs.cell x d hx (.inl hk)
  exact wpAny_Name (wpAny_loadName_cell ok.kind hk h1 h2 ⟨Kp.refl _, d, h3, h⟩) hd
theorem pe_glob {x : Str} {p : Pos} {v : Value} {d : D} (ok : C.Ok l) (hv : C.mg x = some v) (hi : Is (fun a => C.h₀.get? a = none) C.h₀ v d) (hk : C.env.kindOf x = some .globalImplicit) (h : K d) (hd : (x == ("__debug__" : Str)) = false := by decide) : Pe C ρ ω (.Name x p) K := .mk fun {Zo} s hs =>
  Calls.Name_function_global ok.kind hk (Calls.loadGlobal_global (by rw [ok.gl]; exact ok.g.keeps hs.base) hv ⟨Kp.refl _, d, hi.move (fun b o hz e => ⟨fun q => hz (hs.new b q), hs.base b o e⟩), h⟩) hd
theorem pe_blt {x : Str} {p : Pos} {v : Value} (ok : C.Ok l) (hm : C.mg x = none) (hv : C.mb x = some v) (hk : C.env.kindOf x = some .globalImplicit) (h : K (.val v)) (hd : (x == ("__debug__" : Str)) = false := by decide) : Pe C ρ ω (.Name x p) K := .mk fun {Zo} s hs =>
  Calls.Name_function_global ok.kind hk (Calls.loadGlobal_builtin (by rw [ok.gl]; exact ok.g.keeps hs.base) hm (by rw [ok.bl]; exact ok.b.keeps hs.base) hv ⟨Kp.refl _, _, .val, h⟩) hd

theorem pe_bin {a b : Expr} {op : Operator} {p : Pos} (h : Pe C ρ ω a (fun x => Pe C ρ ω b (fun y => Do2 C (binaryOp op) x y K))) : Pe C ρ ω (.BinOp a op b p) K := .mk fun {Zo} s hs =>
  wpAny_BinOp (wpAny_mono (h.run s hs) (fun v s₁ ⟨k1, x, i1, h1⟩ => wpAny_mono (h1.run s₁ (hs.keeps k1)) (fun w s₂ ⟨k2, y, i2, h2⟩ =>
    wpAny_mono (h2.run s₂ v w (hs.keeps (k1.trans k2)).und (i1.keeps k2.get) i2) (fun r s₃ ⟨k3, z, i3, h3⟩ => ⟨(k1.trans k2).trans k3, z, i3, h3⟩) fun _ _ e => e) fun _ _ e => e) fun _ _ e => e)
theorem pe_un {a : Expr} {op : UnaryOp} {p : Pos} (h : Pe C ρ ω a (fun x => Do1 C (unaryOp op) x K)) : Pe C ρ ω (.UnaryOp op a p) K := .mk fun {Zo} s hs =>
  wpAny_UnaryOp (wpAny_mono (h.run s hs) (fun v s₁ ⟨k1, x, i1, h1⟩ => wpAny_mono (h1.run s₁ v (hs.keeps k1).und i1) (fun r s₃ ⟨k3, z, i3, h3⟩ => ⟨k1.trans k3, z, i3, h3⟩) fun _ _ e => e) fun _ _ e => e)
theorem pt_cmp {a b : Expr} {op : CmpOp} {p : Pos} {K : Bool → Prop} (h : Pe C ρ ω a (fun x => Pe C ρ ω b (fun y => Do2 C (compareOp op) x y (fun c => Tr1 C c K)))) (hm : behindInMarks op b = false) : Pt C ρ ω (.Compare a [op] [b] p) K := .mk fun {Zo} s hs =>
  wpAny_isTrue_Compare1 (wpAny_mono (h.run s hs) (fun v s₁ ⟨k1, x, i1, h1⟩ => wpAny_mono (h1.run s₁ (hs.keeps k1)) (fun w s₂ ⟨k2, y, i2, h2⟩ =>
    wpAny_mono (h2.run s₂ v w (hs.keeps (k1.trans k2)).und (i1.keeps k2.get) i2) (fun r s₃ ⟨k3, z, i3, h3⟩ => wpAny_mono (h3.run s₃ r (hs.keeps ((k1.trans k2).trans k3)).und i3) (fun b s₄ ⟨k4, h4⟩ => ⟨((k1.trans k2).trans k3).trans k4, h4⟩) fun _ _ e => e) fun _ _ e => e) fun _ _ e => e) fun _ _ e => e) hm
theorem pt_not {a : Expr} {p : Pos} {K : Bool → Prop} (h : Pt C ρ ω a (fun b => K (!b))) : Pt C ρ ω (.UnaryOp .Not a p) K := .mk fun {Zo} s hs => wpAny_isTrue_Not (h.run s hs)
/-- a test by its value -/
theorem pt_val {a : Expr} {K : Bool → Prop} (h : Pe C ρ ω a (fun d => Tr1 C d K))
    (he : ∀ whole, isTrue a C.env whole = (do let v ← whole; standAt a.pos; holding [v] (truthy v))) : Pt C ρ ω a K := .mk fun {Zo} s hs =>
  wpAny_isTrue_value (wpAny_mono (h.run s hs) (fun v s₁ ⟨k1, x, i1, h1⟩ => wpAny_mono (h1.run s₁ v (hs.keeps k1).und i1) (fun b s₂ ⟨k2, h2⟩ => ⟨k1.trans k2, h2⟩) fun _ _ e => e) fun _ _ e => e) (he _)
/-- the rest of an and, an or -/
structure Pb (C : Cx) (ρ : Loc) (ω : Own) (op : BoolOp) (es : List Expr) (K : Bool → Prop) : Prop where
  run : ∀ {Zo : Addr → Prop} s, Sta C Zo ρ ω s → wpAny C.M C.A (allTrue op es C.env) (fun b s' => Kp s s' ∧ K b) NoE s
theorem pt_bool {op : BoolOp} {es : List Expr} {p : Pos} {K : Bool → Prop} (h : Pb C ρ ω op es K) : Pt C ρ ω (.BoolOp op es p) K := .mk fun {Zo} s hs => wpAny_isTrue_BoolOp (h.run s hs)
theorem pb_and_nil {K : Bool → Prop} (h : K true) : Pb C ρ ω .And [] K := .mk fun _ _ => wpAny_allTrue_And_nil ⟨Kp.refl _, h⟩
theorem pb_and {x : Expr} {rest : List Expr} {K : Bool → Prop} (h : Pt C ρ ω x (fun b => if b then Pb C ρ ω .And rest K else K false)) : Pb C ρ ω .And (x :: rest) K := .mk fun {Zo} s hs =>
  wpAny_allTrue_And_cons (wpAny_mono (h.run s hs) (fun b s₁ ⟨k1, h1⟩ => by
    cases b with
    | true => exact wpAny_mono (h1.run s₁ (hs.keeps k1)) (fun _ _ ⟨k2, h2⟩ => ⟨k1.trans k2, h2⟩) fun _ _ e => e
    | false => exact ⟨k1, h1⟩) fun _ _ e => e)
theorem pb_or {x : Expr} {rest : List Expr} {K : Bool → Prop} (h : Pt C ρ ω x (fun b => if b then K true else Pb C ρ ω .Or rest K)) : Pb C ρ ω .Or (x :: rest) K := .mk fun {Zo} s hs =>
  wpAny_allTrue_Or_cons (wpAny_mono (h.run s hs) (fun b s₁ ⟨k1, h1⟩ => by
    cases b with
    | false => exact wpAny_mono (h1.run s₁ (hs.keeps k1)) (fun _ _ ⟨k2, h2⟩ => ⟨k1.trans k2, h2⟩) fun _ _ e => e
    | true => exact ⟨k1, h1⟩) fun _ _ e => e)
theorem pb_or_nil {K : Bool → Prop} (h : K false) : Pb C ρ ω .Or [] K := .mk fun _ _ => wpAny_allTrue_Or_nil ⟨Kp.refl _, h⟩
end
end Mine
end

section
namespace Mine

section
variable {C : Cx} {Zo : Addr → Prop} {ρ : Loc} {ω : Own} {l : Nat} {K : D → Prop}

theorem pl_nil {K : List D → Prop} (h : K []) : Pl C ρ ω [] K := .mk fun s pos _ => Calls.spliced_nil ⟨Kp.refl _, [], .nil, h⟩
theorem pl_cons {e : Expr} {es : List Expr} {K : List D → Prop} (h : Pe C ρ ω e (fun d => Pl C ρ ω es (fun ds => K (d :: ds))))
    (he : starEach (e :: es) C.env = (false, eval e C.env) :: starEach es C.env) : Pl C ρ ω (e :: es) K := .mk fun {Zo} s pos hs =>
  wpAny_items_cons (wpAny_mono (h.run s hs) (fun v s₁ ⟨k1, d, i1, h1⟩ => wpAny_mono (h1.run s₁ pos (hs.keeps k1)) (fun vs s₂ ⟨k2, ds, i2, h2⟩ =>
    ⟨k1.trans k2, d :: ds, .cons (i1.keeps k2.get) i2, h2⟩) fun _ _ e => e) fun _ _ e => e) he

/-- what may be called -/
inductive Callable (h : Heap) : Value → Prop where
  | blt {id : String} : Callable h (.builtin id)
  | typ {T : String} : Callable h (.type T)
  | fn {q : Addr} : FnAt q h → Callable h (.ref q)

theorem FnAt.keeps {q : Addr} {h h' : Heap} (x : FnAt q h) (hk : ∀ b o, h.get? b = some o → h'.get? b = some o) : FnAt q h' :=
  let ⟨a, b, c, d, e⟩ := x; ⟨a, b, c, d, hk _ _ e⟩

theorem callWith_any {v : Value} {e : Expr} {es : List Expr} {pos : Pos} (hc : Callable C.h₀ v)
    (h : Pl C ρ ω (e :: es) (fun ds => DoC C v ds K))
    (he : starEach (e :: es) C.env = (false, eval e C.env) :: starEach es C.env) (hplain : (backTo pos (starEach es C.env)).any (·.1) = false) (s : Shared) (hs : Sta C Zo ρ ω s) :
    wpAny C.M C.A (callWith pos v [] (backTo pos (starEach (e :: es) C.env)) []) (Gv (C.Z Zo ω) s K) NoE s := by
  have hh : wpAny C.M C.A (spliced (backTo pos (starEach (e :: es) C.env))) (fun vs s₁ => Kp s s₁ ∧ wpAny C.M C.A (call v vs) (Gv (C.Z Zo ω) s K) NoE s₁) NoE s :=
    wpAny_mono (h.run s pos hs) (fun vs s₁ ⟨k1, ds, i1, h1⟩ => ⟨k1, wpAny_mono (h1.run s₁ vs (hs.keeps k1).und i1) (fun r s₂ ⟨k2, d, i2, h2⟩ => ⟨k1.trans k2, d, i2, h2⟩) fun _ _ e => e⟩) fun _ _ e => e
  cases hc with
  | blt => exact callWith_method1 (first := []) (wpAny_mono hh (fun vs s₁ x => x.2) fun _ _ e => e) he hplain
  | typ => exact PyProof.Rows.callWith_type1 (wpAny_mono hh (fun vs s₁ x => x.2) fun _ _ e => e) he hplain
  | fn hf => exact callWith_F (first := []) (FnAt.keeps hf hs.base) (wpAny_mono hh (fun vs s₁ x => ⟨FnAt.keeps (FnAt.keeps hf hs.base) x.1.get, x.2⟩) fun _ _ e => e) he hplain

theorem pe_call {f : Str} {np pos : Pos} {e : Expr} {es : List Expr} (h : Pe C ρ ω (.Name f np) (fun d => ∃ v, d = .val v ∧ Callable C.h₀ v ∧ Pl C ρ ω (e :: es) (fun ds => DoC C v ds K)))
    (he : starEach (e :: es) C.env = (false, eval e C.env) :: starEach es C.env) (hplain : (backTo pos (starEach es C.env)).any (·.1) = false) : Pe C ρ ω (.Call (.Name f np) (e :: es) [] pos) K := .mk fun {Zo} s hs => by
  refine wpAny_Call_NameR (wpAny_mono (h.run s hs) (fun fv s₁ x => ?_) fun _ _ e => e)
  obtain ⟨k1, d, i1, v, rfl, hc, h1⟩ := x
  cases i1
  exact wpAny_mono (callWith_any hc h1 he hplain s₁ (hs.keeps k1)) (fun r s₂ ⟨k2, d, i2, h2⟩ => ⟨k1.trans k2, d, i2, h2⟩) fun _ _ e => e

/-- a method of a text, with arguments -/
theorem pe_meth {o : Expr} {name : Str} {id : String} {apos pos : Pos} {e : Expr} {es : List Expr} (slot : Slot "str" name id) (ty : typeOf (.builtin id) = pure (.type "method_descriptor"))
    (h : Pe C ρ ω o (fun d => ∃ x, d = .str x ∧ Pl C ρ ω (e :: es) (fun ds => DoC C (.builtin id) (.str x :: ds) K)))
    (hbase : attributeBase o name C.env (eval o C.env) = eval o C.env)
    (hfew : ((backTo pos (starEach (e :: es) C.env)).all (fun x => !x.1) && (backToKw pos (keywordEach [] C.env)).all (fun x => x.1.isSome)
      && decide ((e :: es).length + ([] : List Keyword).length + (if ([] : List Keyword).isEmpty then 0 else 1) < 30)) = true)
    (hline : (apos.endLine == pos.line) = true)
    (he : starEach (e :: es) C.env = (false, eval e C.env) :: starEach es C.env) (hplain : (backTo pos (starEach es C.env)).any (·.1) = false) :
    Pe C ρ ω (.Call (.Attribute o name apos) (e :: es) [] pos) K := .mk fun {Zo} s hs => by
  refine wpAny_Call_method_lateS hbase hfew hline (wpAny_mono (h.run s hs) (fun ov s₁ x => ?_) fun _ _ e => e)
  obtain ⟨k1, d, i1, x, rfl, h1⟩ := x
  cases i1
  refine ⟨"str", id, F.plainAttrs_str, slot, ty, typeIs_str _ _ _, (fun _ e => nomatch e), ?_⟩
  refine callWith_method1 (first := [.str (mkS x) _]) (wpAny_mono (h1.run s₁ pos (hs.keeps k1)) (fun vs s₂ ⟨k2, ds, i2, h2⟩ => ?_) fun _ _ e => e) he hplain
  have hs2 := (hs.keeps k1).keeps k2
  exact wpAny_mono (h2.run s₂ _ hs2.und (.cons .str i2)) (fun r s₃ ⟨k3, d, i3, h3⟩ => ⟨(k1.trans k2).trans k3, d, i3, h3⟩) fun _ _ e => e
theorem pe_meth0 {o : Expr} {name : Str} {id : String} {apos pos : Pos} (slot : Slot "str" name id) (ty : typeOf (.builtin id) = pure (.type "method_descriptor"))
    (h : Pe C ρ ω o (fun d => ∃ x, d = .str x ∧ DoC C (.builtin id) [.str x] K))
    (hbase : attributeBase o name C.env (eval o C.env) = eval o C.env) (hline : (apos.endLine == pos.line) = true) :
    Pe C ρ ω (.Call (.Attribute o name apos) [] [] pos) K := .mk fun {Zo} s hs => by
  refine wpAny_Call_method_lateS hbase rfl hline (wpAny_mono (h.run s hs) (fun ov s₁ x => ?_) fun _ _ e => e)
  obtain ⟨k1, d, i1, x, rfl, h1⟩ := x
  cases i1
  refine ⟨"str", id, F.plainAttrs_str, slot, ty, typeIs_str _ _ _, (fun _ e => nomatch e), ?_⟩
  refine callWith_method0 ?_
  exact wpAny_mono (h1.run s₁ _ (hs.keeps k1).und (.cons .str .nil)) (fun r s₃ ⟨k3, d, i3, h3⟩ => ⟨k1.trans k3, d, i3, h3⟩) fun _ _ e => e

end
end Mine
end

section
namespace Mine

/-- Python's index into a list -/
def idx {α : Type} (xs : List α) (k : Int) : Option α := (seqIndex? k xs.length).bind (xs[·]?)
/-- Python's slice by ones -/
def sl {α : Type} (xs : List α) (lo hi : Option Int) : List α :=
  (xs.drop (lo.elim 0 (clipAt xs.length))).take (hi.elim xs.length (clipAt xs.length) - lo.elim 0 (clipAt xs.length))

def lim : Nat := 2 ^ 24
theorem lim_le {n : Nat} (h : n ≤ lim) : n ≤ sizeLine := by rw [sizeLine_eq]; simpa [lim] using h

def getO : Own → Addr → Option (List D)
  | [], _ => none
  | (b, ds) :: r, a => if a = b then some ds else getO r a
theorem getO_mem {ω : Own} {a : Addr} {ds : List D} (h : getO ω a = some ds) : (a, ds) ∈ ω := by
  induction ω with
  | nil => cases h
  | cons p r ih =>
    obtain ⟨b, es⟩ := p
    simp only [getO] at h
    split at h
    · rename_i e; cases h; subst e; exact .head _
    · exact .tail _ (ih h)

def SubK (ω : Own) (o i : D) (K : D → Prop) : Prop := match o, i with
  | .str x, .int k => ∃ c, idx x k = some c ∧ x.length ≤ lim ∧ K (.str [c])
  | .list ds, .int k => ∃ d, idx ds k = some d ∧ ds.length ≤ lim ∧ K d
  | .tup ds, .int k => ∃ d, idx ds k = some d ∧ ds.length ≤ lim ∧ K d
  | .val (.ref a), .int k => ∃ ds d, getO ω a = some ds ∧ idx ds k = some d ∧ ds.length ≤ lim ∧ K d
  | _, _ => False

theorem idx_bounds {α : Type} {xs : List α} {k : Int} {c : α} (h : idx xs k = some c) : -(xs.length : Int) ≤ k ∧ k < xs.length := by
  unfold idx seqIndex? at h
  obtain ⟨j, hj, hx⟩ := Option.bind_eq_some_iff.mp h
  simp only [] at hj
  split at hj
  · split at hj
    · rename_i q; simp only [Bool.and_eq_true, decide_eq_true_eq] at q; omega
    · cases hj
  · split at hj
    · rename_i q; simp only [Bool.and_eq_true, decide_eq_true_eq] at q; omega
    · cases hj

section
variable {C : Cx} {Zo : Addr → Prop} {ρ : Loc} {ω : Own} {l : Nat} {K : D → Prop}

theorem getItem_seq {s : Shared} {a : Addr} {vs : List Value} {ds : List D} {k : Int} {t : Tok} {d : D} {Z : Addr → Prop} (hl : s.heap.IsList a vs.toArray) (hi : IsAll Z s.heap vs ds) (hk : idx ds k = some d) (hlen : ds.length ≤ lim) (h : K d) :
    wpAny C.M C.A (getItem (.ref a) (.int k t)) (Gv Z s K) NoE s := by
  have hb := idx_bounds hk
  have hlen' := hi.length
  simp only [lim] at hlen
  unfold idx seqIndex? at hk
  obtain ⟨j, hj, hx⟩ := Option.bind_eq_some_iff.mp hk
  obtain ⟨v, hv, iv⟩ := hi.get hx
  simp only [] at hj
  by_cases h0 : k < 0
  · rw [if_pos h0] at hj
    split at hj
    · cases hj
      exact wpAny_getItem_list_neg hl h0 (by simp; omega) (by omega) (by simpa [hlen'] using hv) ⟨Kp.refl _, d, iv, h⟩
    · cases hj
  · rw [if_neg h0] at hj
    split at hj
    · cases hj
      exact wpAny_getItem_list hl (by omega) (by omega) (by simpa using hv) ⟨Kp.refl _, d, iv, h⟩
    · cases hj

theorem sub_doc {s : Shared} {o i : Value} {do' di : D} {value slice : Expr} (hs : Sta C Zo ρ ω s) (io : Is (C.Z Zo ω) s.heap o do') (ii : Is (C.Z Zo ω) s.heap i di) (h : SubK ω do' di K)
    (hsl : ∀ o i, subscripted slice false o i = operate [o, i] (getItem o i)) : wpAny C.M C.A (subscriptTail value slice o i) (Gv (C.Z Zo ω) s K) NoE s := by
  cases ii with
  | int =>
    cases io with
    | str =>
      rename_i ki ti xi tx
      obtain ⟨c, hc, hlen, hK⟩ := h
      have hb := idx_bounds hc
      simp only [lim] at hlen
      refine tail_any (typeIs_str _ _ _) F.slot_str_getitem.lookup (SB.getItem (fitsSsize_of (N := 9223372036854775808) (by omega) (by omega) (Int.le_refl _)) (charAt_isSome (by simpa [Str.length] using hb.1) (by simpa [Str.length] using hb.2)) ?_) (hsl _ _)
      refine ⟨Kp.tok _ _, _, ?_, hK⟩
      have : Txt.item (mkS xi) ki = mkS [c] := by
        unfold Txt.item Txt.charAt
        unfold idx at hc
        simp only [mkS, Str.length, List.size_toArray, List.getElem?_toArray] at hc ⊢
        rw [hc]; rfl
      rw [this]; exact .str
    | list hz hl hi =>
      obtain ⟨d, hk, hlen, hK⟩ := h
      exact tail_any hl.typeIs slot_list_getitem.lookup (getItem_seq hl hi hk hlen hK) (hsl _ _)
    | tup hz hl hi =>
      obtain ⟨d, hk, hlen, hK⟩ := h
      have hb := idx_bounds hk
      have hlen' := hi.length
      simp only [lim] at hlen
      unfold idx at hk
      obtain ⟨j, hj, hx⟩ := Option.bind_eq_some_iff.mp hk
      obtain ⟨v, hv, iv⟩ := hi.get hx
      obtain ⟨ob, hob, hcls, n, hdat⟩ := id hl
      exact tail_any (T := "tuple") ⟨ob, hob, hcls⟩ slot_tuple_getitem.lookup (PyProof.Rows.getItem_tuple (items := _) ⟨ob, hob, hcls, n, hdat⟩ (by omega) (by omega) (by simpa [hlen'] using hj) (by simpa using hv) ⟨Kp.refl _, d, iv, hK⟩) (hsl _ _)
    | val =>
      rename_i k t
      cases o with
      | ref a =>
        obtain ⟨ds, d, hg, hk, hlen, hK⟩ := h
        obtain ⟨vs, hl, hi⟩ := hs.ownL _ (getO_mem hg)
        exact tail_any hl.typeIs slot_list_getitem.lookup (getItem_seq hl hi hk hlen hK) (hsl _ _)
      | _ => exact h.elim
    | _ => exact h.elim
  | _ => cases do' <;> first | exact h.elim | (rename_i v; cases v <;> exact h.elim)

theorem pe_sub {value slice : Expr} {p : Pos} (h : Pe C ρ ω value (fun o => Pe C ρ ω slice (fun i => SubK ω o i K)))
    (hsl : ∀ o i, subscripted slice false o i = operate [o, i] (getItem o i)) : Pe C ρ ω (.Subscript value slice p) K := .mk fun {Zo} s hs => by
  refine Subscript_ (wpAny_mono (h.run s hs) (fun o s₁ ⟨k1, x, i1, h1⟩ => wpAny_mono (h1.run s₁ (hs.keeps k1)) (fun i s₂ ⟨k2, y, i2, h2⟩ => ?_) fun _ _ e => e) fun _ _ e => e)
  exact wpAny_mono (sub_doc (hs.keeps (k1.trans k2)) (i1.keeps k2.get) i2 h2 hsl) (fun r s₃ ⟨k3, z, i3, h3⟩ => ⟨(k1.trans k2).trans k3, z, i3, h3⟩) fun _ _ e => e

/-- displays -/
theorem pe_list {es : List Expr} {p : Pos} (h : Pl C ρ ω es (fun ds => ds.length ≤ lim ∧ K (.list ds))) : Pe C ρ ω (.List es p) K := .mk fun {Zo} s hs =>
  wpAny_List (wpAny_mono (h.run s p hs) (fun vs s₁ ⟨k1, ds, i1, hlen, h1⟩ => ⟨lim_le (by rw [i1.length]; exact hlen), k1.trans (Kp.push _ _), .list ds,
    .list ((hs.keeps k1).live.new) ⟨_, Heap.get?_push_size _ rfl, rfl, 0, rfl⟩ (i1.keeps fun b o e => Heap.get?_push_of_some _ e), h1⟩) fun _ _ e => e)
/-- a slice's bound -/
structure Po (C : Cx) (ρ : Loc) (ω : Own) (e : Option Expr) (K : Option Int → Prop) : Prop where
  run : ∀ {Zo : Addr → Prop} s, Sta C Zo ρ ω s → wpAny C.M C.A (evalPart e C.env) (fun v s' => Kp s s' ∧ ∃ i, IsPart v i ∧ K i) NoE s
theorem po_none {K : Option Int → Prop} (h : K none) : Po C ρ ω none K := .mk fun s _ => wpAny_evalPart_none ⟨Kp.refl _, none, .none, h⟩
theorem po_some {e : Expr} {K : Option Int → Prop} (h : Pe C ρ ω e (fun d => ∃ i, d = .int i ∧ K (some i))) : Po C ρ ω (some e) K := .mk fun {Zo} s hs =>
  wpAny_evalPart_some (wpAny_mono (h.run s hs) (fun v s₁ ⟨k1, d, i1, i, e, h1⟩ => ⟨k1, some i, by subst e; cases i1; exact .int _ _, h1⟩) fun _ _ e => e)

def SliceK (ω : Own) (o : D) (lo hi : Option Int) (K : D → Prop) : Prop := match o with
  | .str x => x.length ≤ lim ∧ K (.str (sl x lo hi))
  | .list ds => ds.length ≤ lim ∧ K (.list (sl ds lo hi))
  | .val (.ref a) => ∃ ds, getO ω a = some ds ∧ ds.length ≤ lim ∧ K (.list (sl ds lo hi))
  | _ => False

theorem strSlice_sl (x : List Nat) (lo hi : Option Int) : (Builtin.Str.strSliceIndices lo hi 1 x.length).filterMap (x[·]?) = sl x lo hi := by
  have e : Builtin.Str.strSliceIndices lo hi 1 x.length = sliceRange ((lo.elim 0 (clipAt x.length) : Nat) : Int) ((hi.elim x.length (clipAt x.length) : Nat) : Int) 1 := by
    cases lo <;> cases hi <;> simp [Builtin.Str.strSliceIndices, clipAt_cast]
  rw [e, sliceRange_one]
  have := pick_run x.toArray (lo.elim 0 (clipAt x.length)) (hi.elim x.length (clipAt x.length) - lo.elim 0 (clipAt x.length))
  simpa [sl] using this
theorem sl_length {α : Type} (xs : List α) (lo hi : Option Int) : (sl xs lo hi).length ≤ xs.length := by
  unfold sl; simp only [List.length_take, List.length_drop]; omega
theorem sl_same {α : Type} {xs : List α} {lo hi : Option Int} (h : (sl xs lo hi).length = xs.length) : sl xs lo hi = xs := by
  unfold sl at h ⊢
  simp only [List.length_take, List.length_drop] at h
  rcases Nat.eq_zero_or_pos xs.length with h0 | h0
  · have : xs = [] := List.length_eq_zero_iff.mp h0
    subst this; simp
  · have h1 : lo.elim 0 (clipAt xs.length) = 0 := by omega
    rw [h1] at h ⊢
    simp only [List.drop_zero, Nat.sub_zero] at h ⊢
    exact List.take_of_length_le (by omega)
theorem IsAll.sl {Z : Addr → Prop} {h : Heap} {vs : List Value} {ds : List D} (x : IsAll Z h vs ds) (lo hi : Option Int) : IsAll Z h (sl vs lo hi) (sl ds lo hi) := by
  have hd : ∀ (n : Nat) {vs : List Value} {ds : List D}, IsAll Z h vs ds → IsAll Z h (vs.drop n) (ds.drop n) := by
    intro n
    induction n with
    | zero => intro vs ds x; exact x
    | succ n ih => intro vs ds x; cases x with
      | nil => exact .nil
      | cons a b => exact ih b
  have ht : ∀ (n : Nat) {vs : List Value} {ds : List D}, IsAll Z h vs ds → IsAll Z h (vs.take n) (ds.take n) := by
    intro n
    induction n with
    | zero => intro vs ds x; exact .nil
    | succ n ih => intro vs ds x; cases x with
      | nil => exact .nil
      | cons a b => exact .cons a (ih b)
  unfold Mine.sl
  rw [x.length]
  exact ht _ (hd _ x)

theorem listSlice {s : Shared} {a sla : Addr} {vs : List Value} {ds : List D} {vl vu : Value} {lo hi : Option Int} {Z : Addr → Prop} (hl : s.heap.IsList a vs.toArray) (hi' : IsAll Z s.heap vs ds) (live : Live Z s.heap)
    (hs : s.heap.IsSliceOf sla vl vu .none) (pl : IsPart vl lo) (pu : IsPart vu hi) (hlen : ds.length ≤ lim) (h : K (.list (sl ds lo hi))) :
    wpAny C.M C.A (getItem (.ref a) (.ref sla)) (Gv Z s K) NoE s := by
  refine wpAny_getItem_list_slice hl hs pl pu .none (by simp) ?_ (by rw [List.size_toArray, hi'.length]; exact lim_le hlen)
  refine ⟨Kp.push _ _, _, .list live.new ⟨_, Heap.get?_push_size _ rfl, rfl, 0, ?_⟩ ((hi'.sl lo hi).keeps fun b o e => Heap.get?_push_of_some _ e), h⟩
  rw [slicePick_plain]; simp [sl]

theorem slice_doc {s : Shared} {o : Value} {sla : Addr} {do' : D} {vl vu : Value} {lo hi : Option Int} (hs : Sta C Zo ρ ω s) (io : Is (C.Z Zo ω) s.heap o do') (hsl : s.heap.IsSliceOf sla vl vu .none) (pl : IsPart vl lo) (pu : IsPart vu hi)
    (h : SliceK ω do' lo hi K) {value : Expr} {lower upper : Option Expr} {p : Pos} : wpAny C.M C.A (subscriptTail value (.Slice lower upper none p) o (.ref sla)) (Gv (C.Z Zo ω) s K) NoE s := by
  cases io with
  | str =>
    rename_i x t
    obtain ⟨hlen, hK⟩ := h
    refine tail_any (typeIs_str _ _ _) F.slot_str_getitem.lookup ?_ rfl
    obtain ⟨ob, hob, hc, hd⟩ := hsl
    have gen : ∀ (l u : Option (Int × Tok)), vl = partValue l → vu = partValue u → l.map (·.1) = lo → u.map (·.1) = hi → wpAny C.M C.A (getItem (.str (mkS x) t) (.ref sla)) (Gv (C.Z Zo ω) s K) NoE s := by
      intro l u e1 e2 e3 e4
      refine wpAny_getItem_str_slice (l := l) (u := u) (st := none) ⟨ob, hob, hc, by rw [hd, e1, e2]; rfl⟩ rfl ?_
      unfold sliceMade slicePicked
      rw [e3, e4]
      have hx : (mkS x).length = x.length := by simp [Str.length]
      have hf : (Builtin.Str.strSliceIndices lo hi ((Option.map (·.1) (none : Option (Int × Tok))).getD 1) (mkS x).length).filterMap ((mkS x).cps[·]?) = sl x lo hi := by
        rw [hx]; simpa using strSlice_sl x lo hi
      have hin : ∀ j ∈ Builtin.Str.strSliceIndices lo hi 1 x.length, j < x.length := by
        have e : Builtin.Str.strSliceIndices lo hi 1 x.length = sliceRange ((lo.elim 0 (clipAt x.length) : Nat) : Int) ((hi.elim x.length (clipAt x.length) : Nat) : Int) 1 := by
          cases lo <;> cases hi <;> simp [Builtin.Str.strSliceIndices, clipAt_cast]
        rw [e, sliceRange_one]
        intro j hj
        obtain ⟨k, hk, rfl⟩ := List.mem_map.mp hj
        have := List.mem_range.mp hk
        have hcl : ∀ i, clipAt x.length i ≤ x.length := fun i => by have := clipAt_cast x.length i; omega
        have h1 : hi.elim x.length (clipAt x.length) ≤ x.length := by cases hi <;> simp [hcl]
        omega
      have hlenEq : (Builtin.Str.strSliceIndices lo hi 1 x.length).length = (sl x lo hi).length := by
        rw [← strSlice_sl]
        have : ∀ (js : List Nat), (∀ j ∈ js, j < x.length) → js.length = (js.filterMap (x[·]?)).length := by
          intro js
          induction js with
          | nil => intro _; rfl
          | cons j js ih => intro h; rw [List.filterMap_cons, List.getElem?_eq_getElem (h j (.head _))]; simp [ih fun k hk => h k (.tail _ hk)]
        exact this _ hin
      split
      · rename_i hc
        refine ⟨Kp.refl _, .str (sl x lo hi), ?_, hK⟩
        simp only [Option.map_none, Option.getD_none, beq_self_eq_true, Bool.true_and, beq_iff_eq] at hc
        rw [hx, hlenEq] at hc
        rw [sl_same hc]; exact .str
      · rw [hf]
        refine ⟨?_, Kp.tok _ _, .str (sl x lo hi), .str, hK⟩
        have := sl_length x lo hi
        simp only [Str.length, List.size_toArray]
        exact lim_le (by omega)
    cases pl with
    | none => cases pu with
      | none => exact gen none none rfl rfl rfl rfl
      | int i t => exact gen none (some (i, t)) rfl rfl rfl rfl
    | int i t => cases pu with
      | none => exact gen (some (i, t)) none rfl rfl rfl rfl
      | int j u => exact gen (some (i, t)) (some (j, u)) rfl rfl rfl rfl
  | list hz hl hi' => exact tail_any hl.typeIs slot_list_getitem.lookup (listSlice hl hi' hs.live hsl pl pu h.1 h.2) rfl
  | val =>
    cases o with
    | ref a =>
      obtain ⟨ds, hg, hlen, hK⟩ := h
      obtain ⟨vs, hl, hi'⟩ := hs.ownL _ (getO_mem hg)
      exact tail_any hl.typeIs slot_list_getitem.lookup (listSlice hl hi' hs.live hsl pl pu hlen hK) rfl
    | _ => exact h.elim
  | _ => exact h.elim

theorem pe_slice {value : Expr} {lower upper : Option Expr} {p q : Pos} (h : Pe C ρ ω value (fun o => Po C ρ ω lower (fun lo => Po C ρ ω upper (fun hi => SliceK ω o lo hi K)))) :
    Pe C ρ ω (.Subscript value (.Slice lower upper none q) p) K := .mk fun {Zo} s hs => by
  refine Subscript_ (wpAny_mono (h.run s hs) (fun o s₁ ⟨k1, x, i1, h1⟩ => wpAny_Slice (wpAny_mono (h1.run s₁ (hs.keeps k1)) (fun vl s₂ ⟨k2, lo, pl, h2⟩ => wpAny_mono (h2.run s₂ (hs.keeps (k1.trans k2))) (fun vu s₃ ⟨k3, hi, pu, h3⟩ => wpAny_evalPart_none ?_) fun _ _ e => e) fun _ _ e => e)) fun _ _ e => e)
  have k4 := Kp.push s₃ { cls := .type "slice", data := .fields #[vl, vu, .none] }
  have kk := ((k1.trans k2).trans k3).trans k4
  exact wpAny_mono (slice_doc (hs.keeps kk) (i1.keeps ((k2.trans k3).trans k4).get) ⟨_, Heap.get?_push_size _ rfl, rfl, rfl⟩ pl pu h3) (fun r s₅ ⟨k5, z, i5, h5⟩ => ⟨kk.trans k5, z, i5, h5⟩) fun _ _ e => e
end
end Mine
end

section
namespace Mine

structure Step (C : Cx) (ω ω' : Own) (s s' : Shared) : Prop where
  same : ∃ h' tk, s' = { s with heap := h', toks := tk } ∧ s.toks ≤ tk
  keep : ∀ b o, ¬ C.Mu ω b → s.heap.get? b = some o → s'.heap.get? b = some o
  live : ∀ b o, s.heap.get? b = some o → ∃ o', s'.heap.get? b = some o'
  grow : ∀ a, a ∈ ω'.map (·.1) → a ∈ ω.map (·.1) ∨ s.heap.get? a = none

theorem Step.refl (C : Cx) (ω : Own) (s : Shared) : Step C ω ω s s := ⟨⟨_, _, rfl, Nat.le_refl _⟩, fun _ _ _ e => e, fun _ o e => ⟨o, e⟩, fun _ h => .inl h⟩
theorem Step.mu {C : Cx} {ω ω' : Own} {s s' : Shared} (x : Step C ω ω' s s') {b : Addr} {o : Obj} (hb : ¬ C.Mu ω b) (e : s.heap.get? b = some o) : ¬ C.Mu ω' b := by
  rintro (h | h | h)
  · exact hb (.inl h)
  · exact hb (.inr (.inl h))
  · rcases x.grow b h with h | h
    · exact hb (.inr (.inr h))
    · rw [h] at e; cases e
theorem Step.trans {C : Cx} {ω ω' ω'' : Own} {s s' s'' : Shared} (x : Step C ω ω' s s') (y : Step C ω' ω'' s' s'') : Step C ω ω'' s s'' := by
  refine ⟨?_, fun b o hb e => y.keep b o (x.mu hb e) (x.keep b o hb e), fun b o e => let ⟨o', e'⟩ := x.live b o e; y.live b o' e', fun a ha => ?_⟩
  · obtain ⟨h1, t1, rfl, l1⟩ := x.same
    obtain ⟨h2, t2, rfl, l2⟩ := y.same
    exact ⟨h2, t2, rfl, Nat.le_trans l1 l2⟩
  · rcases y.grow a ha with h | h
    · exact x.grow a h
    · cases e : s.heap.get? a with
      | none => exact .inr rfl
      | some o =>
        obtain ⟨o', e'⟩ := x.live a o e
        rw [h] at e'; cases e'
theorem Kp.step {C : Cx} {ω : Own} {s s' : Shared} (x : Kp s s') : Step C ω ω s s' := by
  have hg := x.get
  obtain ⟨h', tk, rfl, k, l⟩ := x
  exact ⟨⟨h', tk, rfl, l⟩, fun b o _ e => hg b o e, fun b o e => ⟨o, hg b o e⟩, fun _ h => .inl h⟩

inductive Fl where
  | next | brk | cont
  | ret (d : D)
def FlIs (Z : Addr → Prop) (h : Heap) : Flow → Fl → Prop
  | .next, .next => True
  | .brk, .brk => True
  | .cont, .cont => True
  | .ret v, .ret d => Is Z h v d
  | _, _ => False

def Out (C : Cx) (Zo : Addr → Prop) (ω : Own) (s : Shared) (K : Fl → Loc → Own → Prop) (f : Flow) (s' : Shared) : Prop :=
  ∃ fl ρ' ω', FlIs (C.Z Zo ω') s'.heap f fl ∧ Sta C Zo ρ' ω' s' ∧ Step C ω ω' s s' ∧ K fl ρ' ω'
structure Ex (C : Cx) (ρ : Loc) (ω : Own) (st : Stmt) (K : Fl → Loc → Own → Prop) : Prop where
  run : ∀ {Zo : Addr → Prop} s, Sta C Zo ρ ω s → wpAny C.M C.A (exec st C.env) (Out C Zo ω s K) NoE s
structure Exs (C : Cx) (ρ : Loc) (ω : Own) (sts : List Stmt) (K : Fl → Loc → Own → Prop) : Prop where
  run : ∀ {Zo : Addr → Prop} s, Sta C Zo ρ ω s → wpAny C.M C.A (execs sts C.env) (Out C Zo ω s K) NoE s

theorem Out.after {C : Cx} {Zo : Addr → Prop} {ω ω₁ : Own} {s s₁ : Shared} {K : Fl → Loc → Own → Prop} {f : Flow} {s' : Shared} (st : Step C ω ω₁ s s₁) (x : Out C Zo ω₁ s₁ K f s') : Out C Zo ω s K f s' :=
  let ⟨fl, ρ', ω', a, b, c, d⟩ := x; ⟨fl, ρ', ω', a, b, st.trans c, d⟩

section
variable {C : Cx} {Zo : Addr → Prop} {ρ : Loc} {ω : Own} {l : Nat} {K : Fl → Loc → Own → Prop}

theorem exs_nil (h : K .next ρ ω) : Exs C ρ ω [] K := .mk fun s hs => wpAny_execs_nil ⟨.next, ρ, ω, trivial, hs, Step.refl _ _ _, h⟩
theorem exs_cons {st : Stmt} {rest : List Stmt} (h : Ex C ρ ω st (fun fl ρ' ω' => match fl with | .next => Exs C ρ' ω' rest K | fl => K fl ρ' ω')) : Exs C ρ ω (st :: rest) K := .mk fun s hs => by
  refine wpAny_execs_cons (wpAny_mono (h.run s hs) (fun f s' x => ?_) fun _ _ e => e)
  obtain ⟨fl, ρ', ω', hf, hs', hst, hk⟩ := x
  cases fl with
  | next => cases f with
    | next => exact wpAny_mono (hk.run s' hs') (fun _ _ o => o.after hst) fun _ _ e => e
    | _ => exact hf.elim
  | brk => cases f with
    | brk => exact ⟨.brk, ρ', ω', hf, hs', hst, hk⟩
    | _ => exact hf.elim
  | cont => cases f with
    | cont => exact ⟨.cont, ρ', ω', hf, hs', hst, hk⟩
    | _ => exact hf.elim
  | ret d => cases f with
    | ret v => exact ⟨.ret d, ρ', ω', hf, hs', hst, hk⟩
    | _ => exact hf.elim

theorem mu_locals : C.Z Zo ω C.env.locals := .inr (.inl rfl)
theorem mu_cell {x : Str} {c : Addr} (h : C.env.cells.lookup x = some c) : C.Z Zo ω c := .inr (.inr (.inl ⟨x, h⟩))
theorem mu_own {a : Addr} (h : a ∈ ω.map (·.1)) : C.Z Zo ω a := .inr (.inr (.inr h))

theorem own_not_cell {s : Shared} (hs : Sta C Zo ρ ω s) {p : Addr × List D} (hp : p ∈ ω) {x : Str} {c : Addr} (hc : C.env.cells.lookup x = some c) : p.1 ≠ c := by
  obtain ⟨vs, ⟨o, ho, _, n, hd⟩, _⟩ := hs.ownL p hp
  obtain ⟨v, o', ho', hd'⟩ := hs.cells x c hc
  intro e
  rw [e, ho'] at ho
  cases ho
  rw [hd'] at hd; cases hd
theorem own_not_loc {s : Shared} (hs : Sta C Zo ρ ω s) {p : Addr × List D} (hp : p ∈ ω) : p.1 ≠ C.env.locals := by
  obtain ⟨vs, ⟨o, ho, _, n, hd⟩, _⟩ := hs.ownL p hp
  obtain ⟨m, ⟨o', es, ep, ho', hd', _⟩, _⟩ := hs.ns
  intro e
  rw [e, ho'] at ho
  cases ho
  rw [hd'] at hd; cases hd
theorem cell_not_loc {s : Shared} (hs : Sta C Zo ρ ω s) {x : Str} {c : Addr} (hc : C.env.cells.lookup x = some c) : c ≠ C.env.locals := by
  obtain ⟨v, o, ho, hd⟩ := hs.cells x c hc
  obtain ⟨m, ⟨o', es, ep, ho', hd', _⟩, _⟩ := hs.ns
  intro e
  rw [e, ho'] at ho
  cases ho
  rw [hd'] at hd; cases hd

theorem store_doc {x : Str} {v : Value} {d : D} {s : Shared} (ok : C.Ok l) (hs : Sta C Zo ρ ω s) (iv : Is (C.Z Zo ω) s.heap v d) (hk : C.env.kindOf x = some .local ∨ (C.env.kindOf x = some .cell ∧ (C.env.cells.lookup x).isSome = true)) :
    wpAny C.M C.A (storeName C.env x v) (fun _ s' => Sta C Zo (put ρ x d) ω s' ∧ Step C ω ω s s') NoE s := by
  rcases hk with hk | ⟨hk, hc⟩
  · obtain ⟨m, hn, hm⟩ := hs.ns
    refine wpAny_storeName_local hk hn (fun h' hn' hs' => ?_) (by rw [ok.kind]; rfl)
    have mv : ∀ b o, ¬ C.Z Zo ω b → s.heap.get? b = some o → ¬ C.Z Zo ω b ∧ h'.get? b = some o := fun b o hz e => ⟨hz, (hs'.2 b fun q => hz (q ▸ mu_locals)).trans e⟩
    refine ⟨⟨fun b o e => ?_, hs.new, ⟨_, hn', fun y dy hy hl => ?_⟩, fun y dy hy hl => ?_, fun y c hy => ?_, hs.inj, fun p hp => ?_, hs.nodup, hs.apart, fun a ha => ?_, Nat.succ_pos _⟩, ⟨⟨h', _, rfl, Nat.le_succ _⟩, fun b o hb e => ?_, fun b o e => ?_, fun _ h => .inl h⟩⟩
    · refine (hs'.2 b fun q => ?_).trans (hs.base b o e)
      have := hs.new b (q ▸ mu_locals); rw [this] at e; cases e
    · rw [get_put] at hy
      by_cases hyx : y = x
      · rw [if_pos hyx] at hy; cases hy; exact ⟨v, by simp [hyx], iv.move mv⟩
      · rw [if_neg hyx] at hy
        obtain ⟨u, h1, h2⟩ := hm y dy hy hl
        exact ⟨u, by simp [hyx, h1], h2.move mv⟩
    · have hyx : y ≠ x := by rintro rfl; rw [hk] at hl; rcases hl with h | h <;> cases h
      rw [get_put, if_neg hyx] at hy
      obtain ⟨c, u, h1, ⟨o, h2, h2'⟩, h3⟩ := hs.cell y dy hy hl
      exact ⟨c, u, h1, ⟨o, (hs'.2 c (cell_not_loc hs h1)).trans h2, h2'⟩, h3.move mv⟩
    · obtain ⟨u, o, h2, h2'⟩ := hs.cells y c hy
      exact ⟨u, o, (hs'.2 c (cell_not_loc hs hy)).trans h2, h2'⟩
    · obtain ⟨vs, h1, h2⟩ := hs.own p hp
      exact ⟨vs, h1.at fun o e => (hs'.2 _ (own_not_loc hs hp)).trans e, h2.move mv⟩
    · obtain ⟨o, ho⟩ := hs.zo a ha
      by_cases q : a = C.env.locals
      · obtain ⟨o', _, _, ho', _⟩ := hn'; exact ⟨o', q ▸ ho'⟩
      · exact ⟨o, (hs'.2 a q).trans ho⟩
    · exact (hs'.2 b fun q => hb (.inl q)).trans e
    · by_cases q : b = C.env.locals
      · obtain ⟨o', _, _, ho', _⟩ := hn'; exact ⟨o', q ▸ ho'⟩
      · exact ⟨o, (hs'.2 b q).trans e⟩
  · obtain ⟨c, hc⟩ := Option.isSome_iff_exists.mp hc
    obtain ⟨v₀, hv₀⟩ := hs.cells x c hc
    refine wpAny_storeName_cell ok.kind hk hc hv₀ fun h' hc' hs' => ?_
    have mv : ∀ b o, ¬ C.Z Zo ω b → s.heap.get? b = some o → ¬ C.Z Zo ω b ∧ h'.get? b = some o := fun b o hz e => ⟨hz, (hs'.2 b fun q => hz (q ▸ mu_cell hc)).trans e⟩
    refine ⟨⟨fun b o e => ?_, hs.new, ?_, fun y dy hy hl => ?_, fun y c' hy => ?_, hs.inj, fun p hp => ?_, hs.nodup, hs.apart, fun a ha => ?_, hs.tok⟩, ⟨⟨h', _, rfl, Nat.le_refl _⟩, fun b o hb e => ?_, fun b o e => ?_, fun _ h => .inl h⟩⟩
    · refine (hs'.2 b fun q => ?_).trans (hs.base b o e)
      have := hs.new b (q ▸ mu_cell hc); rw [this] at e; cases e
    · obtain ⟨m, hn, hm⟩ := hs.ns
      refine ⟨m, hn.sameBut hs' (Ne.symm (cell_not_loc hs hc)), fun y dy hy hl => ?_⟩
      have hyx : y ≠ x := by rintro rfl; rw [hk] at hl; cases hl
      rw [get_put, if_neg hyx] at hy
      obtain ⟨u, h1, h2⟩ := hm y dy hy hl
      exact ⟨u, h1, h2.move mv⟩
    · rw [get_put] at hy
      by_cases hyx : y = x
      · rw [if_pos hyx] at hy; cases hy; subst hyx; exact ⟨c, v, hc, hc', iv.move mv⟩
      · rw [if_neg hyx] at hy
        obtain ⟨c', u, h1, h2, h3⟩ := hs.cell y dy hy hl
        have hne : c' ≠ c := by rintro rfl; exact hyx (hs.inj _ _ _ h1 hc)
        exact ⟨c', u, h1, h2.sameBut hs' hne, h3.move mv⟩
    · by_cases q : c' = c
      · subst q; exact ⟨_, hc'⟩
      · obtain ⟨u, h2⟩ := hs.cells y c' hy
        exact ⟨u, h2.sameBut hs' q⟩
    · obtain ⟨vs, h1, h2⟩ := hs.own p hp
      exact ⟨vs, h1.at fun o e => (hs'.2 _ (own_not_cell hs hp hc)).trans e, h2.move mv⟩
    · obtain ⟨o, ho⟩ := hs.zo a ha
      by_cases q : a = c
      · obtain ⟨o', ho', _⟩ := hc'; exact ⟨o', q ▸ ho'⟩
      · exact ⟨o, (hs'.2 a q).trans ho⟩
    · exact (hs'.2 b fun q => hb (.inr (.inl ⟨x, q ▸ hc⟩))).trans e
    · by_cases q : b = c
      · obtain ⟨o', ho', _⟩ := hc'; exact ⟨o', q ▸ ho'⟩
      · exact ⟨o, (hs'.2 b q).trans e⟩

abbrev Stor (C : Cx) (x : Str) : Prop := C.env.kindOf x = some .local ∨ (C.env.kindOf x = some .cell ∧ (C.env.cells.lookup x).isSome = true)

theorem ex_assign {x : Str} {px pos : Pos} {value : Expr} (ok : C.Ok l) (hk : Stor C x) (h : Pe C ρ ω value (fun d => K .next (put ρ x d) ω))
    (hsw : swapsWith value (some (.Name x px)) pos.line C.env = pure false) : Ex C ρ ω (.Assign [.Name x px] value pos) K := .mk fun s hs =>
  wpAny_Assign_Name (wpAny_mono (h.run s hs) (fun v s₁ ⟨k1, d, i1, h1⟩ => wpAny_mono (store_doc ok (hs.keeps k1) i1 hk) (fun _ s₂ ⟨hs2, st⟩ =>
    ⟨.next, _, _, trivial, hs2, (k1.step).trans st, h1⟩) fun _ _ e => e) fun _ _ e => e) hsw

theorem load_doc {x : Str} {d : D} {s : Shared} (ok : C.Ok l) (hs : Sta C Zo ρ ω s) (hx : get ρ x = some d) (hk : Stor C x) {Q : Value → Shared → Prop} {E : Value → Shared → Prop} (h : ∀ v, Is (C.Z Zo ω) s.heap v d → Q v s) :
    wpAny C.M C.A (loadName C.env x) Q E s := by
  rcases hk with hk | ⟨hk, _⟩
  · obtain ⟨m, hn, hm⟩ := hs.ns
    obtain ⟨v, h1, h2⟩ := hm x d hx hk
    exact wpAny_loadName_local ok.kind hk hn h1 (h v h2)
  · obtain ⟨c, v, h1, h2, h3⟩ := hs.cell x d hx (.inl hk)
    exact wpAny_loadName_cell ok.kind hk h1 h2 (h v h3)

theorem ex_aug {x : Str} {px pos : Pos} {op : Operator} {value : Expr} {a : D} (ok : C.Ok l) (hk : Stor C x) (hx : get ρ x = some a) (h : Pe C ρ ω value (fun b => Do2 C (inplaceOp op) a b (fun d => K .next (put ρ x d) ω))) :
    Ex C ρ ω (.AugAssign (.Name x px) op value pos) K := .mk fun s hs =>
  wpAny_AugAssign_Name (load_doc ok hs hx hk fun v iv => wpAny_mono (h.run s hs) (fun w s₁ ⟨k1, d, i1, h1⟩ => wpAny_mono (h1.run s₁ v w (hs.keeps k1).und (iv.keeps k1.get) i1) (fun r s₂ ⟨k2, d2, i2, h2⟩ =>
    wpAny_mono (store_doc ok (hs.keeps (k1.trans k2)) i2 hk) (fun _ s₃ ⟨hs3, st⟩ => ⟨.next, _, _, trivial, hs3, ((k1.trans k2).step).trans st, h2⟩) fun _ _ e => e) fun _ _ e => e) fun _ _ e => e)

theorem ex_if {t : Expr} {a b : List Stmt} {pos : Pos} (h : Pt C ρ ω t (fun c => if c then Exs C ρ ω a K else Exs C ρ ω b K)) : Ex C ρ ω (.If t a b pos) K := .mk fun s hs =>
  wpAny_If (wpAny_mono (h.run s hs) (fun c s₁ ⟨k1, h1⟩ => by
    cases c with
    | true => exact wpAny_mono (h1.run s₁ (hs.keeps k1)) (fun _ _ o => o.after k1.step) fun _ _ e => e
    | false => exact wpAny_mono (h1.run s₁ (hs.keeps k1)) (fun _ _ o => o.after k1.step) fun _ _ e => e) fun _ _ e => e)
theorem ex_ret {e : Expr} {pos : Pos} (h : Pe C ρ ω e (fun d => K (.ret d) ρ ω)) : Ex C ρ ω (.Return (some e) pos) K := .mk fun s hs =>
  wpAny_Return_some (wpAny_mono (h.run s hs) (fun v s₁ ⟨k1, d, i1, h1⟩ => ⟨.ret d, ρ, ω, i1, hs.keeps k1, k1.step, h1⟩) fun _ _ e => e)
theorem ex_cont {pos : Pos} (h : K .cont ρ ω) : Ex C ρ ω (.Continue pos) K := .mk fun s hs => wpAny_Continue ⟨.cont, ρ, ω, trivial, hs, Step.refl _ _ _, h⟩
/-- a while: a word over the state, a measure -/
theorem ex_while {t : Expr} {body : List Stmt} {pos : Pos} (I : Nat → Loc → Own → Prop) (n : Nat) (h0 : I n ρ ω)
    (turn : ∀ n ρ' ω', I n ρ' ω' → Pt C ρ' ω' t (fun b => if b then Exs C ρ' ω' body (fun fl ρ'' ω'' => match fl with
      | .next => ∃ m, m < n ∧ I m ρ'' ω''
      | .cont => ∃ m, m < n ∧ I m ρ'' ω''
      | .brk => K .next ρ'' ω''
      | .ret d => K (.ret d) ρ'' ω'') else K .next ρ' ω')) : Ex C ρ ω (.While t body [] pos) K := .mk fun {Zo} s hs => by
  refine wpAny_While (codeAny_whileLoop (fun n s' => ∃ ρ' ω', Sta C Zo ρ' ω' s' ∧ Step C ω ω' s s' ∧ I n ρ' ω') (fun n s' hI => ?_) n ⟨ρ, ω, hs, Step.refl _ _ _, h0⟩)
  obtain ⟨ρ', ω', hs', st, hI⟩ := hI
  refine wpAny_mono ((turn n ρ' ω' hI).run s' hs') (fun b s₂ ⟨k2, h2⟩ => ?_) fun _ _ e => e.elim
  have st2 := st.trans (k2.step (C := C) (ω := ω'))
  cases b with
  | true =>
    simp only [if_true] at h2 ⊢
    refine wpAny_mono (h2.run s₂ (hs'.keeps k2)) (fun f s₃ o => ?_) fun _ _ e => e.elim
    obtain ⟨fl, ρ3, ω3, hf, hs3, st3, hk⟩ := o
    cases fl with
    | next => cases f with
      | next => obtain ⟨m, hm, hI'⟩ := hk; exact ⟨m, hm, ρ3, ω3, hs3, st2.trans st3, hI'⟩
      | _ => exact hf.elim
    | cont => cases f with
      | cont => obtain ⟨m, hm, hI'⟩ := hk; exact ⟨m, hm, ρ3, ω3, hs3, st2.trans st3, hI'⟩
      | _ => exact hf.elim
    | brk => cases f with
      | brk => exact ⟨.next, ρ3, ω3, trivial, hs3, st2.trans st3, hk⟩
      | _ => exact hf.elim
    | ret d => cases f with
      | ret v => exact ⟨.ret d, ρ3, ω3, hf, hs3, st2.trans st3, hk⟩
      | _ => exact hf.elim
  | false =>
    simp only [Bool.false_eq_true, if_false] at h2 ⊢
    exact wpAny_execs_nil ⟨.next, ρ', ω', trivial, hs'.keeps k2, st2, h2⟩
end
end Mine
end

section
namespace Mine

def rngL (a b c : Int) : List D := (List.range (Builtin.Range.rangeSize a b c).toNat).map fun i => .int (a + (i : Nat) * c)

/-- what a datum iterates as (q: a list that is the frame's own too) -/
def IterK (q : Bool) (ω : Own) : D → Option (List D)
  | .list ds => some ds
  | .tup ds => some ds
  | .str x => some (x.map fun c => .str [c])
  | .rng a b c => if Builtin.Range.small a b c = true then some (rngL a b c) else none
  | .val (.ref a) => if q then getO ω a else none
  | _ => none

def ItrAt (q : Bool) (C : Cx) (Z : Addr → Prop) (its : List D) (s s₂ : Shared) (I : Addr) : Prop :=
  ∃ fp P St, Walks C.prog C.w C.A I fp [I] its.length P St ∧ St 0 s₂.heap ∧ (∀ i h, St i h → ∃ o, h.get? I = some o) ∧ (q = false → ∀ b ∈ fp, b ≠ I → ¬ Z b) ∧ (∀ b ∈ fp, b ≠ I → ∃ o, s.heap.get? b = some o) ∧
    ∀ i v, i < its.length → P i v → ∃ d, its[i]? = some d ∧ Is Z s.heap v d

theorem size_none (h : Heap) : h.get? h.objs.size = none := by
  cases e : h.get? h.objs.size with
  | none => rfl
  | some o => exact absurd (Heap.lt_size e) (Nat.lt_irrefl _)

theorem iter_doc (q : Bool) {C : Cx} {l : Nat} {Zo : Addr → Prop} {ρ : Loc} {ω : Own} {s : Shared} {v : Value} {d : D} {its : List D} (ok : C.Ok l) (hs : Sta C Zo ρ ω s) (iv : Is (C.Z Zo ω) s.heap v d) (h : IterK q ω d = some its) :
    wpAny C.M C.A (pyIter v) (fun it s₂ => Kp s s₂ ∧ ∃ I, it = .ref I ∧ s.heap.get? I = none ∧ ItrAt q C (C.Z Zo ω) its s s₂ I) NoE s := by
  have hh := ok.room.hd
  have hlist : ∀ (a : Addr) (vs : List Value) (ds : List D), (q = false → ¬ C.Z Zo ω a) → s.heap.IsList a vs.toArray → IsAll (C.Z Zo ω) s.heap vs ds → wpAny C.M C.A (pyIter (.ref a)) (fun it s₂ => Kp s s₂ ∧ ∃ I, it = .ref I ∧ s.heap.get? I = none ∧ ItrAt q C (C.Z Zo ω) ds s s₂ I) NoE s := by
    intro a vs ds hz hl hi
    refine wpAny_pyIter_list hl ?_
    obtain ⟨ol, hol, _⟩ := id hl
    have hne : a ≠ s.heap.objs.size := Nat.ne_of_lt (Heap.lt_size hol)
    have W := Walks.list (prog := C.prog) (w := C.w) hh s.heap.objs.size a hne vs.toArray
    have hlen : vs.toArray.size = ds.length := by simp [hi.length]
    rw [hlen] at W
    refine ⟨Kp.push _ _, _, rfl, size_none _, _, _, _, W, ⟨⟨_, Heap.get?_push_size _ rfl, rfl, rfl⟩, hl.at fun o e => Heap.get?_push_of_some _ e⟩, ?_, ?_, ?_, ?_⟩
    · rintro i h ⟨⟨o, ho, _⟩, _⟩; exact ⟨o, ho⟩
    · intro hq b hb hbI
      rcases List.mem_cons.mp hb with e | hb
      · exact absurd e hbI
      · rw [List.mem_singleton.mp hb]; exact hz hq
    · intro b hb hbI
      rcases List.mem_cons.mp hb with e | hb
      · exact absurd e hbI
      · rw [List.mem_singleton.mp hb]; exact ⟨ol, hol⟩
    · intro i v hi' hP
      have hP' : vs[i]? = some v := by simpa using hP
      exact hi.get' hP'
  cases iv with
  | list hz hl hi => cases h; exact hlist _ _ _ (fun _ => hz) hl hi
  | tup hz hl hi =>
    cases h
    rename_i a vs
    refine wpAny_pyIter_tuple hl ?_
    obtain ⟨ol, hol, _⟩ := id hl
    have hne : a ≠ s.heap.objs.size := Nat.ne_of_lt (Heap.lt_size hol)
    have W := Walks.tuple (prog := C.prog) (w := C.w) hh s.heap.objs.size a hne vs.toArray
    have hlen : vs.toArray.size = its.length := by simp [hi.length]
    rw [hlen] at W
    refine ⟨Kp.push _ _, _, rfl, size_none _, _, _, _, W, ⟨⟨_, Heap.get?_push_size _ rfl, rfl, rfl⟩, tup_at hl fun o e => Heap.get?_push_of_some _ e⟩, ?_, ?_, ?_, ?_⟩
    · rintro i h ⟨⟨o, ho, _⟩, _⟩; exact ⟨o, ho⟩
    · intro _ b hb hbI
      rcases List.mem_cons.mp hb with e | hb
      · exact absurd e hbI
      · rw [List.mem_singleton.mp hb]; exact hz
    · intro b hb hbI
      rcases List.mem_cons.mp hb with e | hb
      · exact absurd e hbI
      · rw [List.mem_singleton.mp hb]; exact ⟨ol, hol⟩
    · intro i v hi' hP
      have hP' : vs[i]? = some v := by simpa using hP
      exact hi.get' hP'
  | str =>
    rename_i x t
    cases h
    refine wpAny_pyIter_strU ?_
    have gen : ∀ (T : String), Walks C.prog C.w C.A s.heap.objs.size [s.heap.objs.size] [s.heap.objs.size] (mkS x).cps.size (SignAt (mkS x)) (fun i h => h.IsStrIter s.heap.objs.size T (mkS x) t i) → strIterType (mkS x) = T →
        (Kp s { s with heap := s.heap.push { cls := .type (strIterType (mkS x)), data := .fields #[.str (mkS x) t, .int 0 0] } } ∧ ∃ I, (Value.ref s.heap.objs.size) = .ref I ∧ s.heap.get? I = none ∧ ItrAt q C (C.Z Zo ω) (x.map fun c => .str [c]) s { s with heap := s.heap.push { cls := .type (strIterType (mkS x)), data := .fields #[.str (mkS x) t, .int 0 0] } } I) := by
      intro T W hT
      have hlen : (mkS x).cps.size = (x.map fun c => D.str [c]).length := by simp
      rw [hlen] at W
      refine ⟨Kp.push _ _, _, rfl, size_none _, _, _, _, W, ⟨_, Heap.get?_push_size _ rfl, by rw [hT], rfl⟩, ?_, ?_, ?_, ?_⟩
      · rintro i h ⟨o, ho, _⟩; exact ⟨o, ho⟩
      · intro _ b hb hbI; exact absurd (List.mem_singleton.mp hb) hbI
      · intro b hb hbI; exact absurd (List.mem_singleton.mp hb) hbI
      · rintro i v hi' ⟨c, u, hc, rfl⟩
        have hc' : x[i]? = some c := by simpa using hc
        exact ⟨.str [c], by simp [hc'], .str⟩
    by_cases ha : strIterType (mkS x) = "str_ascii_iterator"
    · exact gen _ (Walks.strAscii hh _ _ _) ha
    · refine gen _ (Walks.strWide hh _ _ _) ?_
      unfold strIterType at ha ⊢
      split at ha
      · exact absurd rfl ha
      · rename_i hn; rw [if_neg hn]
  | rng hz hr =>
    rename_i r a b c t u w
    simp only [IterK] at h
    split at h
    · rename_i hsm
      cases h
      refine wpAny_pyIter_range hr hsm ?_
      have hpos : 0 ≤ Builtin.Range.rangeSize a b c := by
        unfold Builtin.Range.rangeSize
        split
        · split
          · have := Int.ediv_nonneg (a := b - a - 1) (b := c) (by omega) (by omega); omega
          · omega
        · split
          · have := Int.ediv_nonneg (a := a - b - 1) (b := -c) (by omega) (by omega); omega
          · omega
      have hn : ((Builtin.Range.rangeSize a b c).toNat : Int) = Builtin.Range.rangeSize a b c := Int.toNat_of_nonneg hpos
      have W := (Walks.range (prog := C.prog) (w := C.w) hh s.heap.objs.size a c (Builtin.Range.rangeSize a b c).toNat)
      have hlen : (Builtin.Range.rangeSize a b c).toNat = (rngL a b c).length := by simp [rngL]
      rw [hlen] at W
      refine ⟨Kp.push _ _, _, rfl, size_none _, _, _, _, W, ?_, ?_, ?_, ?_, ?_⟩
      · rw [← hlen]; simp only [hn]; simpa using Heap.get?_push_size _ rfl
      · intro i h hq; exact ⟨_, hq⟩
      · intro _ b hb hbI; exact absurd (List.mem_singleton.mp hb) hbI
      · intro b hb hbI; exact absurd (List.mem_singleton.mp hb) hbI
      · rintro i v hi' ⟨t', rfl⟩
        refine ⟨.int (a + (i : Nat) * c), ?_, .int⟩
        rw [← hlen] at hi'
        simp [rngL, hi']
    · cases h
  | val =>
    cases v with
    | ref a =>
      cases q with
      | true =>
        obtain ⟨vs, hl, hi⟩ := hs.ownL _ (getO_mem h)
        exact hlist _ _ _ (fun e => nomatch e) hl hi
      | false => cases h
    | _ => cases h
  | _ => cases h

section
variable {C : Cx} {Zo : Addr → Prop} {ρ : Loc} {ω : Own} {l : Nat} {K : Fl → Loc → Own → Prop}

/-- the state with one address more in the outer zone -/
theorem Sta.guard {s s₂ : Shared} {I : Addr} (hs : Sta C Zo ρ ω s) (hI : s.heap.get? I = none) (k : Kp s s₂) (hI2 : ∃ o, s₂.heap.get? I = some o) : Sta C (fun a => Zo a ∨ a = I) ρ ω s₂ := by
  have hk := k.get
  have mv : ∀ b o, ¬ C.Z Zo ω b → s.heap.get? b = some o → ¬ C.Z (fun a => Zo a ∨ a = I) ω b ∧ s₂.heap.get? b = some o := fun b o hz e => by
    refine ⟨?_, hk b o e⟩
    rintro ((h | h) | h)
    · exact hz (.inl h)
    · rw [h, hI] at e; cases e
    · exact hz (.inr h)
  refine ⟨fun b o e => hk b o (hs.base b o e), ?_, ?_, ?_, ?_, hs.inj, ?_, hs.nodup, (fun a ha h => h.elim (hs.apart a ha) fun e => by subst e; obtain ⟨p, hp, e2⟩ := List.mem_map.mp ha; obtain ⟨vs, ⟨o, ho, _⟩, _⟩ := hs.ownL p hp; rw [e2, hI] at ho; cases ho), ?_, Nat.lt_of_lt_of_le hs.tok k.toks⟩
  · rintro a ((h | h) | h)
    · exact hs.new a (.inl h)
    · cases e : C.h₀.get? a with
      | none => rfl
      | some o => have := hs.base a o e; rw [h, hI] at this; cases this
    · exact hs.new a (.inr h)
  · obtain ⟨m, hn, hm⟩ := hs.ns
    exact ⟨m, hn.keeps hk, fun y d hy hl => let ⟨v, h1, h2⟩ := hm y d hy hl; ⟨v, h1, h2.move mv⟩⟩
  · intro y d hy hl
    obtain ⟨c, v, h1, ⟨o, h2, h2'⟩, h3⟩ := hs.cell y d hy hl
    exact ⟨c, v, h1, ⟨o, hk _ _ h2, h2'⟩, h3.move mv⟩
  · intro y c hy
    obtain ⟨v, o, h2, h2'⟩ := hs.cells y c hy
    exact ⟨v, o, hk _ _ h2, h2'⟩
  · intro p hp
    obtain ⟨vs, h1, h2⟩ := hs.own p hp
    exact ⟨vs, h1.at fun o e => hk _ _ e, h2.move mv⟩
  · rintro a (h | h)
    · obtain ⟨o, ho⟩ := hs.zo a h; exact ⟨o, hk _ _ ho⟩
    · rw [h]; exact hI2
/-- the guarded address alone may change -/
theorem Sta.turn {s s₂ : Shared} {I : Addr} (hs : Sta C (fun a => Zo a ∨ a = I) ρ ω s) (hI : ¬ C.Mu ω I) (hk : ∀ b o, b ≠ I → s.heap.get? b = some o → s₂.heap.get? b = some o) (hI2 : ∃ o, s₂.heap.get? I = some o) (htk : s.toks ≤ s₂.toks) : Sta C (fun a => Zo a ∨ a = I) ρ ω s₂ := by
  have mv : ∀ b o, ¬ C.Z (fun a => Zo a ∨ a = I) ω b → s.heap.get? b = some o → ¬ C.Z (fun a => Zo a ∨ a = I) ω b ∧ s₂.heap.get? b = some o := fun b o hz e =>
    ⟨hz, hk b o (fun q => hz (.inl (.inr q))) e⟩
  refine ⟨fun b o e => ?_, hs.new, ?_, ?_, ?_, hs.inj, ?_, hs.nodup, hs.apart, ?_, Nat.lt_of_lt_of_le hs.tok htk⟩
  · refine hk b o (fun q => ?_) (hs.base b o e)
    have := hs.new b (.inl (.inr q)); rw [this] at e; cases e
  · obtain ⟨m, hn, hm⟩ := hs.ns
    exact ⟨m, hn.at' fun o e => hk _ _ (fun q => hI (.inl q.symm)) e, fun y d hy hl => let ⟨v, h1, h2⟩ := hm y d hy hl; ⟨v, h1, h2.move mv⟩⟩
  · intro y d hy hl
    obtain ⟨c, v, h1, ⟨o, h2, h2'⟩, h3⟩ := hs.cell y d hy hl
    exact ⟨c, v, h1, ⟨o, hk _ _ (fun q => hI (.inr (.inl ⟨y, q ▸ h1⟩))) h2, h2'⟩, h3.move mv⟩
  · intro y c hy
    obtain ⟨v, o, h2, h2'⟩ := hs.cells y c hy
    exact ⟨v, o, hk _ _ (fun q => hI (.inr (.inl ⟨y, q ▸ hy⟩))) h2, h2'⟩
  · intro p hp
    obtain ⟨vs, h1, h2⟩ := hs.own p hp
    exact ⟨vs, h1.at fun o e => hk _ _ (fun q => hI (.inr (.inr (q ▸ List.mem_map.mpr ⟨p, hp, rfl⟩)))) e, h2.move mv⟩
  · rintro a (h | h)
    · obtain ⟨o, ho⟩ := hs.zo a (.inl h)
      by_cases q : a = I
      · rw [q]; exact hI2
      · exact ⟨o, hk _ _ q ho⟩
    · rw [h]; exact hI2
theorem Sta.unguard {s : Shared} {Zo Zo' : Addr → Prop} (hs : Sta C Zo' ρ ω s) (hz : ∀ a, Zo a → Zo' a) : Sta C Zo ρ ω s := by
  have hzz : ∀ b, C.Z Zo ω b → C.Z Zo' ω b := fun b h => h.elim (fun h => .inl (hz b h)) .inr
  have mv : ∀ b o, ¬ C.Z Zo' ω b → s.heap.get? b = some o → ¬ C.Z Zo ω b ∧ s.heap.get? b = some o := fun b o h e => ⟨fun q => h (hzz b q), e⟩
  refine ⟨hs.base, fun a h => hs.new a (hzz a h), ?_, ?_, hs.cells, hs.inj, ?_, hs.nodup, (fun a ha h => hs.apart a ha (hz a h)), (fun a h => hs.zo a (hz a h)), hs.tok⟩
  · obtain ⟨m, hn, hm⟩ := hs.ns
    exact ⟨m, hn, fun y d hy hl => let ⟨v, h1, h2⟩ := hm y d hy hl; ⟨v, h1, h2.move mv⟩⟩
  · intro y d hy hl
    obtain ⟨c, v, h1, h2, h3⟩ := hs.cell y d hy hl
    exact ⟨c, v, h1, h2, h3.move mv⟩
  · intro p hp
    obtain ⟨vs, h1, h2⟩ := hs.own p hp
    exact ⟨vs, h1, h2.move mv⟩

/-- a for over data: a word over the turns -/
theorem ex_for {x : Str} {px pos : Pos} {iter : Expr} {body : List Stmt} (ok : C.Ok l) (hx : Stor C x)
    (h : Pe C ρ ω iter (fun d => ∃ its, IterK false ω d = some its ∧ ∃ J : Nat → Loc → Own → Prop, J 0 ρ ω ∧
      (∀ i d ρ' ω', its[i]? = some d → J i ρ' ω' → Exs C (put ρ' x d) ω' body (fun fl ρ'' ω'' => match fl with
        | .next => J (i + 1) ρ'' ω''
        | .cont => J (i + 1) ρ'' ω''
        | .brk => K .next ρ'' ω''
        | .ret d => K (.ret d) ρ'' ω'')) ∧
      (∀ ρ' ω', J its.length ρ' ω' → K .next ρ' ω')))
    (hs : ∀ x, foldedSetIterable iter C.env x = pure x) : Ex C ρ ω (.For (.Name x px) iter body [] pos) K := .mk fun {Zo} s hs₀ => by
  refine wpAny_For (wpAny_mono (h.run s hs₀) (fun xv s₁ X => ?_) fun _ _ e => e) hs
  obtain ⟨k1, d, i1, its, hit, J, hJ0, turn, fin⟩ := X
  have hs1 := hs₀.keeps k1
  refine wpAny_mono (iter_doc false ok hs1 i1 hit) (fun it s₂ Y => ?_) fun _ _ e => e
  obtain ⟨k2, I, rfl, hI, fp, P, St, W, hst, hli, hfpz, hfpl, hP⟩ := Y
  have hs2 := hs1.guard hI k2 (hli 0 _ hst)
  have hmuI : ¬ C.Mu ω I := fun q => by
    obtain ⟨o, ho⟩ := hs1.live I (.inr q)
    rw [hI] at ho; cases ho
  refine codeAny_forLoop (fun k s' => ∃ i ρ' ω', k = its.length + 1 - i ∧ i ≤ its.length ∧ St i s'.heap ∧ Sta C (fun a => Zo a ∨ a = I) ρ' ω' s' ∧ ¬ C.Mu ω' I ∧ Step C ω ω' s₁ s' ∧ J i ρ' ω') ?_ (its.length + 1)
    ⟨0, ρ, ω, rfl, Nat.zero_le _, hst, hs2, hmuI, k2.step, hJ0⟩
  rintro k s' ⟨i, ρ', ω', rfl, hi, hst', hs', hmu', st', hJ⟩
  -- an object of the source stays
  have keepT : ∀ (h₁ : Heap) (tk : Nat), s'.toks ≤ tk → (∀ b o, b ∉ [I] → s'.heap.get? b = some o → h₁.get? b = some o) → (∃ o, h₁.get? I = some o) →
      Sta C (fun a => Zo a ∨ a = I) ρ' ω' { s' with heap := h₁, toks := tk } ∧ Step C ω ω' s₁ { s' with heap := h₁, toks := tk } := by
    intro h₁ tk htk hk₁ hI₁
    refine ⟨hs'.turn (s₂ := { s' with heap := h₁, toks := tk }) hmu' (fun b o hb e => hk₁ b o (by simpa using hb) e) hI₁ htk, ?_⟩
    obtain ⟨h0, t0, e0, l0⟩ := st'.same
    refine ⟨⟨h₁, tk, by rw [e0], Nat.le_trans l0 (by rw [e0] at htk; exact htk)⟩, fun b o hb e => ?_, fun b o e => ?_, st'.grow⟩
    · have hbI : b ≠ I := fun q => by rw [q, hI] at e; cases e
      exact hk₁ b o (by simpa using hbI) (st'.keep b o hb e)
    · obtain ⟨o', e'⟩ := st'.live b o e
      have hbI : b ≠ I := fun q => by rw [q, hI] at e; cases e
      exact ⟨o', hk₁ b o' (by simpa using hbI) e'⟩
  by_cases hlt : i < its.length
  · refine wpAny_free (W.item i _ _ _ hlt hst' fun v h₁ tk₁ hPv hst₁ hk₁ htk₁ => ?_)
    obtain ⟨hs3, st3⟩ := keepT h₁ tk₁ htk₁ hk₁ (hli _ _ hst₁)
    obtain ⟨d, hd, iv⟩ := hP i v hlt hPv
    have iv' : Is (C.Z (fun a => Zo a ∨ a = I) ω') h₁ v d := iv.move fun b o hz e => by
      have hbI : b ≠ I := fun q => by rw [q, hI] at e; cases e
      have hnm : ¬ C.Mu ω b := fun q => hz (.inr q)
      refine ⟨?_, st3.keep b o hnm e⟩
      rintro ((q | q) | q)
      · exact hz (.inl q)
      · exact hbI q
      · exact st3.mu hnm e q
    refine wpAny_assign_Name (wpAny_mono (store_doc ok hs3 iv' hx) (fun _ s₄ ⟨hs4, st4⟩ => ?_) fun _ _ e => e.elim)
    refine wpAny_mono ((turn i d ρ' ω' hd hJ).run s₄ hs4) (fun f s₅ o => ?_) fun _ _ e => e.elim
    obtain ⟨fl, ρ5, ω5, hf, hs5, st5, hk⟩ := o
    have stA := (st3.trans st4).trans st5
    have hmu5 : ¬ C.Mu ω5 I := by
      obtain ⟨o, ho⟩ := hs4.zo I (.inr rfl)
      exact st5.mu hmu' ho
    have hst5 : St (i + 1) s₅.heap := by
      refine W.frame _ _ _ hst₁ fun b hb o e => ?_
      have e4 : s₄.heap.get? b = some o := by
        by_cases q : b = I
        · exact st4.keep b o (q ▸ hmu') e
        · refine st4.keep b o (fun qq => ?_) e
          exact absurd qq (by
            obtain ⟨ob, hob⟩ := hfpl b hb q
            exact st3.mu (fun z => hfpz rfl b hb q (.inr z)) hob)
      by_cases q : b = I
      · exact st5.keep b o (q ▸ hmu') e4
      · refine st5.keep b o ?_ e4
        obtain ⟨ob, hob⟩ := hfpl b hb q
        exact st3.mu (fun z => hfpz rfl b hb q (.inr z)) hob
    have again : J (i + 1) ρ5 ω5 → ∃ m, m < its.length + 1 - i ∧ ∃ j ρ' ω', m = its.length + 1 - j ∧ j ≤ its.length ∧ St j s₅.heap ∧ Sta C (fun a => Zo a ∨ a = I) ρ' ω' s₅ ∧ ¬ C.Mu ω' I ∧ Step C ω ω' s₁ s₅ ∧ J j ρ' ω' := fun hj =>
      ⟨its.length + 1 - (i + 1), by omega, i + 1, ρ5, ω5, rfl, hlt, hst5, hs5, hmu5, stA, hj⟩
    have outS : Sta C Zo ρ5 ω5 s₅ := hs5.unguard fun a h => .inl h
    have stO := (k1.step (C := C) (ω := ω)).trans stA
    cases fl with
    | next => cases f with
      | next => exact again hk
      | _ => exact hf.elim
    | cont => cases f with
      | cont => exact again hk
      | _ => exact hf.elim
    | brk => cases f with
      | brk => exact ⟨.next, ρ5, ω5, trivial, outS, stO, hk⟩
      | _ => exact hf.elim
    | ret d' => cases f with
      | ret v' =>
        have hf' : Is (C.Z (fun a => Zo a ∨ a = I) ω5) s₅.heap v' d' := hf
        exact ⟨.ret d', ρ5, ω5, hf'.move (fun b o h e => ⟨fun q => h (q.elim (fun z => .inl (.inl z)) .inr), e⟩), outS, stO, hk⟩
      | _ => exact hf.elim
  · have hin : i = its.length := by omega
    subst hin
    refine wpAny_free (W.done _ _ _ hst' fun h₁ tk₁ hk₁ htk₁ => wpAny_execs_nil ?_)
    -- at the end the iterator may be gone: the zone is the outer one again
    have hz : Sta C Zo ρ' ω' { s' with heap := h₁, toks := tk₁ } := by
      have mv : ∀ b o, ¬ C.Z (fun a => Zo a ∨ a = I) ω' b → s'.heap.get? b = some o → ¬ C.Z Zo ω' b ∧ h₁.get? b = some o := fun b o hz e =>
        ⟨fun q => hz (q.elim (fun z => .inl (.inl z)) .inr), hk₁ b o (by simpa using fun q : b = I => hz (.inl (.inr q))) e⟩
      have notI : ∀ b, C.Mu ω' b → b ≠ I := fun b hb q => hmu' (q ▸ hb)
      refine ⟨fun b o e => ?_, fun a h => hs'.new a (h.elim (fun z => .inl (.inl z)) .inr), ?_, ?_, ?_, hs'.inj, ?_, hs'.nodup, (fun a ha h => hs'.apart a ha (.inl h)), ?_, Nat.lt_of_lt_of_le hs'.tok htk₁⟩
      · have hbI : b ≠ I := fun q => by
          have := hs'.new b (.inl (.inr q)); rw [this] at e; cases e
        exact hk₁ b o (by simpa using hbI) (hs'.base b o e)
      · obtain ⟨m, hn, hm⟩ := hs'.ns
        exact ⟨m, hn.at' fun o e => hk₁ _ _ (by simpa using notI _ (.inl rfl)) e, fun y d hy hl => let ⟨v, h1, h2⟩ := hm y d hy hl; ⟨v, h1, h2.move mv⟩⟩
      · intro y d hy hl
        obtain ⟨c, v, h1, ⟨o, h2, h2'⟩, h3⟩ := hs'.cell y d hy hl
        exact ⟨c, v, h1, ⟨o, hk₁ _ _ (by simpa using notI _ (.inr (.inl ⟨y, h1⟩))) h2, h2'⟩, h3.move mv⟩
      · intro y c hy
        obtain ⟨v, o, h2, h2'⟩ := hs'.cells y c hy
        exact ⟨v, o, hk₁ _ _ (by simpa using notI _ (.inr (.inl ⟨y, hy⟩))) h2, h2'⟩
      · intro p hp
        obtain ⟨vs, h1, h2⟩ := hs'.own p hp
        exact ⟨vs, h1.at fun o e => hk₁ _ _ (by simpa using notI _ (.inr (.inr (List.mem_map.mpr ⟨p, hp, rfl⟩)))) e, h2.move mv⟩
      · intro a h
        obtain ⟨o, ho⟩ := hs'.zo a (.inl h)
        obtain ⟨o1, ho1⟩ := hs1.zo a h
        have hne : a ≠ I := fun q => by rw [q, hI] at ho1; cases ho1
        exact ⟨o, hk₁ _ _ (by simpa using hne) ho⟩
    have st3 : Step C ω ω' s₁ { s' with heap := h₁, toks := tk₁ } := by
      obtain ⟨h0, t0, e0, l0⟩ := st'.same
      refine ⟨⟨h₁, tk₁, by rw [e0], Nat.le_trans l0 (by rw [e0] at htk₁; exact htk₁)⟩, fun b o hb e => ?_, fun b o e => ?_, st'.grow⟩
      · have hbI : b ≠ I := fun q => by rw [q, hI] at e; cases e
        exact hk₁ b o (by simpa using hbI) (st'.keep b o hb e)
      · obtain ⟨o', e'⟩ := st'.live b o e
        have hbI : b ≠ I := fun q => by rw [q, hI] at e; cases e
        exact ⟨o', hk₁ b o' (by simpa using hbI) e'⟩
    exact ⟨.next, ρ', ω', trivial, hz, (k1.step (C := C) (ω := ω)).trans st3, fin ρ' ω' hJ⟩
end
end Mine
end

section
namespace Mine

def cap (cl : List (Str × Addr)) (ρ : Loc) : Loc := ρ.filter fun p => (cl.lookup p.1).isSome
theorem get_cap (cl : List (Str × Addr)) (ρ : Loc) (y : Str) : get (cap cl ρ) y = if (cl.lookup y).isSome = true then get ρ y else none := by
  induction ρ with
  | nil => simp [cap, get]
  | cons p r ih =>
    obtain ⟨z, d⟩ := p
    unfold cap at ih ⊢
    rw [List.filter_cons]
    by_cases h : (cl.lookup z).isSome = true
    · simp only [h, if_true, get]
      by_cases e : y = z
      · subst e; simp [h]
      · simp only [if_neg e]; exact ih
    · simp only [h, Bool.false_eq_true, if_false, get]
      by_cases e : y = z
      · subst e; rw [ih]; simp [h]
      · simp only [if_neg e]; exact ih

/-- the context within a comprehension -/
@[reducible] def Cx.comp (C : Cx) (scope : Scope) (cl : List (Str × Addr)) (n : Addr) : Cx := { C with env := compEnvC scope cl n C.env }

/-- tests, then the element -/
structure Pi (C : Cx) (ρ : Loc) (ω : Own) (ifs : List Expr) (elt : Expr) (K : Option D → Prop) : Prop where
  run : ∀ {Zo : Addr → Prop} s, Sta C Zo ρ ω s → wpAny C.M C.A (forIn ifs true fun c r => if r = true then do let ok ← isTrue c C.env (eval c C.env); pure (ForInStep.yield ok) else pure (ForInStep.yield r))
    (fun ok s₁ => Kp s s₁ ∧ if ok = true then Pe C ρ ω elt (fun e => K (some e)) else K none) NoE s
section
variable {C : Cx} {ρ : Loc} {ω : Own}
theorem pi_nil {elt : Expr} {K : Option D → Prop} (h : Pe C ρ ω elt (fun e => K (some e))) : Pi C ρ ω [] elt K := .mk fun s hs => wpAny_tests_nil ⟨Kp.refl _, h⟩
theorem pi_one {c elt : Expr} {K : Option D → Prop} (h : Pt C ρ ω c (fun b => if b = true then Pe C ρ ω elt (fun e => K (some e)) else K none)) : Pi C ρ ω [c] elt K := .mk fun s hs =>
  wpAny_tests_one (wpAny_mono (h.run s hs) (fun b s₁ x => x) fun _ _ e => e)
end

structure CompOk (C : Cx) (scope : Scope) (cl : List (Str × Addr)) (x : Str) : Prop where
  clos : closureFor scope C.env = pure cl
  cell : ∀ y ∈ scope.names, y.2 ≠ .cell
  kind : scope.kind = .function
  names : ∀ y ∈ scope.names, y.2 = .local → scope.names.lookup y.1 = some .local
  hx : scope.names.lookup x = some .local
  sub : ∀ y c, cl.lookup y = some c → C.env.cells.lookup y = some c ∧ (C.env.kindOf y = some .cell ∨ C.env.kindOf y = some .free)
  caught : ∀ y c, cl.lookup y = some c → (relabel scope C.env).names.lookup y ≠ some .local

/-- a guest's place is let go -/
theorem Sta.drop {C : Cx} {Zo : Addr → Prop} {ρ : Loc} {ω : Own} {s : Shared} {Cn : Addr} {h' : Heap} (hs : Sta C (fun b => Zo b ∨ b = Cn) ρ ω s) (hsame : Heap.SameBut Cn s.heap h') (hz : ¬ C.Z Zo ω Cn) : Sta C Zo ρ ω { s with heap := h' } := by
  have up : ∀ b, C.Z Zo ω b → C.Z (fun b => Zo b ∨ b = Cn) ω b := by
    rintro b (h | h)
    · exact .inl (.inl h)
    · exact .inr h
  have mv : ∀ b o, ¬ C.Z (fun b => Zo b ∨ b = Cn) ω b → s.heap.get? b = some o → ¬ C.Z Zo ω b ∧ h'.get? b = some o := fun b o q e => ⟨fun r => q (up b r), (hsame.2 b fun r => q (.inl (.inr r))).trans e⟩
  have ne : ∀ b, C.Z Zo ω b → b ≠ Cn := fun b q r => hz (r ▸ q)
  refine ⟨fun b o e => (hsame.2 b ?_).trans (hs.base b o e), fun a ha => hs.new a (up a ha), ?_, fun z dz hz' hkz => ?_, fun z c hc => ?_, hs.inj, fun p hp => ?_, hs.nodup, (fun a ha h => hs.apart a ha (.inl h)), fun b hb => ?_, hs.tok⟩
  · rintro rfl
    have := hs.new b (.inl (.inr rfl)); rw [this] at e; cases e
  · obtain ⟨m, hn, hm⟩ := hs.ns
    exact ⟨m, hn.sameBut hsame (ne _ mu_locals), fun z dz hz' hkz => let ⟨u, h1, h2⟩ := hm z dz hz' hkz; ⟨u, h1, h2.move mv⟩⟩
  · obtain ⟨c, u, h1, h2, h3⟩ := hs.cell z dz hz' hkz
    exact ⟨c, u, h1, h2.sameBut hsame (ne _ (mu_cell h1)), h3.move mv⟩
  · obtain ⟨u, h2⟩ := hs.cells z c hc
    exact ⟨u, h2.sameBut hsame (ne _ (mu_cell hc))⟩
  · obtain ⟨ws, h1, h2⟩ := hs.own p hp
    exact ⟨ws, h1.at fun o e => (hsame.2 _ (ne _ (mu_own (List.mem_map.mpr ⟨p, hp, rfl⟩)))).trans e, h2.move mv⟩
  · obtain ⟨o, ho⟩ := hs.zo b (.inl hb)
    exact ⟨o, (hsame.2 b (ne b (.inl hb))).trans ho⟩

end Mine
end

section
namespace Mine

/-- parameters bound -/
structure Par (Z : Addr → Prop) (h : Heap) (binds : List (Str × Value)) (ρ : Loc) : Prop where
  names : binds.map (·.1) = ρ.map (·.1)
  vals : IsAll Z h (binds.map (·.2)) (ρ.map (·.2))
  nodup : (ρ.map (·.1)).Nodup

theorem bindL_off {kindOf : Str → Option NameKind} {x : Str} : ∀ {r : List (Str × Value)} {m : Str → Option Value}, x ∉ r.map (·.1) → bindL kindOf r m x = m x
  | [], _, _ => rfl
  | (n, v) :: r, m, h => by
    have h1 : x ≠ n := fun e => h (by simp [e])
    have h2 : x ∉ r.map (·.1) := fun e => h (List.mem_cons_of_mem _ e)
    unfold bindL
    rw [bindL_off h2]
    split
    · simp [h1]
    · rfl
theorem bindC_off {kindOf : Str → Option NameKind} {x : Str} : ∀ {r : List (Str × Value)} {m : Str → Option Value}, x ∉ r.map (·.1) → bindC kindOf r m x = m x
  | [], _, _ => rfl
  | (n, v) :: r, m, h => by
    have h1 : x ≠ n := fun e => h (by simp [e])
    have h2 : x ∉ r.map (·.1) := fun e => h (List.mem_cons_of_mem _ e)
    unfold bindC
    rw [bindC_off h2]
    split
    · rfl
    · simp [h1]
theorem bindL_get {kindOf : Str → Option NameKind} {Z : Addr → Prop} {h : Heap} {x : Str} {d : D} (hk : kindOf x = some .local) : ∀ {binds : List (Str × Value)} {ρ : Loc} {m : Str → Option Value}, Par Z h binds ρ → get ρ x = some d → ∃ v, bindL kindOf binds m x = some v ∧ Is Z h v d
  | [], ρ, m, p, hg => by
    have := p.names
    cases ρ with
    | nil => cases hg
    | cons a b => simp at this
  | (n, v) :: r, ρ, m, p, hg => by
    cases ρ with
    | nil => cases hg
    | cons q ρ =>
      obtain ⟨y, e⟩ := q
      have hn := p.names
      simp only [List.map_cons, List.cons.injEq] at hn
      have hv := p.vals
      simp only [List.map_cons] at hv
      cases hv with
      | cons a b =>
        have hnd := p.nodup
        simp only [List.map_cons, List.nodup_cons] at hnd
        simp only [get] at hg
        by_cases hxy : x = y
        · rw [if_pos hxy] at hg
          cases hg
          refine ⟨v, ?_, a⟩
          unfold bindL
          have hoff : x ∉ r.map (·.1) := by rw [hn.2, hxy]; exact hnd.1
          rw [bindL_off hoff, hn.1, ← hxy, if_pos hk]; simp
        · rw [if_neg hxy] at hg
          unfold bindL
          exact bindL_get hk ⟨hn.2, b, hnd.2⟩ hg
theorem bindC_get {kindOf : Str → Option NameKind} {Z : Addr → Prop} {h : Heap} {x : Str} {d : D} (hk : kindOf x ≠ some .local) : ∀ {binds : List (Str × Value)} {ρ : Loc} {m : Str → Option Value}, Par Z h binds ρ → get ρ x = some d → ∃ v, bindC kindOf binds m x = some v ∧ Is Z h v d
  | [], ρ, m, p, hg => by
    have := p.names
    cases ρ with
    | nil => cases hg
    | cons a b => simp at this
  | (n, v) :: r, ρ, m, p, hg => by
    cases ρ with
    | nil => cases hg
    | cons q ρ =>
      obtain ⟨y, e⟩ := q
      have hn := p.names
      simp only [List.map_cons, List.cons.injEq] at hn
      have hv := p.vals
      simp only [List.map_cons] at hv
      cases hv with
      | cons a b =>
        have hnd := p.nodup
        simp only [List.map_cons, List.nodup_cons] at hnd
        simp only [get] at hg
        by_cases hxy : x = y
        · rw [if_pos hxy] at hg
          cases hg
          refine ⟨v, ?_, a⟩
          unfold bindC
          have hoff : x ∉ r.map (·.1) := by rw [hn.2, hxy]; exact hnd.1
          rw [bindC_off hoff, hn.1, ← hxy, if_neg hk]; simp
        · rw [if_neg hxy] at hg
          unfold bindC
          exact bindC_get hk ⟨hn.2, b, hnd.2⟩ hg

theorem get_mem {ρ : Loc} {y : Str} {d : D} (hy : get ρ y = some d) : y ∈ ρ.map (·.1) := by
  induction ρ with
  | nil => cases hy
  | cons p r ih =>
    obtain ⟨z, e⟩ := p
    simp only [get] at hy
    by_cases q : y = z
    · simp [q]
    · rw [if_neg q] at hy; exact List.mem_cons_of_mem _ (ih hy)
theorem Room.deeper {A : Around} {l : Nat} {env : Env} (r : Room A (l + 1)) : Room (A.deeper env) l :=
  ⟨r.hd, by show A.depth + 1 + l < 900; have := r.depth; omega, by show A.units + 3 + 10 * l < 9000; have := r.units; omega⟩
theorem Room.le {A : Around} {l l' : Nat} (r : Room A l) (h : l' ≤ l) : Room A l' := ⟨r.hd, by have := r.depth; omega, by have := r.units; omega⟩

/-- the context within a call -/
@[reducible] def Cx.into (C : Cx) (fd : FuncData) (f L : Addr) : Cx := { C with A := C.A.deeper (callEnvC fd L f), env := callEnvC fd L f }

structure FnOk (C : Cx) (f : Addr) (fd : FuncData) (body : List Stmt) : Prop where
  at_ : ∃ o, C.h₀.get? f = some o ∧ o.data = .func fd
  code : C.h₀.CodeRec fd.code fd.qualname
  body : fd.body = .stmts body
  clo : fd.closure = []
  gl : fd.globals = mainGlobals
  bl : fd.builtins = builtinsNs
  co : fd.scope.isCoroutine = false
  gen : fd.scope.isGenerator = false
  kind : fd.scope.kind = .function

/-- a program's ground -/
structure Ground0 (C : Cx) : Prop where
  g : C.h₀.Ns mainGlobals C.mg
  b : C.h₀.Ns builtinsNs C.mb
  nolimit : C.h₀.NoLimit

theorem Ground0.ok {C : Cx} {f L : Addr} {fd : FuncData} {body : List Stmt} {l : Nat} (G : Ground0 C) (fo : FnOk C f fd body) (room : Room C.A (l + 1)) : (C.into fd f L).Ok l :=
  ⟨room.deeper, fo.kind, fo.gl, fo.bl, G.g, G.b, G.nolimit⟩

/-- what stands under the law's own call: nothing is known of the tokens -/
structure Und0 (C : Cx) (Z : Addr → Prop) (s : Shared) : Prop where
  live : Live Z s.heap
  base : ∀ b o, C.h₀.get? b = some o → s.heap.get? b = some o
  new : ∀ a, Z a → C.h₀.get? a = none
theorem Und.to0 {C : Cx} {Z : Addr → Prop} {s : Shared} (U : Und C Z s) : Und0 C Z s := ⟨U.live, U.base, U.new⟩
section
variable {M : Model} {A : Around} {E : Value → Shared → Prop} {s : Shared}
/-- a frame whose first parameter is a plain name has drawn a token -/
theorem frame_tok {scope : Scope} {globals : Addr} {n : Str} {v : Value} {binds : List (Str × Value)} {qual : Str} {func : Option Addr} {code : Value} {builtins : Addr} {Q : Env → Shared → Prop}
    (hk : scope.kind = .function) (hl : scope.names.lookup n = some .local)
    (hkind : ∀ x ∈ (n, v) :: binds, scope.names.lookup x.1 = some .local ∨ (scope.names.lookup x.1 = some .cell ∧ ((cellsFrom (s.heap.objs.size + 1) scope.names []).lookup x.1).isSome = true))
    (hQ : ∀ env, env = newEnv scope s.heap.objs.size globals (cellsFrom (s.heap.objs.size + 1) scope.names []) qual func code none builtins →
      ∀ s', InCallC s env.locals (bindL env.kindOf ((n, v) :: binds) fun _ => none) env.cells (bindC env.kindOf ((n, v) :: binds) fun _ => none) s' → 0 < s'.toks → Q env s') :
    wpAny M A (newFunctionEnv scope globals [] ((n, v) :: binds) qual func code none builtins) Q E s := by
  unfold newFunctionEnv
  dsimp only [Option.isSome_none]
  refine wpAny_bind (wpAny_alloc ?_)
  refine wpAny_bind (wpAny_layCells _ (fun name kind cells => by cases hkc : kind == NameKind.cell <;> simp [hkc]) _ _ _ _ ?_)
  have ok := cellsFrom_ok scope.names (s.heap.push { cls := .type "frame", data := .dict #[] }) (s.heap.objs.size + 1) [] ⟨fun _ _ hm => (nomatch hm), List.Pairwise.nil⟩ (by rw [Heap.size_push]; exact Nat.le_refl _)
  rw [Heap.size_push] at ok
  rw [show ({ s with heap := s.heap.push { cls := .type (if false = true then "dict" else "frame"), data := .dict #[] } } : Shared).heap.objs.size = s.heap.objs.size + 1 from Heap.size_push ..]
  dsimp only
  generalize hE : newEnv scope s.heap.objs.size globals (cellsFrom (s.heap.objs.size + 1) scope.names []) qual func code none builtins = env at hQ
  have x0 : InCallC s env.locals (fun _ => none) env.cells (fun _ => none) { s with heap := pushCells (s.heap.push { cls := .type "frame", data := .dict #[] }) scope.names } := by
    subst hE
    exact ⟨⟨⟨_, _, rfl⟩, (Heap.Ns.new s.heap (.type "frame")).keeps (pushCells_keeps _ _), fun b o e => pushCells_keeps _ _ b o (Heap.get?_push_of_some _ e), Nat.le_refl _⟩,
      fun n c hc => (ok.empty n c (mem_of_lookup hc)).1, ok.apart, fun n c hm => (ok.empty n c hm).2⟩
  have hke : env.scope.kind = .function := by subst hE; exact hk
  have hle : env.kindOf n = some .local := by subst hE; exact hl
  have hkb : ∀ y ∈ binds, env.kindOf y.1 = some .local ∨ (env.kindOf y.1 = some .cell ∧ (env.cells.lookup y.1).isSome = true) := fun y hy => by subst hE; exact hkind y (List.mem_cons_of_mem _ hy)
  refine wpAny_bind ?_
  rw [List.forIn_cons]
  show wpAny M A ((storeName (newEnv scope s.heap.objs.size globals (cellsFrom (s.heap.objs.size + 1) scope.names []) qual func code none builtins) n v >>= fun _ => pure (ForInStep.yield PUnit.unit)) >>= _) _ _ _
  rw [hE]
  refine wpAny_bind (wpAny_bind (wpAny_storeName_local hle x0.toInCall.ns (fun h' hn' hs' => wpAny_pure ?_) (by rw [hke]; rfl)))
  have x1 : InCallC s env.locals (fun y => if y = n then some v else none) env.cells (fun _ => none) { s with heap := h', toks := s.toks + 1 } := ⟨⟨⟨h', _, rfl⟩, hn', fun b o e => hs'.extBut b o (Nat.ne_of_lt (Nat.lt_of_lt_of_le (Heap.lt_size e) x0.toInCall.fresh)) (x0.toInCall.keep b o e), x0.toInCall.fresh⟩,
    fun k c hc => (x0.cell k c hc).sameBut hs' (Nat.ne_of_gt (x0.above k c (mem_of_lookup hc))), x0.apart, x0.above⟩
  refine wpAny_free (wpAny_bindParams (s₀ := s) (env := env) _ (fun _ _ _ => by rw [← hE]; rfl) hke binds _ _ _ _ x1 hkb fun s' x' htk => wpAny_pure ?_)
  have hE' : ({ scope := scope, locals := s.heap.objs.size, globals := globals, cells := cellsFrom (s.heap.objs.size + 1) scope.names [], qual := qual, func := func, code := code, frame := some s.heap.objs.size, builtins := builtins } : Env) = env := hE
  rw [hE']
  refine hQ env rfl s' ?_ (Nat.lt_of_lt_of_le (Nat.succ_pos _) htk)
  unfold bindL bindC
  rw [if_pos hle, if_pos hle]
  exact x'
end
structure CodeC (C : Cx) (f : Value) (as : List D) (K : D → Prop) : Prop where
  run : ∀ {Z : Addr → Prop} s vs, Und0 C Z s → IsAll Z s.heap vs as → codeAny C.M C.A (.call f ⟨vs, []⟩) (fun r s' => ∃ v, r = .ok (.ret v) ∧ Gv Z s K v s') s
theorem enterG {C : Cx} {Z : Addr → Prop} {s : Shared} {vs : List Value} {f : Addr} {fd : FuncData} {body : List Stmt} {l : Nat} {as : List D} {K : D → Prop} (G : Ground0 C) (fo : FnOk C f fd body) (room : Room C.A (l + 1)) (ρ : Loc)
    (hbind : ∀ (Z : Addr → Prop) s vs, Und0 C Z s → IsAll Z s.heap vs as → ∃ binds, BindsTo s fd ⟨vs, []⟩ binds ∧ Par Z s.heap binds ρ)
    (hkind : ∀ n, ∀ x ∈ ρ.map (·.1), fd.scope.names.lookup x = some .local ∨ (fd.scope.names.lookup x = some .cell ∧ ((cellsFrom n fd.scope.names []).lookup x).isSome = true))
    (h : ∀ L, Exs (C.into fd f L) ρ [] body (fun fl _ _ => match fl with | .ret d => K d | .next => K .none | _ => False))
    (U : Und0 C Z s) (ia : IsAll Z s.heap vs as) (ht : 0 < s.toks ∨ ∃ n d r, ρ = (n, d) :: r ∧ fd.scope.names.lookup n = some .local) : codeAny C.M C.A (.call (.ref f) ⟨vs, []⟩) (fun r s' => ∃ v, r = .ok (.ret v) ∧ Gv Z s K v s') s := by
  have live := U.live
  obtain ⟨o, ho, hdata⟩ := fo.at_
  obtain ⟨binds, hb, par⟩ := hbind Z s vs U ia
  refine codeAny_call_function (by have := room.depth; show C.A.depth < 1000; omega) (U.base _ _ ho) hdata fo.co fo.gen fo.body ?_ (hb _ _ _ _ ?_)
  · obtain ⟨c, oc, ws, t, e1, e2, e3⟩ := fo.code
    exact ⟨c, oc, ws, t, e1, U.base _ _ e2, e3⟩
  rw [fo.clo]
  have hkb : ∀ x ∈ binds, fd.scope.names.lookup x.1 = some .local ∨ (fd.scope.names.lookup x.1 = some .cell ∧ ((cellsFrom (s.heap.objs.size + 1) fd.scope.names []).lookup x.1).isSome = true) := fun x hx => hkind _ x.1 (by rw [← par.names]; exact List.mem_map.mpr ⟨x, hx, rfl⟩)
  refine (fun main => ht.elim (fun ht => wpAny_free (wpAny_newFunctionEnv_cells fo.kind hkb fun env he s₁ x hltk => main env he s₁ x hltk (Nat.lt_of_lt_of_le ht hltk))) (fun ⟨n, d, r, e, hl⟩ => ?_) :
    (∀ env, env = newEnv fd.scope s.heap.objs.size fd.globals (cellsFrom (s.heap.objs.size + 1) fd.scope.names []) (fd.qualname ++ ".<locals>.") (some f) fd.code none fd.builtins → ∀ s₁, InCallC s env.locals (bindL env.kindOf binds fun _ => none) env.cells (bindC env.kindOf binds fun _ => none) s₁ → s.toks ≤ s₁.toks → 0 < s₁.toks → _) → _) ?_
  · have hn := par.names
    rw [e] at hn
    cases binds with
    | nil => cases hn
    | cons p bs =>
      obtain ⟨n', v⟩ := p
      simp only [List.map_cons, List.cons.injEq] at hn
      obtain ⟨rfl, _⟩ := hn
      exact wpAny_free (frame_tok fo.kind hl hkb fun env he s₁ x htok hltk => main env he s₁ x hltk htok)
  intro env he s₁ x hltk htok
  have henv : env = callEnvC fd s.heap.objs.size f := he
  subst henv
  refine ⟨(G.nolimit.keeps U.base).keeps x.toInCall.keep, codeAny_func ?_⟩
  have hkeep := x.toInCall.keep
  obtain ⟨hh, tk, es⟩ := x.toInCall.same
  have hL : s.heap.get? (callEnvC fd s.heap.objs.size f).locals = none := size_none _
  have hmu : ∀ a, (C.into fd f s.heap.objs.size).Mu [] a → s.heap.get? a = none := by
    rintro a (q | ⟨y, q⟩ | q)
    · rw [q]; exact hL
    · cases e : s.heap.get? a with
      | none => rfl
      | some o =>
        have h1 := x.above y a (mem_of_lookup q)
        have h2 := Heap.lt_size e
        exact absurd (Nat.lt_trans h2 h1) (Nat.lt_irrefl _)
    · cases q
  have mv : ∀ b o, ¬ Z b → s.heap.get? b = some o → ¬ (C.into fd f s.heap.objs.size).Z Z [] b ∧ s₁.heap.get? b = some o := fun b o hz e =>
    ⟨fun q => q.elim hz fun q => (by rw [hmu b q] at e; cases e), hkeep b o e⟩
  have hs1 : Sta (C.into fd f s.heap.objs.size) Z ρ [] s₁ := by
    refine ⟨fun b o e => hkeep b o (U.base b o e), ?_, ⟨_, x.toInCall.ns, fun y d hy hl => ?_⟩, fun y d hy hl => ?_, fun y c hy => ?_, fun y z c hy hz => ?_, (fun p hp => by cases hp), List.nodup_nil, (fun a ha => by cases ha), live.keeps hkeep, htok⟩
    · rintro a (q | q)
      · exact U.new a q
      · cases e : C.h₀.get? a with
        | none => rfl
        | some o => have := U.base a o e; rw [hmu a q] at this; cases this
    · obtain ⟨v, h1, h2⟩ := bindL_get (kindOf := (callEnvC fd s.heap.objs.size f).kindOf) hl (m := fun _ => none) par hy
      exact ⟨v, h1, h2.move mv⟩
    · have hnl : (callEnvC fd s.heap.objs.size f).kindOf y ≠ some .local := fun q => by
        have hl' : (callEnvC fd s.heap.objs.size f).kindOf y = some .cell ∨ (callEnvC fd s.heap.objs.size f).kindOf y = some .free := hl
        rw [q] at hl'; rcases hl' with h | h <;> cases h
      obtain ⟨v, h1, h2⟩ := bindC_get (kindOf := (callEnvC fd s.heap.objs.size f).kindOf) hnl (m := fun _ => none) par hy
      have hyr : y ∈ ρ.map (·.1) := get_mem hy
      rcases hkind (s.heap.objs.size + 1) y hyr with q | ⟨q, qc⟩
      · exact absurd q hnl
      · obtain ⟨c, hc⟩ := Option.isSome_iff_exists.mp qc
        have := x.cell y c hc
        rw [h1] at this
        exact ⟨c, v, hc, this, h2.move mv⟩
    · exact ⟨_, x.cell y c hy⟩
    · exact name_of_addr x.apart (mem_of_lookup hy) (mem_of_lookup hz)
  refine wpAny_mono ((h s.heap.objs.size).run s₁ hs1) (fun fl s' out => ?_) fun _ _ e => e.elim
  obtain ⟨fl', ρ', ω', hf, hs', st, hK⟩ := out
  have kp : Kp s s' := by
    obtain ⟨h2, t2, e2, l2⟩ := st.same
    refine ⟨h2, t2, by rw [e2, es], fun b o e => ?_, Nat.le_trans hltk l2⟩
    have h3 : s'.heap.get? b = some o := st.keep b o (fun q => by rw [hmu b q] at e; cases e) (hkeep b o e)
    rw [e2] at h3; exact h3
  cases fl' with
  | ret d => cases fl with
    | ret v =>
      have hf' : Is ((C.into fd f s.heap.objs.size).Z Z ω') s'.heap v d := hf
      exact ⟨_, rfl, kp, d, hf'.move fun b o hz e => ⟨fun q => hz (.inl q), e⟩, hK⟩
    | _ => exact hf.elim
  | next => cases fl with
    | next => exact ⟨_, rfl, kp, .none, .none, hK⟩
    | _ => exact hf.elim
  | brk => exact hK.elim
  | cont => exact hK.elim
theorem enterK {C : Cx} {f : Addr} {fd : FuncData} {body : List Stmt} {l : Nat} {as : List D} {K : D → Prop} (G : Ground0 C) (fo : FnOk C f fd body) (room : Room C.A (l + 1)) (ρ : Loc)
    (hbind : ∀ (Z : Addr → Prop) s vs, Und0 C Z s → IsAll Z s.heap vs as → ∃ binds, BindsTo s fd ⟨vs, []⟩ binds ∧ Par Z s.heap binds ρ)
    (hkind : ∀ n, ∀ x ∈ ρ.map (·.1), fd.scope.names.lookup x = some .local ∨ (fd.scope.names.lookup x = some .cell ∧ ((cellsFrom n fd.scope.names []).lookup x).isSome = true))
    (hfirst : ∃ n d r, ρ = (n, d) :: r ∧ fd.scope.names.lookup n = some .local)
    (h : ∀ L, Exs (C.into fd f L) ρ [] body (fun fl _ _ => match fl with | .ret d => K d | .next => K .none | _ => False)) : CodeC C (.ref f) as K := .mk fun {Z} s vs U ia => enterG G fo room ρ hbind hkind h U ia (.inr hfirst)
theorem enter {C : Cx} {f : Addr} {fd : FuncData} {body : List Stmt} {l : Nat} {as : List D} {K : D → Prop} (G : Ground0 C) (fo : FnOk C f fd body) (room : Room C.A (l + 1)) (ρ : Loc)
    (hbind : ∀ (Z : Addr → Prop) s vs, Und0 C Z s → IsAll Z s.heap vs as → ∃ binds, BindsTo s fd ⟨vs, []⟩ binds ∧ Par Z s.heap binds ρ)
    (hkind : ∀ n, ∀ x ∈ ρ.map (·.1), fd.scope.names.lookup x = some .local ∨ (fd.scope.names.lookup x = some .cell ∧ ((cellsFrom n fd.scope.names []).lookup x).isSome = true))
    (h : ∀ L, Exs (C.into fd f L) ρ [] body (fun fl _ _ => match fl with | .ret d => K d | .next => K .none | _ => False)) : DoC C (.ref f) as K := .mk fun {Z} s vs U ia =>
  wpAny_call (codeAny_mono (enterG G fo room ρ hbind hkind h U.to0 ia (.inl U.tok)) fun r s' ⟨v, e, g⟩ => by subst e; exact g)
end Mine
namespace Mine
/-- two contexts of one program -/
structure Kin (C C' : Cx) : Prop where
  prog : C'.prog = C.prog
  w : C'.w = C.w
  h₀ : C'.h₀ = C.h₀
  mg : C'.mg = C.mg
  mb : C'.mb = C.mb
theorem enter' {C : Cx} {f : Addr} {fd : FuncData} {body : List Stmt} {l : Nat} {as : List D} {K : D → Prop} (G : Ground0 C) (room : Room C.A (l + 1)) (ρ : Loc) (fo : FnOk C f fd body)
    (hbind : ∀ (Z : Addr → Prop) s vs, Und0 C Z s → IsAll Z s.heap vs as → ∃ binds, BindsTo s fd ⟨vs, []⟩ binds ∧ Par Z s.heap binds ρ)
    (hkind : ∀ n, ∀ x ∈ ρ.map (·.1), fd.scope.names.lookup x = some .local ∨ (fd.scope.names.lookup x = some .cell ∧ ((cellsFrom n fd.scope.names []).lookup x).isSome = true))
    (h : ∀ C', C'.Ok l → Kin C C' → C'.env.scope.names = fd.scope.names → (∀ n, n = C'.env.locals → C'.env.cells = cellsFrom (n + 1) fd.scope.names []) → Exs C' ρ [] body (fun fl _ _ => match fl with | .ret d => K d | .next => K .none | _ => False)) : DoC C (.ref f) as K :=
  enter G fo room ρ hbind hkind fun L => h _ (G.ok fo room) ⟨rfl, rfl, rfl, rfl, rfl⟩ rfl fun n hn => by subst hn; rfl
theorem enterK' {C : Cx} {f : Addr} {fd : FuncData} {body : List Stmt} {l : Nat} {as : List D} {K : D → Prop} (G : Ground0 C) (room : Room C.A (l + 1)) (ρ : Loc) (fo : FnOk C f fd body)
    (hbind : ∀ (Z : Addr → Prop) s vs, Und0 C Z s → IsAll Z s.heap vs as → ∃ binds, BindsTo s fd ⟨vs, []⟩ binds ∧ Par Z s.heap binds ρ)
    (hkind : ∀ n, ∀ x ∈ ρ.map (·.1), fd.scope.names.lookup x = some .local ∨ (fd.scope.names.lookup x = some .cell ∧ ((cellsFrom n fd.scope.names []).lookup x).isSome = true))
    (hfirst : ∃ n d r, ρ = (n, d) :: r ∧ fd.scope.names.lookup n = some .local)
    (h : ∀ C', C'.Ok l → Kin C C' → C'.env.scope.names = fd.scope.names → (∀ n, n = C'.env.locals → C'.env.cells = cellsFrom (n + 1) fd.scope.names []) → Exs C' ρ [] body (fun fl _ _ => match fl with | .ret d => K d | .next => K .none | _ => False)) : CodeC C (.ref f) as K :=
  enterK G fo room ρ hbind hkind hfirst fun L => h _ (G.ok fo room) ⟨rfl, rfl, rfl, rfl, rfl⟩ rfl fun n hn => by subst hn; rfl
theorem ints_all {Z : Addr → Prop} {h : Heap} : ∀ {vs : List Value} {ns : List Int}, IntsAre vs ns → IsAll Z h vs (ns.map .int)
  | _, _, .nil => .nil
  | _, _, .cons _ _ x => .cons .int (ints_all x)
/-- a law's call, under the claim's caller -/
theorem law_run {prog : Program} {w : World} {s₁ : Shared} {fa la : Addr} {vs : List Value} {ns : List Int} {mg mb : Str → Option Value} {env : Env} {R : Result → Shared → Prop}
    (h : CodeC ⟨prog, w, callerA, env, s₁.heap, mg, mb⟩ (.ref fa) [.list (ns.map .int)] (fun d => d = .bool true)) (hL : s₁.heap.IsList la vs.toArray) (hI : IntsAre vs ns)
    (hR : ∀ s', Kp s₁ s' → R (.ok (.ret (.bool true))) s') : codeAny (model prog w) callerA (.call (.ref fa) ⟨[.ref la], []⟩) R s₁ := by
  refine codeAny_mono (h.run (Z := fun _ => False) s₁ [.ref la] ⟨(fun _ h => h.elim), (fun _ _ e => e), (fun _ h => h.elim)⟩ (.one (.list (fun h => h) hL (ints_all hI)))) fun r s' x => ?_
  obtain ⟨v, rfl, k, d, i, rfl⟩ := x
  cases i
  exact hR s' k
end Mine
end

section
namespace Mine

theorem mkS_append (x y : List Nat) : mkS x ++ mkS y = mkS (x ++ y) := by
  show Str.mk (x.toArray ++ y.toArray) = _
  simp [mkS]
theorem mkS_length (x : List Nat) : (mkS x).length = x.length := by simp [Str.length]
theorem mkS_beq (x y : List Nat) : (mkS x == mkS y) = decide (x = y) := by
  by_cases h : x = y
  · subst h; simp
  · simp only [h, decide_false, beq_eq_false_iff_ne, ne_eq, mkS, Str.mk.injEq]
    intro e; exact h (by simpa using e)

section
variable {C : Cx} {l : Nat} {K : D → Prop} {a b : Int} {x y : List Nat}

theorem do_add_int (h : K (.int (a + b))) : Do2 C (binaryOp .Add) (.int a) (.int b) K := .mk fun s v w U i j => by
  cases i; cases j; exact PyProof.Rows.add_int ⟨Kp.tok _ _, _, .int, h⟩
theorem do_mul_int (hm : a.natAbs < 2 ^ 40) (hm' : b.natAbs < 2 ^ 40) (h : K (.int (a * b))) : Do2 C (binaryOp .Mult) (.int a) (.int b) K := .mk fun s v w U i j => by
  cases i; cases j; exact PyProof.Rows.mul_int ⟨Kp.tok _ _, _, .int, h⟩
theorem do_mod_int (h0 : 0 < b) (hb : b < 1073741824) (h : K (.int (a % b))) : Do2 C (binaryOp .Mod) (.int a) (.int b) K := .mk fun s v w U i j => by
  cases i; cases j
  refine PyProof.Rows.mod_int' (by omega) ⟨Kp.tok _ _, _, .int, ?_⟩ 
  rw [Int.fmod_eq_emod_of_nonneg _ (by omega)]; exact h
theorem do_add_str (hl : x.length + y.length ≤ lim) (h : K (.str (x ++ y))) : Do2 C (binaryOp .Add) (.str x) (.str y) K := .mk fun s v w U i j => by
  cases i; cases j
  exact wpAny_free (PyProof.Rows.add_str (fun t' tk htk => ⟨Kp.tok _ _ htk, _, by rw [mkS_append]; exact .str, h⟩) (by rw [mkS_length, mkS_length]; exact lim_le hl))
theorem do_iadd_str (hl : x.length + y.length ≤ lim) (h : K (.str (x ++ y))) : Do2 C (inplaceOp .Add) (.str x) (.str y) K := .mk fun s v w U i j => by
  cases i; cases j
  exact wpAny_free (PyProof.Rows.iadd_str (fun t' tk htk => ⟨Kp.tok _ _ htk, _, by rw [mkS_append]; exact .str, h⟩) (by rw [mkS_length, mkS_length]; exact lim_le hl))
theorem do_iadd_int (h : K (.int (a + b))) : Do2 C (inplaceOp .Add) (.int a) (.int b) K := .mk fun s v w U i j => by
  cases i; cases j; exact PyProof.Rows.iadd_int ⟨Kp.tok _ _, _, .int, h⟩
theorem do_eq_int (h : K (.bool (decide (a = b)))) : Do2 C (compareOp .Eq) (.int a) (.int b) K := .mk fun s v w U i j => by
  cases i; cases j; exact PyProof.Rows.eq_int ⟨Kp.refl _, _, .bool, by rw [show (a == b) = decide (a = b) from rfl]; exact h⟩
theorem do_lt_int (h : K (.bool (decide (a < b)))) : Do2 C (compareOp .Lt) (.int a) (.int b) K := .mk fun s v w U i j => by
  cases i; cases j; exact PyProof.Rows.lt_int ⟨Kp.refl _, _, .bool, h⟩
theorem do_le_int (h : K (.bool (decide (a ≤ b)))) : Do2 C (compareOp .LtE) (.int a) (.int b) K := .mk fun s v w U i j => by
  cases i; cases j; exact PyProof.Rows.le_int ⟨Kp.refl _, _, .bool, h⟩
theorem do_eq_str (h : K (.bool (decide (x = y)))) : Do2 C (compareOp .Eq) (.str x) (.str y) K := .mk fun s v w U i j => by
  cases i; cases j; exact PyProof.Rows.eq_str ⟨Kp.refl _, _, .bool, by rw [mkS_beq]; exact h⟩
theorem do_ne_str (h : K (.bool (decide (x ≠ y)))) : Do2 C (compareOp .NotEq) (.str x) (.str y) K := .mk fun s v w U i j => by
  cases i; cases j; exact PyProof.Rows.ne_str ⟨Kp.refl _, _, .bool, by rw [bne, mkS_beq, ← decide_not]; exact h⟩
theorem found_one (x : List Nat) (c : Nat) : (!(Builtin.Str.occurrences (mkS x) (mkS [c]) 0 (mkS x).length 1).isEmpty) = decide (c ∈ x) := by
  have := StrLaws.found_one (mkS x) c
  simpa using this
theorem do_in_str {c : Nat} (h : K (.bool (decide (c ∈ x)))) : Do2 C (compareOp .In) (.str [c]) (.str x) K := .mk fun s v w U i j => by
  cases i; cases j; exact PyProof.Rows.in_str ⟨Kp.refl _, _, .bool, by rw [found_one]; exact h⟩
theorem do_notin_str {c : Nat} (h : K (.bool (decide (c ∉ x)))) : Do2 C (compareOp .NotIn) (.str [c]) (.str x) K := .mk fun s v w U i j => by
  cases i; cases j; exact PyProof.Rows.notIn_str ⟨Kp.refl _, _, .bool, by rw [found_one, ← decide_not]; exact h⟩
theorem do_neg_int (h : K (.int (-a))) : Do1 C (unaryOp .USub) (.int a) K := .mk fun s v U i => by
  cases i; exact PyProof.Rows.neg_int ⟨Kp.tok _ _, _, .int, h⟩
theorem tr_bool {c : Bool} {K : Bool → Prop} (h : K c) : Tr1 C (.bool c) K := .mk fun s v U i => by
  cases i; exact wpAny_truthy_bool ⟨Kp.refl _, h⟩
theorem tr_str (hl : x.length ≤ lim) {K : Bool → Prop} (h : K (decide (x ≠ []))) : Tr1 C (.str x) K := .mk fun s v U i => by
  cases i
  simp only [lim] at hl
  refine SBL.truthy (by rw [mkS_length]; omega) ⟨Kp.tok _ _, ?_⟩
  rw [mkS_length]
  have : ((x.length : Int) != 0) = decide (x ≠ []) := by cases x <;> simp <;> omega
  rw [this]; exact h
end
end Mine
end

section
namespace Mine

/-- a text's lines -/
def linesGo : List Nat → Bool → List Nat → List (List Nat)
  | cur, _, [] => if cur = [] then [] else [cur]
  | cur, cr, c :: r =>
    if cr = true ∧ c = 10 then linesGo cur false r
    else if Unicode.isLineBreak c = true then cur :: linesGo [] (decide (c = 13)) r
    else linesGo (cur ++ [c]) false r
def linesL (l : List Nat) : List (List Nat) := linesGo [] false l

theorem linesGo_cr {cur : List Nat} {r : List Nat} (h : r.head? ≠ some 10) : linesGo cur true r = linesGo cur false r := by
  cases r with
  | nil => rfl
  | cons c r =>
    have hc : c ≠ 10 := fun e => h (by simp [e])
    simp only [linesGo, hc, and_false, if_false, Bool.false_eq_true, false_and]

open StrLaws in
theorem ls_lines (l : List Nat) : ∀ (m cur : Nat) (st : LsSt), cur + m = l.length → st.2 ≤ cur + 1 → (cur < st.2 → l[cur]? = some 10) →
    (lsEnd (mkS l) (Id.run (forIn (m := Id) (List.range' cur m) st (lsBody (mkS l))))).map (fun p => Builtin.Str.strSub (mkS l) p.1 p.2.1) =
      st.1.toList.map (fun p => Builtin.Str.strSub (mkS l) p.1 p.2.1) ++ (linesGo ((l.take cur).drop st.2) (decide (cur < st.2)) (l.drop cur)).map mkS
  | 0, cur, (lines, start), hm, h1, h2 => by
    have hcur : cur = l.length := by omega
    subst hcur
    simp only [List.range'_zero, List.forIn_nil, Id.run, pure, lsEnd, mkS_length, List.take_length, List.drop_length, linesGo]
    by_cases hs : start < l.length
    · have : l.drop start ≠ [] := by intro e; have := congrArg List.length e; simp at this; omega
      simp [hs, this, Builtin.Str.strSub, mkS]
      exact List.take_of_length_le (by simp)
    · have : l.drop start = [] := List.drop_of_length_le (by omega)
      simp [hs, this]
  | m + 1, cur, (lines, start), hm, h1, h2 => by
    have hlt : cur < l.length := by omega
    rw [List.range'_succ, List.forIn_cons]
    have hget : (mkS l).cps.getD cur 0 = l[cur] := by simp [mkS, Array.getD, hlt]
    have hdrop : l.drop cur = l[cur] :: l.drop (cur + 1) := List.drop_eq_getElem_cons hlt
    have htake : l.take (cur + 1) = l.take cur ++ [l[cur]] := by rw [List.take_succ_eq_append_getElem hlt]
    have a1 : start ≤ cur + 1 := h1
    have a2 : cur < start → l[cur]? = some 10 := h2
    unfold lsBody
    by_cases hst : start ≤ cur
    · have hn : ¬ cur < start := by omega
      by_cases hb : Unicode.isLineBreak l[cur] = true
      · simp only [hst, decide_true, Bool.true_and, hget, hb, if_true, pure_bind]
        have key := ls_lines l m (cur + 1) (lines.push (start, cur, lsNext (mkS l) cur), lsNext (mkS l) cur) (by omega) (by have := lsNext_bounds (mkS l) cur; show lsNext (mkS l) cur ≤ _; omega) ?_
        · refine key.trans ?_
          simp only [Array.toList_push, List.map_append, List.map_cons, List.map_nil, List.append_assoc]
          congr 1
          have e1 : Builtin.Str.strSub (mkS l) start cur = mkS ((l.take cur).drop start) := by
            apply congrArg Str.mk
            apply Array.ext'
            simp [mkS, List.drop_take]
          rw [e1, hdrop]
          simp only [hn, decide_false, linesGo, Bool.false_eq_true, false_and, if_false, hb, if_true, List.map_cons, List.singleton_append]
          congr 2
          have e2 : (l.take (cur + 1)).drop (lsNext (mkS l) cur) = [] := List.drop_of_length_le (by have := lsNext_bounds (mkS l) cur; simp; omega)
          rw [e2]
          unfold lsNext
          rw [hget]
          by_cases hc : l[cur] = 13
          · by_cases hd : (mkS l).cps[cur + 1]? = some 10
            · simp [hc, hd]
            · have hd' : (l.drop (cur + 1)).head? ≠ some 10 := by
                rw [List.head?_drop]; simpa [mkS] using hd
              simp only [hc, beq_self_eq_true, Bool.true_and, beq_iff_eq, hd, if_false, decide_true]
              rw [linesGo_cr hd']; simp
          · have : (l[cur] == 13) = false := by simpa using hc
            simp [this, hc]
        · show cur + 1 < lsNext (mkS l) cur → _
          intro hx
          unfold lsNext at hx
          split at hx
          · rename_i hq
            simp only [Bool.and_eq_true, beq_iff_eq] at hq
            simpa [mkS] using hq.2
          · omega
      · simp only [hst, decide_true, Bool.true_and, hget, hb, Bool.false_eq_true, if_false, pure_bind]
        have key := ls_lines l m (cur + 1) (lines, start) (by omega) (by show start ≤ _; omega) (fun hx => by have : cur + 1 < start := hx; omega)
        refine key.trans ?_
        congr 2
        rw [hdrop]
        have hn' : ¬ cur + 1 < start := by omega
        simp only [hn, hn', decide_false, linesGo, Bool.false_eq_true, false_and, if_false, hb]
        rw [htake, List.drop_append_of_le_length (by simp; omega)]
    · have hcs : cur < start := by omega
      have hs1 : start = cur + 1 := by omega
      have h10 : l[cur] = 10 := by have := a2 hcs; simpa [hlt] using this
      simp only [hst, decide_false, Bool.false_and, Bool.false_eq_true, if_false, pure_bind]
      have key := ls_lines l m (cur + 1) (lines, start) (by omega) (by show start ≤ _; omega) (fun hx => by have : cur + 1 < start := hx; omega)
      refine key.trans ?_
      congr 2
      rw [hdrop, h10]
      have hn' : ¬ cur + 1 < start := by omega
      simp only [hcs, hn', decide_false, decide_true, linesGo, and_self, if_true]
      congr 1
      rw [List.drop_of_length_le (by simp; omega), List.drop_of_length_le (by simp; omega)]
termination_by m => m

theorem linesOf_eq (l : List Nat) : linesOf (mkS l) = (linesL l).map mkS := by
  have h := ls_lines l l.length 0 (#[], 0) (by omega) (by show 0 ≤ 1; omega) (fun h => by have : 0 < 0 := h; omega)
  have e : linesOf (mkS l) = (Builtin.Str.lineSpans (mkS l)).map fun p => Builtin.Str.strSub (mkS l) p.1 p.2.1 := by
    unfold linesOf lineCuts
    rw [List.map_map]; rfl
  rw [e, StrLaws.ls_eq, mkS_length, h]
  simp [linesL]

def rstripL (l : List Nat) : List Nat := (l.reverse.dropWhile Unicode.isSpace).reverse
theorem rstrip_eq (l : List Nat) : Txt.rstrip (mkS l) = mkS (rstripL l) := by
  unfold Txt.rstrip
  rw [PyProof.Rows.stripBy_eq]
  apply congrArg Str.mk
  apply Array.ext'
  simp only [stripLo, stripHi, mkS_length, if_true, Bool.false_eq_true, if_false, List.drop_zero, mkS]
  simp only [List.extract_toArray, List.extract_eq_drop_take, List.drop_zero, Nat.sub_zero]
  unfold rstripL
  have h := List.takeWhile_append_dropWhile (p := Unicode.isSpace) (l := l.reverse)
  have e : l = (l.reverse.dropWhile Unicode.isSpace).reverse ++ (l.reverse.takeWhile Unicode.isSpace).reverse := by
    rw [← List.reverse_append, h, List.reverse_reverse]
  have hlen : l.length - (l.reverse.takeWhile Unicode.isSpace).length = (l.reverse.dropWhile Unicode.isSpace).reverse.length := by
    have := congrArg List.length e
    simp only [List.length_append, List.length_reverse] at this ⊢
    omega
  rw [hlen]
  conv => lhs; rw [e]
  simp
def endsL (x y : List Nat) : Bool := decide (y.length ≤ x.length) && decide (x.drop (x.length - y.length) = y)
theorem endswith_eq (x y : List Nat) : Txt.endswith (mkS x) (mkS y) = endsL x y := by
  unfold Txt.endswith endsL
  rw [StrLaws.subAt_eq, mkS_length, mkS_length, Nat.zero_add]
  by_cases h : y.length ≤ x.length
  · simp only [h, decide_true, Bool.true_and]
    have : (x.drop (x.length - y.length)).take y.length = x.drop (x.length - y.length) := List.take_of_length_le (by simp; omega)
    simp only [mkS, this]
    by_cases e : x.drop (x.length - y.length) = y <;> simp [e]
  · simp [h]
def joinL (sep : List Nat) : List (List Nat) → List Nat
  | [] => []
  | [x] => x
  | x :: y :: r => x ++ sep ++ joinL sep (y :: r)
theorem join_eq (sep : List Nat) : ∀ parts : List (List Nat), Txt.join (mkS sep) (parts.map mkS) = mkS (joinL sep parts) := by
  intro parts
  unfold Txt.join
  rw [StrLaws.glued_eq_join]
  induction parts with
  | nil => rfl
  | cons x r ih =>
    cases r with
    | nil => rfl
    | cons y r =>
      simp only [List.map_cons] at ih ⊢
      rw [Str.join, ih]
      · simp only [joinL, mkS_append]
      · simp
theorem joinL_nil (parts : List (List Nat)) : joinL [] parts = parts.flatten := by
  induction parts with
  | nil => rfl
  | cons x r ih =>
    cases r with
    | nil => simp [joinL]
    | cons y r => simp only [joinL, ih, List.append_nil, List.flatten_cons]

section
variable {C : Cx} {l : Nat} {K : D → Prop} {a b : Int} {x y : List Nat}
theorem doc_len_str (hl : x.length ≤ lim) (h : K (.int x.length)) : DoC C (.builtin "len") [.str x] K := .mk fun s vs U i => by
  cases i with | cons i j => cases j; cases i
                             simp only [lim] at hl
                             exact SBL.len (by rw [mkS_length]; omega) ⟨Kp.tok _ _, _, .int, by rw [mkS_length]; exact h⟩
theorem doc_chr (h0 : 0 ≤ a) (h1 : a ≤ 1114111) (h : K (.str [a.toNat])) : DoC C (.builtin "chr") [.int a] K := .mk fun s vs U i => by
  cases i with | cons i j => cases j; cases i; exact chr_of_range h0 h1 ⟨Kp.tok _ _, _, .str, h⟩
theorem doc_rstrip (hl : x.length ≤ lim) (h : K (.str (rstripL x))) : DoC C (.builtin "str.rstrip") [.str x] K := .mk fun s vs U i => by
  cases i with | cons i j => cases j; cases i; exact wpAny_free (SC.rstrip (fun t' k htk => ⟨Kp.tok _ _ htk, _, by rw [rstrip_eq]; exact .str, h⟩) (by rw [mkS_length]; exact lim_le hl))
theorem doc_endswith (h : K (.bool (endsL x y))) : DoC C (.builtin "str.endswith") [.str x, .str y] K := .mk fun s vs U i => by
  cases i with | cons i j => cases j with | cons j k => cases k; cases i; cases j; exact SC.endswith ⟨Kp.refl _, _, .bool, by rw [endswith_eq]; exact h⟩
theorem strsFrom_all {Z : Addr → Prop} {h : Heap} : ∀ (parts : List (List Nat)) (n : Nat), IsAll Z h (strsFrom n (parts.map mkS)) (parts.map .str)
  | [], _ => .nil
  | p :: r, n => .cons .str (strsFrom_all r (n + 1))
theorem linesL_len (x : List Nat) : (linesL x).length ≤ x.length + 1 := by
  have : ∀ (r cur : List Nat) (cr : Bool), (linesGo cur cr r).length ≤ r.length + 1 := by
    intro r
    induction r with
    | nil => intro cur cr; simp only [linesGo]; split <;> simp
    | cons c r ih =>
      intro cur cr
      simp only [linesGo]
      split
      · have := ih cur false; simp; omega
      · split
        · have := ih [] (decide (c = 13)); simp; omega
        · have := ih (cur ++ [c]) false; simp; omega
  exact this x [] false
theorem doc_splitlines (hl : x.length < lim) (h : K (.list ((linesL x).map .str))) : DoC C (.builtin "str.splitlines") [.str x] K := .mk fun s vs U i => by
  cases i with | cons i j => cases j; cases i
                             rename_i t
                             have hln : (lineCuts (mkS x)).length = (linesL x).length := by
                               have := congrArg List.length (linesOf_eq x)
                               unfold linesOf at this; simpa using this
                             refine call_meets F.slot_str_splitlines (typeIs_str _ _ _) F.entry_str_splitlines (F.args_str_splitlines_1 _) (meets_str_splitlines (mkS x) t (by rw [mkS_length]; exact lim_le (by omega)) (by rw [hln]; have := linesL_len x; exact lim_le (by omega))) ?_
                             cases hw : lineCuts (mkS x) == [(0, (mkS x).length)]
                             · simp only [Bool.false_eq_true, if_false]
                               refine ⟨Kp.push_tok _ _ _, _, .list U.live.new ⟨_, Heap.get?_push_size _ rfl, rfl, 0, rfl⟩ ?_, h⟩
                               rw [linesOf_eq]; exact strsFrom_all _ _
                             · simp only [if_true]
                               have e : linesOf (mkS x) = [mkS x] := by
                                 unfold linesOf
                                 rw [eq_of_beq hw]
                                 simp [Builtin.Str.strSub, Str.length, mkS]
                               rw [linesOf_eq] at e
                               have e' : linesL x = [x] := by
                                 cases hq : linesL x with
                                 | nil => rw [hq] at e; cases e
                                 | cons p r =>
                                   rw [hq] at e
                                   simp only [List.map_cons, List.cons.injEq, List.map_eq_nil_iff] at e
                                   obtain ⟨e1, e2⟩ := e
                                   have : p = x := by have := congrArg (fun s => s.cps.toList) e1; simpa using this
                                   rw [this, e2]
                               rw [e'] at h
                               exact ⟨Kp.push _ _, _, .list U.live.new ⟨_, Heap.get?_push_size _ rfl, rfl, 0, rfl⟩ (.cons .str .nil), h⟩
end
end Mine
end

section
open PySem PySem.W PySem.Calls PySem.NumText PyProof.Rows
namespace Mine
def hexL : List Nat := [48, 49, 50, 51, 52, 53, 54, 55, 56, 57, 97, 98, 99, 100, 101, 102, 65, 66, 67, 68, 69, 70]
def hv (c : Nat) : Nat := if c ≤ 57 then c - 48 else if 97 ≤ c then c - 87 else c - 55

theorem hex_sign : ∀ c ∈ hexL, ∀ d ∈ hexL, sign ([c, d].dropWhile blank) = (false, [c, d]) ∧ based 16 [c, d] = (16, false, [c, d]) ∧ ([c, d].reverse.dropWhile blank).reverse = [c, d] ∧ digits? 16 [c, d] = some #[hv c, hv d] := by decide +kernel
theorem read16 {c d : Nat} (hc : c ∈ hexL) (hd : d ∈ hexL) : (int_private% "readNumeral") 0 16 [c, d] = (int_private% "Numeral.value") ((hv c * 16 + hv d : Nat) : Int) := by
  obtain ⟨h1, h2, h3, h4⟩ := hex_sign c hc d hd
  rw [readNumeral_eq, h1]
  dsimp only
  rw [h2]
  dsimp only
  rw [h3, h4]
  have e : judge 0 false 16 false (some #[hv c, hv d]) = (int_private% "Numeral.value") (((#[hv c, hv d] : Array Nat).foldl (fun acc d => acc * 16 + d) 0 : Nat) : Int) := rfl
  rw [e]
  congr 2
  simp
theorem hex_seen : ∀ c ∈ hexL, ∀ d ∈ hexL, numTextOf (mkS [c, d]) = [c, d] ∧ [c, d].takeWhile (· != 0) = [c, d] := by decide +kernel
theorem gives_text16 {c d : Nat} (hc : c ∈ hexL) (hd : d ∈ hexL) {u v : Tok} : Gives (Builtin.«int.__new__» ⟨[.type "int", .str (mkS [c, d]) u, .int 16 v], []⟩) (.int ((hv c * 16 + hv d : Nat) : Int)) :=
  .of_wp fun M A E s Q h => by
    obtain ⟨hp, g, dr, tk, os⟩ := s
    have f1 := F.conv_sub_int
    have f2 := F.madeHere_int
    have f3 := KIN.str_int
    have f4 := KIN.str_idx
    have f5 := KIN.str_trunc
    have f6 : typeOf (.str (mkS [c, d]) u) = pure (.type "str") := rfl
    have hr := read16 hc hd
    obtain ⟨h1, h2⟩ := hex_seen c hc d hd
    have h1' : (if ((mkS [c, d]).cps.all fun x => decide (x < 128)) = true then (mkS [c, d]).cps.toList else Unicode.numberText (mkS [c, d]).cps.toList) = [c, d] := h1
    have hr' : (int_private% "readNumeral") 0 (Int.toNat 16) [c, d] = (int_private% "Numeral.value") ((hv c * 16 + hv d : Nat) : Int) := hr
    have hk := KIN.Hid.mk (And.intro hr' (And.intro h1' h2))
    clear hr h1 h2 h1' hr'
    repeat (any_goals (first
      | assumption
      | wp_step))
    rw [hk.out.2.1, hk.out.2.2]
    refine wpAny_ite_true (decide_eq_true (show [c, d].length ≤ 640 by simp)) ?_
    refine wpAny_bind (wpAny_pure ?_)
    dsimp only
    rw [hk.out.1]
    dsimp only
    refine wpAny_ite_true (by simp) ?_
    repeat (any_goals (first
      | assumption
      | wp_step))
    all_goals first | exact ⟨_, rfl, h⟩ | skip
theorem typeCall_int_2 (a b : Value) : checkTypeCall "int" ⟨[a, b], []⟩ = pure () := by kernel_rfl
theorem newCall_int_2 (a b : Value) : checkBuiltinCall "int.__new__" ⟨[.type "int", a, b], []⟩ = pure () := by kernel_rfl
theorem doc_int16 {C : Cx} {K : D → Prop} {c d : Nat} (hc : c ∈ hexL) (hd : d ∈ hexL) (h : K (.int ((hv c * 16 + hv d : Nat) : Int))) : DoC C (.type "int") [.str [c, d], .int 16] K := .mk fun s vs U i => by
  cases i with | cons i j => cases j with | cons j k => cases k; cases i; cases j; exact callType_new F.called_int F.newNe_int (typeCall_int_2 _ _) (newCall_int_2 _ _) (fun obj => F.initArgs_range_2 obj _ _) F.entry_int_new (gives_text16 hc hd).meets (show (Made.int _).post _ s from ⟨rfl, ⟨Kp.tok _ _, _, .int, h⟩⟩)
end Mine
end

section
namespace Mine
theorem get_put_same {ρ : Loc} {x : Str} {d : D} : get (put ρ x d) x = some d := by rw [get_put, if_pos rfl]
theorem get_put_ne {ρ : Loc} {x y : Str} {d : D} {r : Option D} (h : (y == x) = false) (e : get ρ y = r) : get (put ρ x d) y = r := by
  rw [get_put, if_neg (by simpa using h)]; exact e
theorem ite_dec {p : Prop} [Decidable p] {A B : Prop} (h1 : p → A) (h2 : ¬ p → B) : if decide p = true then A else B := by
  by_cases h : p
  · simp only [h, decide_true, if_true]; exact h1 h
  · simp only [h, decide_false, Bool.false_eq_true, if_false]; exact h2 h
theorem ite_ndec {p : Prop} [Decidable p] {A B : Prop} (h1 : ¬ p → A) (h2 : p → B) : if (!decide p) = true then A else B := by
  by_cases h : p
  · simp only [h, decide_true, Bool.not_true, Bool.false_eq_true, if_false]; exact h2 h
  · simp only [h, decide_false, Bool.not_false, if_true]; exact h1 h
theorem ite_b {b : Bool} {A B : Prop} (h1 : b = true → A) (h2 : b = false → B) : if b = true then A else B := by
  cases b
  · simpa using h2 rfl
  · simpa using h1 rfl
theorem mg_of {h : Heap} {mg : Str → Option Value} {o : Obj} {es : Array DictEntry} {ep : Nat} (g : h.Ns mainGlobals mg) (ho : h.get? mainGlobals = some o) (hd : o.data = .dict es ep) (x : Str) : mg x = nsFind es x := by
  obtain ⟨o', es', ep', h1, h2, _, h4⟩ := g
  rw [ho] at h1; cases h1
  rw [hd] at h2; cases h2
  exact (h4 x).symm

/-- decode's work upon one line that is not empty -/
def lineGo (eol : List Nat) : List Nat → List Nat
  | [] => []
  | c :: r =>
    if c ≠ 61 then c :: (if r = [] then eol else lineGo eol r)
    else match r with
      | [] => []
      | [a] => 61 :: lineGo eol [a]
      | a :: b :: r' => if a ∈ hexL ∧ b ∈ hexL then (hv a * 16 + hv b) :: (if r' = [] then eol else lineGo eol r') else 61 :: lineGo eol (a :: b :: r')
def lineF (eol : List Nat) (line : List Nat) : List Nat := if rstripL line = [] then eol else lineGo eol (rstripL line)
def decRaw (eol x : List Nat) : List Nat := ((linesL x).map (lineF eol)).flatten
def decF (eol x : List Nat) : List Nat :=
  if x = [] then [] else if x.getLast? ≠ some 13 ∧ x.getLast? ≠ some 10 ∧ endsL (decRaw eol x) eol = true then sl (decRaw eol x) none (some (-(eol.length : Int))) else decRaw eol x
end Mine
namespace Mine
theorem kind_of {C : Cx} {ns : List (Str × NameKind)} {x : Str} {k : NameKind} (h : C.env.scope.names = ns) (e : ns.lookup x = some k) : C.env.kindOf x = some k := by
  unfold Env.kindOf; rw [h]; exact e
end Mine
end

section
namespace Mine
theorem lineGo_nil (eol : List Nat) : lineGo eol [] = [] := by unfold lineGo; rfl
theorem lineGo_ne {eol r : List Nat} {c : Nat} (h : c ≠ 61) : lineGo eol (c :: r) = c :: (if r = [] then eol else lineGo eol r) := by
  conv => lhs; unfold lineGo
  simp only [h, ne_eq, not_false_eq_true, if_true]
theorem lineGo_soft (eol : List Nat) : lineGo eol [61] = [] := by unfold lineGo; simp
theorem lineGo_esc {eol r : List Nat} {a b : Nat} (ha : a ∈ hexL) (hb : b ∈ hexL) : lineGo eol (61 :: a :: b :: r) = (hv a * 16 + hv b) :: (if r = [] then eol else lineGo eol r) := by
  conv => lhs; unfold lineGo
  simp [ha, hb]
theorem lineGo_lit1 {eol : List Nat} {a : Nat} : lineGo eol (61 :: [a]) = 61 :: lineGo eol [a] := by
  conv => lhs; unfold lineGo
  simp
theorem lineGo_lit2 {eol r : List Nat} {a b : Nat} (h : ¬ (a ∈ hexL ∧ b ∈ hexL)) : lineGo eol (61 :: a :: b :: r) = 61 :: lineGo eol (a :: b :: r) := by
  conv => lhs; unfold lineGo
  simp [h]
theorem lineGo_len (eol : List Nat) : ∀ (n : Nat) (l : List Nat), l.length ≤ n → (lineGo eol l).length ≤ l.length + eol.length
  | 0, l, h => by
    have : l = [] := List.length_eq_zero_iff.mp (by omega)
    subst this; simp [lineGo]
  | n + 1, [], h => by simp [lineGo]
  | n + 1, c :: r, h => by
    have ih := lineGo_len eol n
    unfold lineGo
    simp only [List.length_cons] at h ⊢
    split
    · split
      · simp; omega
      · have := ih r (by omega); simp; omega
    · cases r with
      | nil => simp
      | cons a r =>
        cases r with
        | nil => have := ih [a] (by simp at h ⊢; omega); simp at this ⊢; omega
        | cons b r =>
          simp only [List.length_cons] at h ⊢
          split
          · split
            · simp; omega
            · have := ih r (by omega); simp; omega
          · have := ih (a :: b :: r) (by simp; omega); simp at this ⊢; omega
theorem rstripL_len (l : List Nat) : (rstripL l).length ≤ l.length := by
  unfold rstripL
  rw [List.length_reverse]
  have := (List.dropWhile_sublist (p := Unicode.isSpace) (l := l.reverse)).length_le
  simpa using this
theorem lineF_len (eol l : List Nat) : (lineF eol l).length ≤ l.length + eol.length := by
  unfold lineF
  split
  · omega
  · have := lineGo_len eol _ (rstripL l) (Nat.le_refl _)
    have := rstripL_len l
    omega
theorem linesGo_sum : ∀ (r cur : List Nat) (cr : Bool), ((linesGo cur cr r).map List.length).sum ≤ cur.length + r.length
  | [], cur, cr => by simp only [linesGo]; split <;> simp
  | c :: r, cur, cr => by
    simp only [linesGo]
    split
    · have := linesGo_sum r cur false; simp; omega
    · split
      · have := linesGo_sum r [] (decide (c = 13)); simp at this ⊢; omega
      · have := linesGo_sum r (cur ++ [c]) false; simp at this ⊢; omega
theorem take_flat_len {α : Type} (ls : List (List α)) (k : Nat) : ((ls.take k).flatten).length ≤ ls.flatten.length := by
  conv => rhs; rw [← List.take_append_drop k ls]
  rw [List.flatten_append, List.length_append]; omega
theorem decRaw_len (eol x : List Nat) : (decRaw eol x).length ≤ (x.length + 1) * (eol.length + 1) := by
  have h : ∀ ls : List (List Nat), ((ls.map (lineF eol)).flatten).length ≤ (ls.map List.length).sum + ls.length * eol.length := by
    intro ls
    induction ls with
    | nil => simp
    | cons a r ih =>
      have := lineF_len eol a
      simp only [List.map_cons, List.flatten_cons, List.length_append, List.sum_cons, List.length_cons, Nat.add_mul, Nat.one_mul]
      omega
  have h1 := h (linesL x)
  have h2 : ((linesL x).map List.length).sum ≤ x.length := by have := linesGo_sum x [] false; simpa [linesL] using this
  have h3 := linesL_len x
  have h4 : (linesL x).length * eol.length ≤ (x.length + 1) * eol.length := Nat.mul_le_mul_right _ h3
  unfold decRaw
  rw [Nat.mul_add]
  omega
theorem line_len (x : List Nat) {k : Nat} {line : List Nat} (h : (linesL x)[k]? = some line) : line.length ≤ x.length := by
  have h2 : ((linesL x).map List.length).sum ≤ x.length := by have := linesGo_sum x [] false; simpa [linesL] using this
  have : ∀ (ls : List (List Nat)) (k : Nat), ls[k]? = some line → line.length ≤ (ls.map List.length).sum := by
    intro ls
    induction ls with
    | nil => intro k h; simp at h
    | cons a r ih =>
      intro k h
      cases k with
      | zero => simp at h; subst h; simp
      | succ k => simp at h; have := ih k h; simp; omega
  have := this _ _ h
  omega
theorem raw_step (eol x : List Nat) {k : Nat} {line : List Nat} (h : (linesL x)[k]? = some line) :
    (((linesL x).take (k + 1)).map (lineF eol)).flatten = (((linesL x).take k).map (lineF eol)).flatten ++ lineF eol line := by
  rw [List.take_add_one, h]; simp
theorem raw_le (eol x : List Nat) (k : Nat) : ((((linesL x).take k).map (lineF eol)).flatten).length ≤ (x.length + 1) * (eol.length + 1) := by
  refine Nat.le_trans ?_ (decRaw_len eol x)
  unfold decRaw
  rw [List.map_take]
  exact take_flat_len _ _
theorem idx_nat {α : Type} (l : List α) (i : Nat) (h : i < l.length) : idx l (i : Int) = some l[i] := by
  unfold idx seqIndex?
  have h1 : ¬ ((i : Int) < 0) := by omega
  simp [h1, h]
theorem idx_last {α : Type} (l : List α) (h : l ≠ []) : idx l (-1) = some (l.getLast h) := by
  have hl : 0 < l.length := List.length_pos_iff.mpr h
  unfold idx seqIndex?
  have h1 : (0 : Int) ≤ -1 + l.length := by omega
  have h2 : (-1 + (l.length : Int)) < l.length := by omega
  have h3 : (-1 + (l.length : Int)).toNat = l.length - 1 := by omega
  simp [h1, h2, h3, List.getLast_eq_getElem]
theorem sl_mid {α : Type} (l : List α) (i j : Nat) (h1 : i ≤ j) (h2 : j ≤ l.length) : sl l (some (i : Int)) (some (j : Int)) = (l.drop i).take (j - i) := by
  unfold sl
  simp only [Option.elim, clipAt_nat]
  have e1 : min i l.length = i := by omega
  have e2 : min j l.length = j := by omega
  simp only [e1, e2]
end Mine
namespace Mine
theorem Pb.mono {C : Cx} {ρ : Loc} {ω : Own} {op : BoolOp} {es : List Expr} {K K' : Bool → Prop} (x : Pb C ρ ω op es K) (h : ∀ d, K d → K' d) : Pb C ρ ω op es K' :=
  .mk fun s hs => wpAny_mono (x.run s hs) (fun _ _ g => ⟨g.1, h _ g.2⟩) fun _ _ e => e
theorem is_lit {Z : Addr → Prop} {h : Heap} {s : Str} {t : Tok} {l : List Nat} (e : s.cps.toList = l) : Is Z h (.str s t) (.str l) := by
  have : s = mkS l := by obtain ⟨a⟩ := s; subst e; simp [mkS]
  rw [this]; exact .str
end Mine
end

section
namespace Mine
def closL (cells : List (Str × Addr)) : List (Str × NameKind) → List (Str × Addr) → Option (List (Str × Addr))
  | [], acc => some acc
  | (n, k) :: r, acc => if k == .free then (match cells.lookup n with | some a => closL cells r ((n, a) :: acc) | none => none) else closL cells r acc
theorem closureFor_L {scope : Scope} {env : Env} {cl : List (Str × Addr)} (h : closL env.cells scope.names [] = some cl) : closureFor scope env = pure cl := by
  unfold closureFor
  have key : ∀ (names : List (Str × NameKind)) (acc cl : List (Str × Addr)), closL env.cells names acc = some cl →
      (forIn names acc fun (x : Str × NameKind) (cs : List (Str × Addr)) => if (x.2 == .free) = true then (do let a ← cellOf env x.1; pure (ForInStep.yield ((x.1, a) :: cs))) else pure (ForInStep.yield cs) : Sem _) = pure cl := by
    intro names
    induction names with
    | nil => intro acc cl h; cases h; rfl
    | cons p r ih =>
      obtain ⟨n, k⟩ := p
      intro acc cl h
      rw [List.forIn_cons]
      simp only [closL] at h
      by_cases hk : (k == NameKind.free) = true
      · rw [if_pos hk] at h
        simp only [hk, if_true]
        cases hl : env.cells.lookup n with
        | none => rw [hl] at h; cases h
        | some a =>
          rw [hl] at h
          have e : cellOf env n = pure a := by unfold cellOf; rw [hl]
          rw [e]
          exact ih _ _ h
      · rw [if_neg hk] at h
        simp only [hk, Bool.false_eq_true, if_false]
        exact ih _ _ h
  have k := key _ _ _ h
  show (forIn scope.names [] _ >>= fun cs => pure cs : Sem _) = pure cl
  refine Eq.trans (congrArg (fun t : Sem (List (Str × Addr)) => t >>= fun cs => pure cs) k) ?_
  rfl
theorem relabel_local {scope : Scope} {env : Env} {y : Str} (h : (relabel scope env).names.lookup y = some .local) : scope.names.lookup y = some .local := by
  unfold relabel at h
  dsimp only at h
  generalize scope.names = ns at h
  induction ns with
  | nil => cases h
  | cons p r ih =>
    obtain ⟨n, k⟩ := p
    simp only [List.map_cons] at h
    split at h
    · rename_i q
      rw [List.lookup_cons] at h ⊢
      cases hb : y == n with
      | true => rw [hb] at h; cases h
      | false => rw [hb] at h; exact ih h
    · rw [List.lookup_cons] at h ⊢
      cases hb : y == n with
      | true => rw [hb] at h; exact h
      | false => rw [hb] at h; exact ih h
theorem compOk_of {C : Cx} {scope : Scope} {cl : List (Str × Addr)} {x : Str} (h1 : closL C.env.cells scope.names [] = some cl) (h2 : ∀ y ∈ scope.names, y.2 ≠ .cell) (h3 : scope.kind = .function)
    (h4 : ∀ y ∈ scope.names, y.2 = .local → scope.names.lookup y.1 = some .local) (h5 : scope.names.lookup x = some .local)
    (hs : ∀ p ∈ cl, C.env.cells.lookup p.1 = some p.2 ∧ (C.env.kindOf p.1 = some .cell ∨ C.env.kindOf p.1 = some .free)) (hc : ∀ p ∈ cl, scope.names.lookup p.1 ≠ some .local) : CompOk C scope cl x :=
  ⟨closureFor_L h1, h2, h3, h4, h5, fun y c h => hs (y, c) (PySem.mem_of_lookup h), fun y c h e => hc (y, c) (PySem.mem_of_lookup h) (relabel_local e)⟩

theorem strs_are {Z : Addr → Prop} {h : Heap} : ∀ {vs : List Value} {parts : List (List Nat)}, IsAll Z h vs (parts.map .str) → StrsAre vs (parts.map mkS)
  | _, [], x => by cases x; exact .nil
  | _, p :: r, x => by
    cases x with
    | cons a b => cases a; exact .cons _ _ (strs_are b)
theorem doc_join {C : Cx} {K : D → Prop} {sep : List Nat} {parts : List (List Nat)} (hl : (parts.map List.length).sum + parts.length * sep.length ≤ lim) (h : K (.str (joinL sep parts))) :
    DoC C (.builtin "str.join") [.str sep, .list (parts.map .str)] K := .mk fun s vs U i => by
  cases i with | cons i j => cases j with | cons j k => cases k; cases i; cases j with
    | list hz hl' hi =>
      refine wpAny_free (join_list hl' (by simpa using strs_are hi) ?_ ?_)
      · have : ((parts.map mkS).map (·.length)).sum = (parts.map List.length).sum := by
          rw [List.map_map]; congr 1
        rw [this, List.length_map, mkS_length]; simpa [lim] using hl
      · intro t' k htk
        exact ⟨Kp.tok _ _ htk, _, by rw [join_eq]; exact .str, h⟩
end Mine
namespace Mine
end Mine
end

section
namespace Mine
theorem get_cons_same {r : Loc} {x : Str} {d : D} : get ((x, d) :: r) x = some d := by simp only [get, if_true]
theorem get_cons_ne {r : Loc} {x y : Str} {d : D} {o : Option D} (h : (y == x) = false) (e : get r y = o) : get ((x, d) :: r) y = o := by
  simp only [get]; rw [if_neg (by simpa using h)]; exact e
end Mine
end

section
namespace Mine
/-- own lists change -/
def setO : Own → Addr → List D → Own
  | [], _, _ => []
  | (b, ds) :: r, a, es => if a = b then (b, es) :: r else (b, ds) :: setO r a es
theorem setO_keys (ω : Own) (a : Addr) (es : List D) : (setO ω a es).map (·.1) = ω.map (·.1) := by
  induction ω with
  | nil => rfl
  | cons p r ih =>
    obtain ⟨b, ds⟩ := p
    simp only [setO]; split
    · rfl
    · simp only [List.map_cons, ih]
theorem setO_mem {ω : Own} {a : Addr} {es : List D} (nd : (ω.map (·.1)).Nodup) {p : Addr × List D} (h : p ∈ setO ω a es) : p = (a, es) ∨ (p ∈ ω ∧ p.1 ≠ a) := by
  induction ω with
  | nil => cases h
  | cons q r ih =>
    obtain ⟨b, ds⟩ := q
    simp only [List.map_cons, List.nodup_cons] at nd
    simp only [setO] at h
    split at h
    · rename_i e
      rcases List.mem_cons.mp h with h | h
      · exact .inl (by rw [h, e])
      · refine .inr ⟨.tail _ h, fun q => nd.1 ?_⟩
        rw [← e, ← q]; exact List.mem_map.mpr ⟨p, h, rfl⟩
    · rename_i e
      rcases List.mem_cons.mp h with h | h
      · exact .inr ⟨h ▸ .head _, by rw [h]; exact Ne.symm e⟩
      · rcases ih nd.2 h with h | h
        · exact .inl h
        · exact .inr ⟨.tail _ h.1, h.2⟩
section
variable {C : Cx} {Zo : Addr → Prop} {ρ : Loc} {ω : Own} {l : Nat} {K : Fl → Loc → Own → Prop}
theorem Z_setO (a : Addr) (es : List D) : C.Z Zo (setO ω a es) = C.Z Zo ω := by
  funext b; simp only [Cx.Z, Cx.Mu, setO_keys]
theorem own_change {s : Shared} {a : Addr} {es : List D} {vs : List Value} {h' : Heap} {tk : Nat} (hs : Sta C Zo ρ ω s) (ha : a ∈ ω.map (·.1)) (hl : h'.PlainList a vs.toArray) (hsame : Heap.SameBut a s.heap h')
    (hi : IsAll (C.Z Zo ω) s.heap vs es) (htk : s.toks ≤ tk := by first | exact Nat.le_refl _ | exact Nat.le_succ _ | assumption) : Sta C Zo ρ (setO ω a es) { s with heap := h', toks := tk } ∧ Step C ω (setO ω a es) s { s with heap := h', toks := tk } := by
  have mv : ∀ b o, ¬ C.Z Zo ω b → s.heap.get? b = some o → ¬ C.Z Zo ω b ∧ h'.get? b = some o := fun b o hz e => ⟨hz, (hsame.2 b fun q => hz (q ▸ mu_own ha)).trans e⟩
  obtain ⟨p, hp, hpa⟩ := List.mem_map.mp ha
  refine ⟨⟨fun b o e => ?_, ?_, ?_, fun y dy hy hk => ?_, fun y c hy => ?_, hs.inj, fun q hq => ?_, by rw [setO_keys]; exact hs.nodup, by rw [setO_keys]; exact hs.apart, fun b hb => ?_, Nat.lt_of_lt_of_le hs.tok htk⟩, ⟨⟨h', tk, rfl, htk⟩, fun b o hb e => ?_, fun b o e => ?_, fun b hb => .inl (by rw [setO_keys] at hb; exact hb)⟩⟩
  · refine (hsame.2 b fun q => ?_).trans (hs.base b o e)
    have := hs.new b (q ▸ mu_own ha); rw [this] at e; cases e
  · rw [Z_setO]; exact hs.new
  · obtain ⟨m, hn, hm⟩ := hs.ns
    refine ⟨m, hn.sameBut hsame (fun q => own_not_loc hs hp (by rw [hpa, q])), fun y dy hy hk => ?_⟩
    obtain ⟨u, h1, h2⟩ := hm y dy hy hk
    exact ⟨u, h1, by rw [Z_setO]; exact h2.move mv⟩
  · obtain ⟨c, u, h1, h2, h3⟩ := hs.cell y dy hy hk
    exact ⟨c, u, h1, h2.sameBut hsame (fun q => own_not_cell hs hp h1 (by rw [hpa, q])), by rw [Z_setO]; exact h3.move mv⟩
  · obtain ⟨u, h2⟩ := hs.cells y c hy
    exact ⟨u, h2.sameBut hsame (fun q => own_not_cell hs hp hy (by rw [hpa, q]))⟩
  · rw [Z_setO]
    rcases setO_mem hs.nodup hq with rfl | ⟨h1, h2⟩
    · exact ⟨vs, hl, hi.move mv⟩
    · obtain ⟨ws, h3, h4⟩ := hs.own q h1
      exact ⟨ws, h3.at fun o e => (hsame.2 _ h2).trans e, h4.move mv⟩
  · obtain ⟨o, ho⟩ := hs.zo b hb
    by_cases q : b = a
    · obtain ⟨n, e⟩ := hl; exact ⟨_, q ▸ e⟩
    · exact ⟨o, (hsame.2 b q).trans ho⟩
  · exact (hsame.2 b fun q => hb (.inr (.inr (q ▸ ha)))).trans e
  · by_cases q : b = a
    · obtain ⟨n, e⟩ := hl; exact ⟨_, q ▸ e⟩
    · exact ⟨o, (hsame.2 b q).trans e⟩

/-- a list is appended to -/
theorem ex_append {o e : Expr} {apos pos p2 : Pos} 
    (h : Pe C ρ ω o (fun d => ∃ a ds, d = .val (.ref a) ∧ getO ω a = some ds ∧ ds.length ≤ lim ∧ Pe C ρ ω e (fun d => K .next ρ (setO ω a (ds ++ [d])))))
    (hbase : attributeBase o (Str.ofString "append") C.env (eval o C.env) = eval o C.env)
    (hfew : ((backTo pos (starEach [e] C.env)).all (fun x => !x.1) && (backToKw pos (keywordEach [] C.env)).all (fun x => x.1.isSome)
      && decide (([e] : List Expr).length + ([] : List Keyword).length + (if ([] : List Keyword).isEmpty then 0 else 1) < 30)) = true)
    (hline : (apos.endLine == pos.line) = true)
    (he : starEach [e] C.env = (false, eval e C.env) :: starEach [] C.env) (hplain : (backTo pos (starEach [] C.env)).any (·.1) = false)
    (hint : interactive C.env = false) (hsw : swapsWith (.Call (.Attribute o (Str.ofString "append") apos) [e] [] pos) none p2.line C.env = pure false) :
    Ex C ρ ω (.Expr (.Call (.Attribute o (Str.ofString "append") apos) [e] [] pos) p2) K := .mk fun {Zo} s hs => by
  refine wpAny_Expr_any ?_ hint hsw
  refine wpAny_Call_method_lateS hbase hfew hline (wpAny_mono (h.run s hs) (fun ov s₁ x => ?_) fun _ _ e => e)
  obtain ⟨k1, d, i1, a, ds, rfl, hg, hlen, h1⟩ := x
  cases i1
  have hs1 := hs.keeps k1
  obtain ⟨vs, hl, hi⟩ := hs1.own _ (getO_mem hg)
  have ho := hl
  obtain ⟨n, ho⟩ := ho
  refine ⟨"list", _, F.plainAttrs_list, F.slot_list_append, F.type_list_append, hl.isList.typeIs, (fun b e => by cases e; exact ⟨_, ho, rfl⟩), ?_⟩
  refine callWith_method1 (first := [.ref a]) (wpAny_mono ((pl_cons (h1.mono fun d hd => pl_nil ⟨d, rfl, hd⟩) he : Pl C ρ ω [e] (fun dd => ∃ d, dd = [d] ∧ K .next ρ (setO ω a (ds ++ [d])))).run s₁ pos hs1) (fun ws s₂ ⟨k2, dd, i2, d, ed, hK⟩ => ?_) fun _ _ e => e) he hplain
  subst ed
  have hs2 := hs1.keeps k2
  obtain ⟨vs, hl, hi⟩ := hs2.own _ (getO_mem hg)
  cases i2 with
  | cons i2 j2 =>
    cases j2
    refine wpAny_list_append_plain hl (fun h' hl' hsame => ?_) (by rw [List.size_toArray, hi.length]; exact lim_le hlen)
    obtain ⟨hs3, st⟩ := own_change (tk := s₂.toks) (es := ds ++ [d]) (vs := vs ++ [_]) hs2 (List.mem_map.mpr ⟨_, getO_mem hg, rfl⟩) (by simpa using hl') hsame (hi.append (.one i2))
    exact ⟨.next, ρ, _, trivial, hs3, ((k1.trans k2).step).trans st, hK⟩

end
end Mine
end

section
namespace Mine
section
variable {C : Cx} {Zo : Addr → Prop} {ρ : Loc} {ω : Own} {l : Nat} {K : Fl → Loc → Own → Prop}
theorem own_new {s : Shared} {ds : List D} {vs : List Value} (hs : Sta C Zo ρ ω s) (hi : IsAll (C.Z Zo ω) s.heap vs ds) :
    Sta C Zo ρ ((s.heap.objs.size, ds) :: ω) { s with heap := s.heap.push { cls := .type "list", data := .seq vs.toArray } } ∧
    Step C ω ((s.heap.objs.size, ds) :: ω) s { s with heap := s.heap.push { cls := .type "list", data := .seq vs.toArray } } := by
  have hfree : ∀ o, s.heap.get? s.heap.objs.size ≠ some o := fun o e => Nat.lt_irrefl _ (Heap.lt_size e)
  have hnone : s.heap.get? s.heap.objs.size = none := by
    cases e : s.heap.get? s.heap.objs.size with
    | none => rfl
    | some o => exact (hfree o e).elim
  have hZ : ∀ b, C.Z Zo ((s.heap.objs.size, ds) :: ω) b → b = s.heap.objs.size ∨ C.Z Zo ω b := by
    rintro b (h | h | h | h)
    · exact .inr (.inl h)
    · exact .inr (.inr (.inl h))
    · exact .inr (.inr (.inr (.inl h)))
    · rcases List.mem_cons.mp h with h | h
      · exact .inl h
      · exact .inr (.inr (.inr (.inr h)))
  have mv : ∀ b o, ¬ C.Z Zo ω b → s.heap.get? b = some o → ¬ C.Z Zo ((s.heap.objs.size, ds) :: ω) b ∧ (s.heap.push { cls := .type "list", data := .seq vs.toArray }).get? b = some o := fun b o hz e =>
    ⟨fun q => (hZ b q).elim (fun q => hfree o (q ▸ e)) hz, Heap.get?_push_of_some _ e⟩
  have hk : ∀ b o, s.heap.get? b = some o → (s.heap.push { cls := .type "list", data := .seq vs.toArray }).get? b = some o := fun b o e => Heap.get?_push_of_some _ e
  have hap : ∀ a ∈ ((s.heap.objs.size, ds) :: ω).map (·.1), ¬ Zo a := by
    intro a ha h
    rcases List.mem_cons.mp ha with e | e
    · obtain ⟨o, ho⟩ := hs.zo a h
      subst e
      exact hfree o ho
    · exact hs.apart a e h
  refine ⟨⟨fun b o e => hk b o (hs.base b o e), fun b hb => ?_, ?_, fun y dy hy hl => ?_, fun y c hy => ?_, hs.inj, fun p hp => ?_, ?_, hap, fun b hb => ?_, hs.tok⟩, ⟨⟨_, _, rfl, Nat.le_refl _⟩, fun b o _ e => hk b o e, fun b o e => ⟨o, hk b o e⟩, fun b hb => ?_⟩⟩
  · rcases hZ b hb with h | h
    · subst h
      cases e : C.h₀.get? s.heap.objs.size with
      | none => rfl
      | some o => exact (hfree o (hs.base _ o e)).elim
    · exact hs.new b h
  · obtain ⟨m, hn, hm⟩ := hs.ns
    exact ⟨m, hn.keeps hk, fun y d hy hl => let ⟨v, h1, h2⟩ := hm y d hy hl; ⟨v, h1, h2.move mv⟩⟩
  · obtain ⟨c, v, h1, ⟨o, h2, h2'⟩, h3⟩ := hs.cell y dy hy hl
    exact ⟨c, v, h1, ⟨o, hk _ _ h2, h2'⟩, h3.move mv⟩
  · obtain ⟨v, o, h2, h2'⟩ := hs.cells y c hy
    exact ⟨v, o, hk _ _ h2, h2'⟩
  · rcases List.mem_cons.mp hp with rfl | hp
    · exact ⟨vs, ⟨0, Heap.get?_push_size _ rfl⟩, hi.move mv⟩
    · obtain ⟨ws, h1, h2⟩ := hs.own p hp
      exact ⟨ws, h1.at fun o e => hk _ _ e, h2.move mv⟩
  · simp only [List.map_cons, List.nodup_cons]
    refine ⟨fun q => ?_, hs.nodup⟩
    obtain ⟨o, ho⟩ := hs.live _ (mu_own (Zo := Zo) q)
    exact hfree o ho
  · obtain ⟨o, ho⟩ := hs.zo b hb; exact ⟨o, hk _ _ ho⟩
  · rcases List.mem_cons.mp hb with h | h
    · exact .inr (h ▸ hnone)
    · exact .inl h

/-- a new list of one's own -/
theorem ex_new {x : Str} {px pos p : Pos} {es : List Expr} (ok : C.Ok l) (hk : Stor C x) (h : Pl C ρ ω es (fun ds => ds.length ≤ lim ∧ ∀ a, a ∉ ω.map (·.1) → K .next (put ρ x (.val (.ref a))) ((a, ds) :: ω)))
    (hsw : swapsWith (.List es p) (some (.Name x px)) pos.line C.env = pure false) : Ex C ρ ω (.Assign [.Name x px] (.List es p) pos) K := .mk fun {Zo} s hs => by
  refine wpAny_Assign_Name ?_ hsw
  refine wpAny_List (wpAny_mono (h.run s p hs) (fun vs s₁ ⟨k1, ds, i1, hlen, h1⟩ => ⟨lim_le (by rw [i1.length]; exact hlen), ?_⟩) fun _ _ e => e)
  have hs1 := hs.keeps k1
  obtain ⟨hs2, st⟩ := own_new hs1 i1
  refine wpAny_mono (store_doc ok hs2 (.val (v := .ref s₁.heap.objs.size)) hk) (fun _ s₃ ⟨hs3, st3⟩ => ?_) fun _ _ e => e
  refine ⟨.next, _, _, trivial, hs3, ((k1.step).trans st).trans st3, h1 _ fun q => ?_⟩
  obtain ⟨o, ho⟩ := hs1.live _ (mu_own (Zo := Zo) q)
  exact Nat.lt_irrefl _ (Heap.lt_size ho)
end
end Mine
end

section
namespace Mine
section
variable {C : Cx} {Zo : Addr → Prop} {ρ : Loc} {ω : Own} {l : Nat} {K : D → Prop} {a b c n : Int}
theorem doc_range1 (h : K (.rng 0 n 1)) : DoC C (.type "range") [.int n] K := .mk fun s vs U i => by
  cases i with | cons i j => cases j; cases i; exact call_range_1 ⟨Kp.push_tok _ _ _, _, .rng U.live.new (IsRange.new _ _ _ _ _ _ _), h⟩
theorem doc_range2 (h : K (.rng a b 1)) : DoC C (.type "range") [.int a, .int b] K := .mk fun s vs U i => by
  cases i with | cons i j => cases j with | cons j k => cases k; cases i; cases j; exact call_range_2 ⟨Kp.push_tok _ _ _, _, .rng U.live.new (IsRange.new _ _ _ _ _ _ _), h⟩
theorem doc_len_list {ds : List D} (hl : ds.length ≤ lim) (h : K (.int ds.length)) : DoC C (.builtin "len") [.list ds] K := .mk fun s vs U i => by
  cases i with
  | cons i j =>
    cases j
    cases i with
    | list hz hl' hi =>
      refine len_list hl' ?_ ?_
      · rw [List.size_toArray, hi.length]; simp only [lim] at hl; omega
      · refine ⟨Kp.tok _ _, _, .int, ?_⟩
        rw [List.size_toArray, hi.length]; exact h
/-- a figure written small -/
def lc (c : Nat) : Nat := if 65 ≤ c ∧ c ≤ 70 then c + 32 else c
theorem lower_hex : ∀ c ∈ hexL, (Txt.lower (mkS [c])).cps.toList = [lc c] := by decide +kernel
theorem doc_lower_hex {x : Nat} (hx : x ∈ hexL) (h : K (.str [lc x])) : DoC C (.builtin "str.lower") [.str [x]] K := .mk fun s vs U i => by
  cases i with
  | cons i j =>
    cases j; cases i
    refine wpAny_free (SCL.lower (by simp [Str.length]) fun _ htk => ⟨Kp.tok _ _ htk, _, is_lit (lower_hex x hx), h⟩)
def figL : List Nat := [48, 49, 50, 51, 52, 53, 54, 55, 56, 57, 97, 98, 99, 100, 101, 102]
theorem index_hex : ∀ c ∈ hexL, (Builtin.Str.occurrences (mkS figL) (mkS [lc c]) 0 (mkS figL).length 1).head? = some (hv c) := by decide +kernel
theorem doc_index_hex {x : Nat} (hx : x ∈ hexL) (h : K (.int (hv x))) : DoC C (.builtin "str.index") [.str figL, .str [lc x]] K := .mk fun s vs U i => by
  cases i with
  | cons i j => cases j with
    | cons j k =>
      cases k; cases i; cases j
      have := index_hex x hx
      cases e : Builtin.Str.occurrences (mkS figL) (mkS [lc x]) 0 (mkS figL).length 1 with
      | nil => rw [e] at this; cases this
      | cons a r => rw [e] at this; cases this; exact SC.index e ⟨Kp.tok _ _, _, .int, h⟩

end
section
variable {C : Cx} {Zo : Addr → Prop} {ρ : Loc} {ω : Own} {l : Nat} {K : D → Prop}
end
end Mine
end

section
namespace Mine
/-- kinds of names within a comprehension -/
structure KC (C C2 : Cx) (scope : Scope) : Prop where
  same : ∀ {x : Str} {k : NameKind}, scope.names.lookup x = some k → k ≠ .free → C2.env.kindOf x = some k
  cell : ∀ {x : Str}, scope.names.lookup x = some .free → C.env.kindOf x = some .cell → C2.env.kindOf x = some .cell
theorem relabel_same {env : Env} : ∀ {names : List (Str × NameKind)} {x : Str} {k : NameKind}, names.lookup x = some k → k ≠ .free →
    (names.map fun (n, k) => if (k == NameKind.free && env.scope.kind == .function && env.kindOf n == some .cell) then (n, NameKind.cell) else (n, k)).lookup x = some k
  | [], _, _, h, _ => by simp at h
  | (n, k) :: r, x, k', h, hk => by
    have ih := @relabel_same env r x k'
    show List.lookup x ((if (k == NameKind.free && env.scope.kind == .function && env.kindOf n == some .cell) = true then (n, NameKind.cell) else (n, k)) :: _) = _
    cases hx : x == n with
    | true =>
      simp only [List.lookup_cons, hx] at h
      cases h
      have : (k == NameKind.free) = false := by cases k <;> first | rfl | exact absurd rfl hk
      simp [List.lookup_cons, hx, this]
    | false =>
      simp only [List.lookup_cons, hx] at h
      split
      · simp only [List.lookup_cons, hx]; exact ih h hk
      · simp only [List.lookup_cons, hx]; exact ih h hk
theorem relabel_cell {env : Env} (hf : env.scope.kind = .function) : ∀ {names : List (Str × NameKind)} {x : Str}, env.kindOf x = some .cell → names.lookup x = some .free →
    (names.map fun (n, k) => if (k == NameKind.free && env.scope.kind == .function && env.kindOf n == some .cell) then (n, NameKind.cell) else (n, k)).lookup x = some .cell
  | [], _, _, h => by simp at h
  | (n, k) :: r, x, he, h => by
    have ih := @relabel_cell env hf r x he
    show List.lookup x ((if (k == NameKind.free && env.scope.kind == .function && env.kindOf n == some .cell) = true then (n, NameKind.cell) else (n, k)) :: _) = _
    cases hx : x == n with
    | true =>
      simp only [List.lookup_cons, hx] at h
      cases h
      have : x = n := by simpa using hx
      subst this
      rw [if_pos (by rw [hf, he]; rfl)]
      simp [List.lookup_cons]
    | false =>
      simp only [List.lookup_cons, hx] at h
      split
      · simp only [List.lookup_cons, hx]; exact ih h
      · simp only [List.lookup_cons, hx]; exact ih h
theorem Cx.Ok.comp {C : Cx} {l : Nat} (ok : C.Ok l) {scope : Scope} {cl : List (Str × Addr)} {n : Addr} (h : scope.kind = .function) : (C.comp scope cl n).Ok l :=
  ⟨ok.room, h, ok.gl, ok.bl, ok.g, ok.b, ok.nolimit⟩
theorem kc_of {C : Cx} {l : Nat} (ok : C.Ok l) (scope : Scope) (cl : List (Str × Addr)) (n : Addr) : KC C (C.comp scope cl n) scope :=
  ⟨fun h hk => relabel_same h hk, fun h hc => relabel_cell ok.kind hc h⟩
/-- within a comprehension -/
theorem in_pi {C : Cx} {l : Nat} {ρ : Loc} {ω : Own} {ifs : List Expr} {e : Expr} {K : Option D → Prop} {scope : Scope} {cl : List (Str × Addr)} {n : Addr} (ok : C.Ok l) (hk : scope.kind = .function)
    (h : ∀ C2, C2.Ok l → Kin C C2 → KC C C2 scope → Pi C2 ρ ω ifs e K) : Pi (C.comp scope cl n) ρ ω ifs e K :=
  h _ (ok.comp hk) ⟨rfl, rfl, rfl, rfl, rfl⟩ (kc_of ok _ _ _)
/-- a comprehension without captured names -/
theorem compOk0 {C : Cx} {scope : Scope} {x : Str} (h1 : closL C.env.cells scope.names [] = some []) (h2 : (scope.names.all fun y => y.2 != .cell) = true) (h3 : scope.kind = .function)
    (h4 : (scope.names.all fun y => y.2 != .local || scope.names.lookup y.1 == some .local) = true) (h5 : scope.names.lookup x = some .local) : CompOk C scope [] x :=
  compOk_of h1 (fun y hy => by have := List.all_eq_true.mp h2 y hy; simpa using this) h3 (fun y hy e => by have := List.all_eq_true.mp h4 y hy; simpa [e] using this) h5 (fun p hp => by cases hp) (fun p hp => by cases hp)
theorem compOk1 {C : Cx} {scope : Scope} {x y : Str} {a : Addr} (h1 : closL C.env.cells scope.names [] = some [(y, a)]) (h2 : (scope.names.all fun y => y.2 != .cell) = true) (h3 : scope.kind = .function)
    (h4 : (scope.names.all fun y => y.2 != .local || scope.names.lookup y.1 == some .local) = true) (h5 : scope.names.lookup x = some .local) (hk : C.env.kindOf y = some .cell) (hl : C.env.cells.lookup y = some a) (hn : scope.names.lookup y = some .free) : CompOk C scope [(y, a)] x :=
  compOk_of h1 (fun y hy => by have := List.all_eq_true.mp h2 y hy; simpa using this) h3 (fun y hy e => by have := List.all_eq_true.mp h4 y hy; simpa [e] using this) h5
    (fun p hp => by rw [List.mem_singleton.mp hp]; exact ⟨hl, .inl hk⟩) (fun p hp => by rw [List.mem_singleton.mp hp, hn]; intro e; cases e)
theorem cap_get1 {y : Str} {a : Addr} {ρ : Loc} {r : Option D} (h : get ρ y = r) : get (cap [(y, a)] ρ) y = r := by
  rw [get_cap, if_pos (by simp)]; exact h
theorem get_put_eq {ρ : Loc} {x : Str} {d d' : D} (h : d = d') : get (put ρ x d) x = some d' := h ▸ get_put_same
theorem cells_of {C : Cx} {cs : List (Str × Addr)} {x : Str} (h : C.env.cells = cs) (e : (cs.lookup x).isSome = true) : (C.env.cells.lookup x).isSome = true := by rw [h]; exact e
theorem sl_to {α : Type} (l : List α) (p : Nat) : sl l none (some (p : Int)) = l.take p := by
  unfold sl
  simp only [Option.elim, clipAt_nat, List.drop_zero, Nat.sub_zero]
  rcases Nat.le_total p l.length with h | h
  · rw [Nat.min_eq_left h]
  · rw [Nat.min_eq_right h, List.take_of_length_le (Nat.le_refl _), List.take_of_length_le h]
theorem idx_of {α : Type} {l : List α} {n : Nat} {c : α} (h : l[n]? = some c) : idx l (n : Int) = some c := by
  obtain ⟨hn, e⟩ := List.getElem?_eq_some_iff.mp h
  rw [idx_nat l n hn, e]
end Mine
end

section
namespace Mine
theorem rstrip_split (l : List Nat) : ∃ ws, l = rstripL l ++ ws ∧ (∀ c ∈ ws, Unicode.isSpace c = true) ∧ (rstripL l = [] ∨ ∃ c, (rstripL l).getLast? = some c ∧ Unicode.isSpace c = false) := by
  refine ⟨(l.reverse.takeWhile Unicode.isSpace).reverse, ?_, ?_, ?_⟩
  · unfold rstripL
    rw [← List.reverse_append, List.takeWhile_append_dropWhile, List.reverse_reverse]
  · intro c hc
    have : ∀ (l : List Nat), c ∈ l.takeWhile Unicode.isSpace → Unicode.isSpace c = true := by
      intro l
      induction l with
      | nil => intro h; simp at h
      | cons d l ih =>
        intro h
        rw [List.takeWhile_cons] at h
        split at h
        · rename_i q
          rcases List.mem_cons.mp h with rfl | h
          · exact q
          · exact ih h
        · cases h
    exact this _ (List.mem_reverse.mp hc)
  · unfold rstripL
    cases hd : l.reverse.dropWhile Unicode.isSpace with
    | nil => exact .inl rfl
    | cons c r =>
      refine .inr ⟨c, by simp, ?_⟩
      have := List.head?_dropWhile_not Unicode.isSpace l.reverse
      rw [hd] at this
      simpa using this
theorem rstrip_same {l : List Nat} {c : Nat} (h : l.getLast? = some c) (hc : Unicode.isSpace c = false) : rstripL l = l := by
  unfold rstripL
  cases hr : l.reverse with
  | nil => have : l = [] := by simpa using hr
           subst this; cases h
  | cons d r =>
    have : d = c := by
      have : l.reverse.head? = some c := by rw [List.head?_reverse]; exact h
      rw [hr] at this; simpa using this
    subst this
    rw [List.dropWhile_cons, hc]
    simp only [Bool.false_eq_true, if_false]
    rw [← hr, List.reverse_reverse]
end Mine
end

section
namespace Mine
theorem ite_t {A B : Prop} (h : A) : if true = true then A else B := by simpa using h
theorem ite_f {A B : Prop} (h : B) : if false = true then A else B := by simpa using h
def strConsts : List Expr → Option (List (List Nat))
  | [] => some []
  | .Constant (.str x) _ _ :: r => match strConsts r with | some l => some (x.cps.toList :: l) | none => none
  | _ => none
section
variable {C : Cx} {Zo : Addr → Prop} {ρ : Loc} {ω : Own} {l : Nat} {K : D → Prop}
theorem pl_strs : ∀ {es : List Expr} {parts : List (List Nat)} {K : List D → Prop}, strConsts es = some parts → K (parts.map .str) → Pl C ρ ω es K
  | [], parts, K, h, hk => by cases h; exact pl_nil hk
  | e :: es, parts, K, h, hk => by
    cases e with
    | Constant c k p =>
      cases c with
      | str x =>
        simp only [strConsts] at h
        split at h
        · rename_i q
          cases h
          exact pl_cons (pe_str (pl_strs q hk)) rfl
        · cases h
      | _ => cases h
    | _ => cases h
/-- a display of written texts -/
theorem pe_strs {es : List Expr} {p : Pos} {parts : List (List Nat)} (h : strConsts es = some parts) (hl : parts.length ≤ lim) (hk : K (.list (parts.map .str))) : Pe C ρ ω (.List es p) K :=
  pe_list (pl_strs h ⟨by simpa using hl, hk⟩)
theorem pe_strL {x : Str} {k : Nat} {p : Pos} {l : List Nat} (e : x.cps.toList = l) (h : K (.str l)) : Pe C ρ ω (.Constant (.str x) k p) K := pe_str (e ▸ h)
theorem swaps_comp {elt : Expr} {gens : List Comprehension} {scope : Scope} {pos py : Pos} {y : Str} {L : Nat} (ok : C.Ok l) (hl : C.env.kindOf y = some .local) (hp : (py.line == pos.line) = true)
    (hn : (scope.names.any fun (n, k) => n == y && (k == .local || k == .cell)) = false) : swapsWith (.ListComp elt gens scope pos) (some (.Name y py)) L C.env = pure true := by
  have hb : C.env.blockKind = .function := by unfold Env.blockKind; rw [ok.kind]; rfl
  unfold swapsWith
  dsimp only
  rw [hb, hl, hn]
  have : (Expr.ListComp elt gens scope pos).pos = pos := rfl
  rw [this, hp]
  rfl
theorem inter (ok : C.Ok l) : interactive C.env = false := by
  unfold interactive; rw [ok.kind]; rfl
theorem rng_up (q : Bool) (n : Nat) (hn : n ≤ lim) : IterK q ω (.rng 0 n 1) = some ((List.range n).map fun (k : Nat) => D.int k) := by
  simp only [lim] at hn
  have e : Builtin.Range.rangeSize 0 n 1 = n := by
    unfold Builtin.Range.rangeSize
    rw [if_pos (by decide)]
    by_cases h : (0 : Int) < n
    · rw [if_pos h, Int.ediv_one]; omega
    · rw [if_neg h]; omega
  have hs : Builtin.Range.small 0 n 1 = true := small_one (by omega) (by omega) (by omega) (by omega)
  simp only [IterK, hs, if_true, rngL, e]
  simp
end
end Mine
end

section
namespace Mine
section
variable {C : Cx} {Zo : Addr → Prop} {ρ : Loc} {ω : Own} {l : Nat} {K : D → Prop} {x y : List Nat}
end
end Mine
end

section
namespace Mine
section
variable {C : Cx} {Zo : Addr → Prop} {ρ : Loc} {ω : Own} {l : Nat} {K : D → Prop} {a b : Int}
end
end Mine
end

section
namespace Mine
section
variable {M : Model} {A : Around} {E : Value → Shared → Prop} {s : Shared} {x : List Nat} {a : Addr} {t : Tok} {tr : Nat → List Nat}
end
end Mine
end

section
namespace Mine
section
variable {C : Cx} {ρ : Loc} {ω : Own} {l : Nat} {K : D → Prop} {x : List Nat}
end
end Mine
end

section
namespace Mine
section
variable {C : Cx} {ρ : Loc} {ω : Own} {l : Nat} {K : D → Prop} {x y : List Nat} {a b : Int}
theorem do_add_list {ds es : List D} (hl : ds.length + es.length ≤ lim) (h : K (.list (ds ++ es))) : Do2 C (binaryOp .Add) (.list ds) (.list es) K := .mk fun s v w U i j => by
  cases i with
  | list hz hl1 hi => cases j with
    | list hz' hl2 hj =>
      rename_i l vs b ws
      obtain ⟨⟨cls, dd, data, sl⟩, ho, hc, n, hd⟩ := id hl1
      obtain ⟨⟨cls2, dd2, data2, sl2⟩, ho2, hc2, n2, hd2⟩ := id hl2
      simp only at hc hd hc2 hd2
      subst hc hd hc2 hd2
      have e : vs.toArray ++ ws.toArray = (vs ++ ws).toArray := by simp
      refine concat_meets ⟨_, ho, rfl⟩ ⟨_, ho2, rfl⟩ noFill_list_add seq_list_add PySem.F.slot_list_add PySem.F.entry_list_add (PySem.F.args_list_add_2 _ _) (list_addW l b vs.toArray ws.toArray n n2 dd dd2 sl sl2 (by simp only [List.size_toArray]; rw [hi.length, hj.length]; exact lim_le hl)) ⟨ho, ho2, ?_⟩
      rw [e]
      exact ⟨Kp.push _ _, _, .list U.live.new ⟨_, Heap.get?_push_size _ rfl, rfl, 0, rfl⟩ ((hi.append hj).keeps fun b o e => Heap.get?_push_of_some _ e), h⟩
end
end Mine
end

section
namespace Mine
section
variable {C : Cx} {ρ : Loc} {ω : Own} {l : Nat} {K : D → Prop} {x y : List Nat} {a b : Int}
end
section
variable {prog : Program} {w : World} {A : Around} {E : Value → Shared → Prop} {s : Shared}
end
section
variable {C : Cx} {K : D → Prop}
end
end Mine
end

section
namespace Mine
section
variable {C : Cx} {ρ : Loc} {ω : Own} {l : Nat} {K : D → Prop}
/-- the parts of a laid text -/
structure Pj (C : Cx) (ρ : Loc) (ω : Own) (es : List Expr) (acc : List Nat) (K : List Nat → Prop) : Prop where
  run : ∀ {Zo : Addr → Prop} s, Sta C Zo ρ ω s → Joins C.M C.A NoE (evalEach es C.env) (mkS acc) (fun out s₁ => Kp s s₁ ∧ ∃ o, out = mkS o ∧ K o) s
end
end Mine
end

section
namespace Mine
structure B04 (C : Cx) : Prop where
  X : (hd.heap_39 C.w.params).In C.h₀
  G : Ground0 C
  bl : ∀ x : Str, x ≠ "__name__" → C.mb x = bootBuiltins x
theorem B04.kin {C C' : Cx} (B : B04 C) (k : Kin C C') : B04 C' := ⟨by rw [k.w, k.h₀]; exact B.X, ⟨by rw [k.h₀, k.mg]; exact B.G.g, by rw [k.h₀, k.mb]; exact B.G.b, by rw [k.h₀]; exact B.G.nolimit⟩, by rw [k.mb]; exact B.bl⟩
theorem B04.g__law_after {C : Cx} (B : B04 C) : C.mg (Str.ofString "_law_after") = some (Value.ref 44) := by rw [mg_of B.G.g (B.X 3 _ rfl) rfl]; rfl
theorem B04.g__law_lives {C : Cx} (B : B04 C) : C.mg (Str.ofString "_law_lives") = some (Value.ref 39) := by rw [mg_of B.G.g (B.X 3 _ rfl) rfl]; rfl
theorem B04.g__law_text {C : Cx} (B : B04 C) : C.mg (Str.ofString "_law_text") = some (Value.ref 34) := by rw [mg_of B.G.g (B.X 3 _ rfl) rfl]; rfl
theorem B04.g_decode {C : Cx} (B : B04 C) : C.mg (Str.ofString "decode") = some (Value.ref 29) := by rw [mg_of B.G.g (B.X 3 _ rfl) rfl]; rfl
theorem B04.g_hexdigits {C : Cx} (B : B04 C) : C.mg (Str.ofString "hexdigits") = some (Value.str (Str.ofString "0123456789abcdefABCDEF") 194) := by rw [mg_of B.G.g (B.X 3 _ rfl) rfl]; rfl
theorem B04.g_unquote {C : Cx} (B : B04 C) : C.mg (Str.ofString "unquote") = some (Value.ref 21) := by rw [mg_of B.G.g (B.X 3 _ rfl) rfl]; rfl
theorem B04.g_chr {C : Cx} (B : B04 C) : C.mg (Str.ofString "chr") = none ∧ C.mb (Str.ofString "chr") = some (.builtin "chr") := ⟨by rw [mg_of B.G.g (B.X 3 _ rfl) rfl]; rfl, by rw [B.bl _ (by decide)]; exact boot_chr⟩
theorem B04.g_int {C : Cx} (B : B04 C) : C.mg (Str.ofString "int") = none ∧ C.mb (Str.ofString "int") = some (.type "int") := ⟨by rw [mg_of B.G.g (B.X 3 _ rfl) rfl]; rfl, by rw [B.bl _ (by decide)]; exact boot_int⟩
theorem B04.g_len {C : Cx} (B : B04 C) : C.mg (Str.ofString "len") = none ∧ C.mb (Str.ofString "len") = some (.builtin "len") := ⟨by rw [mg_of B.G.g (B.X 3 _ rfl) rfl]; rfl, by rw [B.bl _ (by decide)]; exact boot_len⟩
theorem B04.g_max {C : Cx} (B : B04 C) : C.mg (Str.ofString "max") = none ∧ C.mb (Str.ofString "max") = some (.builtin "max") := ⟨by rw [mg_of B.G.g (B.X 3 _ rfl) rfl]; rfl, by rw [B.bl _ (by decide)]; exact boot_max⟩
theorem B04.g_range {C : Cx} (B : B04 C) : C.mg (Str.ofString "range") = none ∧ C.mb (Str.ofString "range") = some (.type "range") := ⟨by rw [mg_of B.G.g (B.X 3 _ rfl) rfl]; rfl, by rw [B.bl _ (by decide)]; exact boot_range⟩
end Mine
end

section
namespace Mine
section
variable {prog : Program} {w : World} {A : Around} {E : Value → Shared → Prop} {s : Shared}
theorem mapSeq_plain (f : Array Value → Array Value) (vs : Array Value) (n : Nat) : ∃ n', Obj.mapSeq f { cls := .type "list", data := .seq vs n } = { cls := .type "list", data := .seq (f vs) n' } := ⟨_, rfl⟩
theorem setItem_plain {l : Addr} {items : Array Value} {k : Int} {j : Nat} {t : Tok} {v : Value} {Q : Unit → Shared → Prop} (hl : s.heap.PlainList l items)
    (hj : seqIndex? k items.size = some j) (hsz : items.size ≤ 2 ^ 24)
    (hQ : ∀ h', h'.PlainList l (items.setIfInBounds j v) → Heap.SameBut l s.heap h' → Q () { s with heap := h' }) :
    wpAny (model prog w) A (setItem (.ref l) (.int k t) v) Q E s := by
  have hT := hl.isList.typeIs
  obtain ⟨n, ho⟩ := hl
  have hb : j < items.size ∧ -(items.size : Int) ≤ k ∧ k < items.size ∧ (0 ≤ k → k = j) := by
    unfold seqIndex? at hj
    by_cases q2 : k < 0
    · simp only [q2, if_true] at hj
      by_cases q : 0 ≤ k + (items.size : Int) ∧ k + (items.size : Int) < items.size
      · rw [if_pos (by simp [q])] at hj; cases hj; omega
      · rw [if_neg (by simpa using q)] at hj; cases hj
    · simp only [q2, if_false] at hj
      by_cases q : 0 ≤ k ∧ k < (items.size : Int)
      · rw [if_pos (by simp [q])] at hj; cases hj; omega
      · rw [if_neg (by simpa using q)] at hj; cases hj
  unfold setItem
  try with_reducible refine wpAny_holding ?_
  first | refine wpAny_bind (wpAny_pure ?_) | skip
  refine wpAny_bind (wpAny_sequenceKey hT (by decide) ?_)
  refine wpAny_bind (wpAny_callSpecial?_slot (name := Str.ofString "__setitem__") hT F.slot_list_setitem
    (wpAny_call_entry F.slot_list_setitem hT F.entry_list_setitem ?_ (F.args_list_setitem_3 _ _ _)))
  show wpAny _ _ (Builtin.List.listSubscript? (.int k t) >>= _) _ _ s
  have hfit : Builtin.List.listFitsIndex k = true := by
    by_cases h0 : 0 ≤ k
    · exact fitsIndex_of h0 (by omega)
    · exact fitsIndex_neg (by omega) (by omega)
  refine wpAny_bind (wpAny_listSubscript_int hfit ?_)
  have hx : items[j]? = some items[j] := Array.getElem?_eq_getElem hb.1
  have fin : (s.heap.update l (Obj.mapSeq (·.setIfInBounds j v))).PlainList l (items.setIfInBounds j v) := by
    obtain ⟨n', e⟩ := mapSeq_plain (·.setIfInBounds j v) items n
    exact ⟨n', by rw [← e]; exact Heap.get?_update_self _ ho rfl⟩
  by_cases h0 : 0 ≤ k
  · have := hb.2.2.2 h0
    subst this
    show wpAny _ _ ((seqItemAt l j >>= fun r => pure (r.map (j, ·))) >>= _) _ _ s
    refine wpAny_bind (wpAny_bind (wpAny_seqItemAt ho rfl (wpAny_pure ?_)))
    rw [hx]
    show wpAny _ _ (setSeqItemAt l j v >>= _) _ _ s
    refine wpAny_bind (wpAny_setSeqItemAt ho rfl ?_)
    first
      | exact wpAny_bind (wpAny_pure (wpAny_pure ⟨.none, rfl, wpAny_pure (hQ _ fin (Heap.SameBut.update ..))⟩))
      | exact wpAny_pure ⟨.none, rfl, wpAny_pure (hQ _ fin (Heap.SameBut.update ..))⟩
  · obtain ⟨m, rfl⟩ : ∃ m : Nat, k = Int.negSucc m := by
      cases k with
      | ofNat n => exact absurd (Int.natCast_nonneg n) h0
      | negSucc n => exact ⟨n, rfl⟩
    show wpAny _ _ ((Builtin.List.listItems (.ref l) >>= fun xs => pure ((seqIndex? (Int.negSucc m) xs.size).bind fun i => xs[i]?.map (i, ·))) >>= _) _ _ s
    refine wpAny_bind (wpAny_bind ?_)
    show wpAny _ _ (seqItems? (.ref l) >>= _) _ _ s
    refine wpAny_bind (wpAny_seqItems ho rfl (wpAny_pure (wpAny_pure ?_)))
    rw [hj]
    simp only [Option.bind_some, hx, Option.map_some]
    show wpAny _ _ (setSeqItemAt l j v >>= _) _ _ s
    refine wpAny_bind (wpAny_setSeqItemAt ho rfl ?_)
    first
      | exact wpAny_bind (wpAny_pure (wpAny_pure ⟨.none, rfl, wpAny_pure (hQ _ fin (Heap.SameBut.update ..))⟩))
      | exact wpAny_pure ⟨.none, rfl, wpAny_pure (hQ _ fin (Heap.SameBut.update ..))⟩
end
section
variable {C : Cx} {Zo : Addr → Prop} {ρ : Loc} {ω : Own} {l : Nat} {K : Fl → Loc → Own → Prop}
/-- an item of an own list is set -/
theorem ex_setitem {o i value : Expr} {sp pos : Pos}
    (h : Pe C ρ ω value (fun d => Pe C ρ ω o (fun dO => ∃ a ds, dO = .val (.ref a) ∧ getO ω a = some ds ∧ ds.length ≤ lim ∧ Pe C ρ ω i (fun dI => ∃ k j, dI = .int k ∧ seqIndex? k ds.length = some j ∧ K .next ρ (setO ω a (ds.set j d))))))
    (hsw : swapsWith value (some (.Subscript o i sp)) pos.line C.env = pure false) : Ex C ρ ω (.Assign [.Subscript o i sp] value pos) K := .mk fun {Zo} s hs₀ => by
  refine wpAny_Assign_Subscript (wpAny_mono (h.run s hs₀) (fun v s₁ ⟨k1, d, i1, h1⟩ => wpAny_mono (h1.run s₁ (hs₀.keeps k1)) (fun ov s₂ ⟨k2, dO, i2, a, ds, e, hg, hlen, h2⟩ => wpAny_mono (h2.run s₂ ((hs₀.keeps k1).keeps k2)) (fun iv s₃ ⟨k3, dI, i3, k, j, e', hj, hK⟩ => ?_) fun _ _ e => e) fun _ _ e => e) fun _ _ e => e) hsw
  subst e; subst e'
  cases i2
  cases i3
  have hs3 := ((hs₀.keeps k1).keeps k2).keeps k3
  obtain ⟨vs, hl, hi⟩ := hs3.own _ (getO_mem hg)
  have hvl := hi.length
  refine setItem_plain hl (j := j) (by rw [List.size_toArray, hvl]; exact hj) (by rw [List.size_toArray, hvl]; exact hlen) fun h' hl' hsame => ?_
  have hset : ∀ {vs : List Value} {ds : List D} (j : Nat), IsAll (C.Z Zo ω) s₃.heap vs ds → IsAll (C.Z Zo ω) s₃.heap (vs.set j v) (ds.set j d) := by
    intro vs ds
    induction ds generalizing vs with
    | nil => intro j q; cases q; exact .nil
    | cons e ds ih =>
      intro j q
      cases q with
      | cons q1 q2 =>
        cases j with
        | zero => exact .cons (i1.keeps (k2.trans k3).get) q2
        | succ j => exact .cons q1 (ih j q2)
  obtain ⟨hs4, st⟩ := own_change (tk := s₃.toks) (es := ds.set j d) (vs := vs.set j v) hs3 (List.mem_map.mpr ⟨_, getO_mem hg, rfl⟩) (by simpa using hl') hsame (hset j hi)
  exact ⟨.next, ρ, _, trivial, hs4, (((k1.trans k2).trans k3).step).trans st, hK⟩
end
end Mine
end

section
namespace Mine
section
variable {C : Cx} {Zo : Addr → Prop} {ρ : Loc} {ω : Own} {l : Nat} {K : Fl → Loc → Own → Prop}
end
section
variable {prog : Program} {w : World} {A : Around} {E : Value → Shared → Prop} {s : Shared}
end
end Mine
end

section
namespace Mine
section
variable {C : Cx} {Zo : Addr → Prop} {ρ : Loc} {ω : Own} {l : Nat} {K : Fl → Loc → Own → Prop}
end
/-- a call that may change one list -/
def StA (a : Addr) (s s' : Shared) : Prop := (∃ h' tk, s' = { s with heap := h', toks := tk } ∧ s.toks ≤ tk) ∧ ∀ b o, b ≠ a → s.heap.get? b = some o → s'.heap.get? b = some o
structure DoM (C : Cx) (f : Value) (as : List D) (a : Addr) (ds : List D) (K : D → List D → Prop) : Prop where
  run : ∀ {Z : Addr → Prop} s vs ws, Und C (fun b => Z b ∨ b = a) s → ¬ Z a → s.heap.PlainList a ws.toArray → IsAll (fun b => Z b ∨ b = a) s.heap ws ds → IsAll (fun b => Z b ∨ b = a) s.heap vs as →
    wpAny C.M C.A (call f vs) (fun v s' => StA a s s' ∧ ∃ d es us, Is (fun b => Z b ∨ b = a) s'.heap v d ∧ s'.heap.PlainList a us.toArray ∧ IsAll (fun b => Z b ∨ b = a) s'.heap us es ∧ K d es) NoE s
section
variable {C : Cx} {Zo : Addr → Prop} {ρ : Loc} {ω : Own} {l : Nat} {K : Fl → Loc → Own → Prop}
end
end Mine
end

section
namespace Mine
end Mine
end

section
namespace Mine
section
variable {C : Cx} {Zo : Addr → Prop} {ρ : Loc} {ω : Own} {l : Nat} {K : Fl → Loc → Own → Prop}
end
end Mine
end

section
namespace Mine
section
variable {C : Cx} {Zo : Addr → Prop} {ρ : Loc} {ω : Own} {l : Nat} {K : D → Prop}
theorem ints_are {Z : Addr → Prop} {h : Heap} : ∀ {vs : List Value} {ns : List Int}, IsAll Z h vs (ns.map .int) → IntsAre vs ns
  | _, [], i => by cases i; exact .nil
  | _, n :: ns, i => by cases i with | cons x y => cases x; exact .cons _ _ (ints_are y)
theorem doc_max {ns : List Int} (hh : C.A.handled = none) (hne : ns ≠ []) (h : ∀ M, M ∈ ns → (∀ a ∈ ns, a ≤ M) → K (.int M)) : DoC C (.builtin "max") [.list (ns.map .int)] K := .mk fun {Z} s vs U i => by
  cases i with
  | cons i j =>
    cases j
    cases i with
    | list hz hl hi =>
      rename_i ad ws
      have hi := ints_are hi
      obtain ⟨xs, e⟩ := hi.allInts.items
      have hns : ns = xs.toList.map (·.1) := by rw [← hi.numsOf, ← nums_intItems, ← e]
      have hsz : 0 < xs.size := by
        have h3 := List.length_pos_iff.mpr hne; rw [hns, List.length_map, Array.length_toList] at h3; exact h3
      rw [e] at hl
      refine wpAny_free (max_intList hh hl hsz fun v h' tk hv hk htk => ?_)
      obtain ⟨t, rfl⟩ := intItems_at hv
      obtain ⟨h1, h2⟩ := argBest_gt (numAt xs) (xs.size - 1)
      refine ⟨⟨h', tk, rfl, hk, htk⟩, _, .int, h _ ?_ fun a ha => ?_⟩
      · rw [hns, numAt_eq]; exact getD_mem (by rw [List.length_map, Array.length_toList]; omega)
      · rw [hns] at ha
        obtain ⟨j, hj, rfl⟩ := mem_getD ha
        rw [List.length_map, Array.length_toList] at hj
        rw [← numAt_eq]; exact h2 j (by omega)
/-- data without addresses -/
def Atom : D → Prop
  | .none => True
  | .bool _ => True
  | .int _ => True
  | .str _ => True
  | _ => False
/-- a call lends own lists to be read -/
inductive Lend (ω : Own) : List D → List D → Prop where
  | nil : Lend ω [] []
  | same {d : D} {ds es : List D} : Lend ω ds es → Lend ω (d :: ds) (d :: es)
  | lent {a : Addr} {xs : List D} {ds es : List D} : getO ω a = some xs → Lend ω ds es → Lend ω (.val (.ref a) :: ds) (.list xs :: es)
/-- from one on -/
theorem rng_one (q : Bool) (n : Nat) (hn : n ≤ 1000000) : IterK q ω (.rng 1 ((n : Int) + 1) 1) = some ((List.range n).map fun (k : Nat) => D.int ((k : Int) + 1)) := by
  have e : Builtin.Range.rangeSize 1 ((n : Int) + 1) 1 = n := by
    unfold Builtin.Range.rangeSize
    rw [if_pos (by decide)]
    by_cases h : (1 : Int) < (n : Int) + 1
    · rw [if_pos h, Int.ediv_one]; omega
    · rw [if_neg h]; omega
  have hs : Builtin.Range.small 1 ((n : Int) + 1) 1 = true := small_one (by omega) (by omega) (by omega) (by omega)
  simp only [IterK, hs, if_true, rngL, e]
  simp [Int.add_comm]
end
end Mine
end

section
namespace Mine
theorem compTurn_two0 (elt t0 i0 t1 i1 : Expr) (ifs0 ifs1 : List Expr) (scope : Scope) (pos : Pos) (it acc : Value) (env : Env) :
    compTurn (.ListComp elt [⟨t0, i0, ifs0, 0⟩, ⟨t1, i1, ifs1, 0⟩] scope pos) 0 it acc env = (do
      standAt i0.pos
      match ← pyNext it with
      | none => pure (.done .next)
      | some v =>
        letOwnedTupleGo t0 it v
        assign t0 env v
        let mut ok := true
        for c in ifs0 do
          if ok then ok ← isTrue c env (eval c env)
        if ok then
          let x ← eval i1 env
          standAt i1.pos
          let x ← foldedSetIterable i1 env x
          let _ ← runOwn (.compStart (.ListComp elt [⟨t0, i0, ifs0, 0⟩, ⟨t1, i1, ifs1, 0⟩] scope pos) 1 (← holding [x] (pyIter x)) acc env) env
        again (.compLoop (.ListComp elt [⟨t0, i0, ifs0, 0⟩, ⟨t1, i1, ifs1, 0⟩] scope pos) 0 it acc env)) := by rfl
theorem compTurn_two1 (elt t0 i0 t1 i1 : Expr) (ifs0 ifs1 : List Expr) (scope : Scope) (pos : Pos) (it acc : Value) (env : Env) :
    compTurn (.ListComp elt [⟨t0, i0, ifs0, 0⟩, ⟨t1, i1, ifs1, 0⟩] scope pos) 1 it acc env = (do
      standAt i1.pos
      match ← pyNext it with
      | none => pure (.done .next)
      | some v =>
        letOwnedTupleGo t1 it v
        assign t1 env v
        let mut ok := true
        for c in ifs1 do
          if ok then ok ← isTrue c env (eval c env)
        if ok then
          (do let _ ← call (.builtin "list.append") [acc, ← eval elt env])
        again (.compLoop (.ListComp elt [⟨t0, i0, ifs0, 0⟩, ⟨t1, i1, ifs1, 0⟩] scope pos) 1 it acc env)) := by rfl
section
variable {prog : Program} {w : World} {A : Around} {R : Result → Shared → Prop} {s : Shared}
theorem compLoop_two0 {elt t0 i0 t1 i1 : Expr} {ifs0 ifs1 : List Expr} {scope : Scope} {pos : Pos} {it acc : Value} {env : Env} (I : Nat → Shared → Prop)
    (turn : ∀ n s, I n s → wpAny (model prog w) A (pyNext it) (fun r s₁ => match r with
      | none => R (.ok .next) s₁
      | some v => wpAny (model prog w) A (assign t0 env v) (fun _ s₂ =>
          wpAny (model prog w) A (forIn ifs0 true fun c r => if r = true then do let ok ← isTrue c env (eval c env); pure (ForInStep.yield ok) else pure (ForInStep.yield r)) (fun ok s₃ =>
            if ok = true then wpAny (model prog w) A (eval i1 env) (fun x s₄ => wpAny (model prog w) A (pyIter x) (fun it1 s₅ =>
              codeAny (model prog w) A (.compStart (.ListComp elt [⟨t0, i0, ifs0, 0⟩, ⟨t1, i1, ifs1, 0⟩] scope pos) 1 it1 acc env) (fun r s₆ => match r with | .ok _ => ∃ m, m < n ∧ I m s₆ | .error _ => False) s₅) NoE s₄) NoE s₃
            else ∃ m, m < n ∧ I m s₃) NoE s₂) NoE s₁) NoE s)
    (n : Nat) (h : I n s) (ht : ∀ v, letOwnedTupleGo t0 it v = pure () := by intro _; rfl) (hf : ∀ x, foldedSetIterable i1 env x = pure x := by intro _; rfl) :
    codeAny (model prog w) A (.compLoop (.ListComp elt [⟨t0, i0, ifs0, 0⟩, ⟨t1, i1, ifs1, 0⟩] scope pos) 0 it acc env) R s := by
  refine codeAny_loop rfl I (fun n s hI => ?_) n h
  show wpAny _ A ((compTurn (.ListComp elt [⟨t0, i0, ifs0, 0⟩, ⟨t1, i1, ifs1, 0⟩] scope pos) 0 it acc env).onRaise (fun x => do noteFrame x env; theTreesLotGoes x)) _ _ s
  refine wpAny_noted ?_
  rw [compTurn_two0]
  refine wpAny_bind (wpAny_standAt (wpAny_bind (wpAny_mono (turn n s hI) (fun r s₁ h₁ => ?_) fun _ _ h' => h'.elim)))
  cases r with
  | none => exact wpAny_pure h₁
  | some v =>
    refine wpAny_bind (wpAny_of_eq (ht v) ?_)
    refine wpAny_bind (wpAny_mono h₁ (fun _ s₂ h₂ => wpAny_bind (wpAny_mono h₂ (fun ok s₃ h₃ => ?_) fun _ _ h' => h'.elim)) fun _ _ h' => h'.elim)
    cases ok with
    | false => exact wpAny_pure ⟨rfl, h₃⟩
    | true =>
      refine wpAny_bind (wpAny_mono h₃ (fun x s₄ h₄ => wpAny_bind (wpAny_standAt (wpAny_bind (wpAny_of_eq (hf x) ?_)))) fun _ _ h' => h'.elim)
      refine wpAny_bind (wpAny_holding (wpAny_mono h₄ (fun it1 s₅ h₅ => ?_) fun _ _ h' => h'.elim))
      refine wpAny_bind (wpAny_runOwn (codeAny_mono h₅ fun r s₆ h₆ => ?_))
      cases r with
      | ok f => exact wpAny_pure ⟨rfl, h₆⟩
      | error e => exact h₆.elim
theorem compLoop_two1 {elt t0 i0 t1 i1 : Expr} {ifs0 ifs1 : List Expr} {scope : Scope} {pos : Pos} {it acc : Value} {env : Env} (I : Nat → Shared → Prop)
    (turn : ∀ n s, I n s → wpAny (model prog w) A (pyNext it) (fun r s₁ => match r with
      | none => R (.ok .next) s₁
      | some v => wpAny (model prog w) A (assign t1 env v) (fun _ s₂ =>
          wpAny (model prog w) A (forIn ifs1 true fun c r => if r = true then do let ok ← isTrue c env (eval c env); pure (ForInStep.yield ok) else pure (ForInStep.yield r)) (fun ok s₃ =>
            if ok = true then wpAny (model prog w) A (eval elt env) (fun x s₄ =>
              wpAny (model prog w) A (call (.builtin "list.append") [acc, x]) (fun _ s₅ => ∃ m, m < n ∧ I m s₅) NoE s₄) NoE s₃
            else ∃ m, m < n ∧ I m s₃) NoE s₂) NoE s₁) NoE s)
    (n : Nat) (h : I n s) (ht : ∀ v, letOwnedTupleGo t1 it v = pure () := by intro _; rfl) :
    codeAny (model prog w) A (.compLoop (.ListComp elt [⟨t0, i0, ifs0, 0⟩, ⟨t1, i1, ifs1, 0⟩] scope pos) 1 it acc env) R s := by
  refine codeAny_loop rfl I (fun n s hI => ?_) n h
  show wpAny _ A ((compTurn (.ListComp elt [⟨t0, i0, ifs0, 0⟩, ⟨t1, i1, ifs1, 0⟩] scope pos) 1 it acc env).onRaise (fun x => do noteFrame x env; theTreesLotGoes x)) _ _ s
  refine wpAny_noted ?_
  rw [compTurn_two1]
  refine wpAny_bind (wpAny_standAt (wpAny_bind (wpAny_mono (turn n s hI) (fun r s₁ h₁ => ?_) fun _ _ h' => h'.elim)))
  cases r with
  | none => exact wpAny_pure h₁
  | some v =>
    refine wpAny_bind (wpAny_of_eq (ht v) ?_)
    refine wpAny_bind (wpAny_mono h₁ (fun _ s₂ h₂ => wpAny_bind (wpAny_mono h₂ (fun ok s₃ h₃ => ?_) fun _ _ h' => h'.elim)) fun _ _ h' => h'.elim)
    cases ok with
    | false => exact wpAny_pure ⟨rfl, h₃⟩
    | true =>
      exact wpAny_bind (wpAny_bind (wpAny_mono h₃ (fun x s₄ h₄ => wpAny_bind (wpAny_mono h₄ (fun _ s₅ h₅ => wpAny_pure (wpAny_pure ⟨rfl, h₅⟩)) fun _ _ h' => h'.elim)) fun _ _ h' => h'.elim))
/-- a second clause begins -/
theorem compStart_two1 {elt t0 i0 t1 i1 : Expr} {ifs0 ifs1 : List Expr} {scope : Scope} {pos : Pos} {it acc : Value} {env : Env}
    (h0 : codeAny (model prog w) A (.compLoop (.ListComp elt [⟨t0, i0, ifs0, 0⟩, ⟨t1, i1, ifs1, 0⟩] scope pos) 1 it acc env) R s)
    (h : wpAny (model prog w) A (pyIter it) (fun it' s' => codeAny (model prog w) A (.compLoop (.ListComp elt [⟨t0, i0, ifs0, 0⟩, ⟨t1, i1, ifs1, 0⟩] scope pos) 1 it' acc env) R s') NoE s) :
    codeAny (model prog w) A (.compStart (.ListComp elt [⟨t0, i0, ifs0, 0⟩, ⟨t1, i1, ifs1, 0⟩] scope pos) 1 it acc env) R s := by
  refine codeAny_of_tree ?_
  show wpAny _ _ ((compStart (.ListComp elt [⟨t0, i0, ifs0, 0⟩, ⟨t1, i1, ifs1, 0⟩] scope pos) 1 it acc env).onRaise (fun x => do noteFrame x env; standAt theWindowsPlace)) _ _ s
  refine wpAny_notedAt ?_
  unfold compStart
  show wpAny _ _ (ask >>= _) _ _ s
  refine wpAny_bind (wpAny_askSetting (wpAny_ite ?_))
  split
  · first
      | exact wpAny_bind (wpAny_pure (wpAny_pure (And.intro rfl h0)))
      | exact wpAny_pure (And.intro rfl h0)
  · refine wpAny_bind (wpAny_rule ?_)
    refine wpAny_bind (wpAny_standAt ?_)
    exact wpAny_bind (wpAny_mono h (fun it' s' h' => wpAny_pure (And.intro rfl h')) fun _ _ e => e.elim)
end
end Mine
end

section
namespace Mine
/-- all stays but what lies in X -/
structure KB (X : Addr → Prop) (s s' : Shared) : Prop where
  same : ∃ h tk, s' = { s with heap := h, toks := tk } ∧ s.toks ≤ tk
  keep : ∀ b o, ¬ X b → s.heap.get? b = some o → s'.heap.get? b = some o
  live : ∀ b o, s.heap.get? b = some o → ∃ o', s'.heap.get? b = some o'
section
variable {X X' : Addr → Prop} {s s' s'' : Shared}
theorem KB.trans (a : KB X s s') (b : KB X s' s'') : KB X s s'' := by
  obtain ⟨h1, t1, e1, l1⟩ := a.same
  obtain ⟨h2, t2, e2, l2⟩ := b.same
  refine ⟨⟨h2, t2, by rw [e2, e1], Nat.le_trans l1 (by rw [e1] at l2; exact l2)⟩, fun x o q e => b.keep x o q (a.keep x o q e), fun x o e => ?_⟩
  obtain ⟨o', e'⟩ := a.live x o e
  exact b.live x o' e'
theorem KB.mono (a : KB X s s') (h : ∀ b, X b → X' b) : KB X' s s' := ⟨a.same, fun b o q e => a.keep b o (fun z => q (h b z)) e, a.live⟩
theorem KB.of (k : Kp s s') : KB X s s' := by
  obtain ⟨h, tk, rfl, k1, l⟩ := k
  exact ⟨⟨h, tk, rfl, l⟩, fun b o _ e => k1 b o e, fun b o e => ⟨o, k1 b o e⟩⟩
theorem KB.upd {a : Addr} {h' : Heap} {tk : Nat} (hX : X a) (hs : Heap.SameBut a s.heap h') (hl : ∃ o, h'.get? a = some o) (htk : s.toks ≤ tk) : KB X s { s with heap := h', toks := tk } := by
  refine ⟨⟨h', tk, rfl, htk⟩, fun b o q e => (hs.2 b fun z => q (z ▸ hX)).trans e, fun b o e => ?_⟩
  by_cases q : b = a
  · subst q; exact hl
  · exact ⟨o, (hs.2 b q).trans e⟩
end
/-- the same, but one place may be gone -/
structure KD (X : Addr → Prop) (I : Addr) (s s' : Shared) : Prop where
  same : ∃ h tk, s' = { s with heap := h, toks := tk } ∧ s.toks ≤ tk
  keep : ∀ b o, ¬ X b → s.heap.get? b = some o → s'.heap.get? b = some o
  live : ∀ b o, b ≠ I → s.heap.get? b = some o → ∃ o', s'.heap.get? b = some o'
section
variable {C : Cx} {Zo : Addr → Prop} {ρ0 : Loc} {ω : Own} {l : Nat} {X : Addr → Prop} {s s' : Shared}
/-- the state within a comprehension stays -/
theorem sta_KB (hs : Sta C Zo ρ0 ω s) (k : KB X s s') (hX : ∀ b, X b → C.Z Zo ω b) (hc : ∀ y c, C.env.cells.lookup y = some c → ¬ X c) (ho : ∀ a ∈ ω.map (·.1), ¬ X a) (hn : ∃ m, s'.heap.Ns C.env.locals m)
    (hρ : ∀ y d, get ρ0 y = some d → C.env.kindOf y ≠ some .local) : Sta C Zo ρ0 ω s' := by
  have mv : ∀ b o, ¬ C.Z Zo ω b → s.heap.get? b = some o → ¬ C.Z Zo ω b ∧ s'.heap.get? b = some o := fun b o hz e => ⟨hz, k.keep b o (fun q => hz (hX b q)) e⟩
  refine ⟨fun b o e => k.keep b o (fun q => by rw [hs.new b (hX b q)] at e; cases e) (hs.base b o e), hs.new, ?_, ?_, ?_, hs.inj, ?_, hs.nodup, hs.apart, ?_, ?_⟩
  · obtain ⟨m, hm⟩ := hn
    exact ⟨m, hm, fun y d hy hl => (hρ y d hy hl).elim⟩
  · intro y d hy hk
    obtain ⟨c, v, h1, ⟨o, h2, h2'⟩, h3⟩ := hs.cell y d hy hk
    exact ⟨c, v, h1, ⟨o, k.keep c o (hc y c h1) h2, h2'⟩, h3.move mv⟩
  · intro y c hy
    obtain ⟨v, o, h2, h2'⟩ := hs.cells y c hy
    exact ⟨v, o, k.keep c o (hc y c hy) h2, h2'⟩
  · intro p hp
    obtain ⟨vs, h1, h2⟩ := hs.own p hp
    exact ⟨vs, h1.at fun o e => k.keep _ o (ho _ (List.mem_map.mpr ⟨p, hp, rfl⟩)) e, h2.move mv⟩
  · intro a ha
    obtain ⟨o, ho⟩ := hs.zo a ha
    exact k.live a o ho
  · obtain ⟨h, tk, rfl, l⟩ := k.same
    exact Nat.lt_of_lt_of_le hs.tok l
/-- a local name is put -/
theorem sta_local {x : Str} {d : D} {v : Value} {m : Str → Option Value} (hs : Sta C Zo ρ0 ω s) (hm : s.heap.Ns C.env.locals m) (hv : m x = some v) (hi : Is (C.Z Zo ω) s.heap v d) (hx : C.env.kindOf x = some .local)
    (hρ : ∀ y d, get ρ0 y = some d → C.env.kindOf y ≠ some .local) : Sta C Zo ((x, d) :: ρ0) ω s := by
  refine ⟨hs.base, hs.new, ⟨m, hm, fun y dy hy hl => ?_⟩, fun y dy hy hk => ?_, hs.cells, hs.inj, hs.own, hs.nodup, hs.apart, hs.zo, hs.tok⟩
  · simp only [get] at hy
    by_cases e : y = x
    · rw [if_pos e] at hy; cases hy; exact ⟨v, e ▸ hv, hi⟩
    · rw [if_neg e] at hy; exact (hρ y dy hy hl).elim
  · simp only [get] at hy
    by_cases e : y = x
    · subst e; rw [hx] at hk; rcases hk with h | h <;> cases h
    · rw [if_neg e] at hy; exact hs.cell y dy hy hk
/-- a predicate of what was gathered that moves with the heap -/
abbrev Gath := (Addr → Prop) → List D → List Value → Heap → Prop
def Gath.Moves (Q : Gath) : Prop := ∀ {Z Z' : Addr → Prop} {its : List D} {vs : List Value} {h h' : Heap}, Q Z its vs h → (∀ b o, ¬ Z b → h.get? b = some o → ¬ Z' b ∧ h'.get? b = some o) → Q Z' its vs h'
/-- the loop of a clause -/
theorem loopL {x : Str} {px : Pos} {e : Expr} {dp : Nat} {Dl I : Addr} {its : List D} {fp : List Addr} {P : Nat → Value → Prop} {St : Nat → Heap → Prop} {Q : Gath} {TurnW : (Shared → Prop) → Shared → Prop} {R : Result → Shared → Prop}
    (hs : Sta C Zo ρ0 ω s) (hZI : Zo I) (hZD : Zo Dl) (hID : I ≠ Dl) (hIC : I ≠ C.env.locals) (hDC : Dl ≠ C.env.locals)
    (hcell : ∀ y c, C.env.cells.lookup y = some c → c ≠ I ∧ c ≠ Dl ∧ c ≠ C.env.locals) (hown : ∀ a ∈ ω.map (·.1), a ≠ C.env.locals)
    (hx : C.env.kindOf x = some .local) (hkind : (C.env.scope.kind == .class || (C.env.scope.kind == .module && C.env.locals != C.env.globals)) = false)
    (hρ : ∀ y d, get ρ0 y = some d → C.env.kindOf y ≠ some .local)
    (W : Walks C.prog C.w C.A I fp [I] its.length P St) (hst : St 0 s.heap) (hli : ∀ i h, St i h → ∃ o, h.get? I = some o) (hfp : ∀ b ∈ fp, b ≠ Dl ∧ b ≠ C.env.locals)
    (hP : ∀ i v, i < its.length → P i v → ∃ d, its[i]? = some d ∧ Is (C.Z Zo ω) s.heap v d)
    {vs0 : List Value} (hl : s.heap.PlainList Dl vs0.toArray) (hq : Q (C.Z Zo ω) [] vs0 s.heap) (hmove : Q.Moves)
    (turn : ∀ i d, its[i]? = some d → ∀ s₅ vs, KB (fun b => b = I ∨ b = Dl ∨ b = C.env.locals) s s₅ → Sta C Zo ((x, d) :: ρ0) ω s₅ → s₅.heap.PlainList Dl vs.toArray → Q (C.Z Zo ω) (its.take i) vs s₅.heap → ∀ post : Shared → Prop,
      (∀ s' vs', KB (fun b => b = Dl ∨ b = C.env.locals) s₅ s' → (∃ m, s'.heap.Ns C.env.locals m) → s'.heap.PlainList Dl vs'.toArray → Q (C.Z Zo ω) (its.take (i + 1)) vs' s'.heap → post s') → TurnW post s₅)
    (hcode : ∀ Inv : Nat → Shared → Prop, (∀ n s, Inv n s → wpAny C.M C.A (pyNext (.ref I)) (fun r s₁ => match r with
      | none => R (.ok .next) s₁
      | some v => wpAny C.M C.A (assign (.Name x px) C.env v) (fun _ s₂ => TurnW (fun s₃ => ∃ m, m < n ∧ Inv m s₃) s₂) NoE s₁) NoE s) → ∀ n, Inv n s → codeAny C.M C.A (.compLoop e dp (.ref I) (.ref Dl) C.env) R s)
    (hR : ∀ s' vs, KD (fun b => b = I ∨ b = Dl ∨ b = C.env.locals) I s s' → (∃ m, s'.heap.Ns C.env.locals m) → s'.heap.PlainList Dl vs.toArray → Q (C.Z Zo ω) its vs s'.heap → R (.ok .next) s') :
    codeAny C.M C.A (.compLoop e dp (.ref I) (.ref Dl) C.env) R s := by
  have hXZ : ∀ b, (b = I ∨ b = Dl ∨ b = C.env.locals) → C.Z Zo ω b := by
    rintro b (h | h | h)
    · exact .inl (h ▸ hZI)
    · exact .inl (h ▸ hZD)
    · exact .inr (.inl h)
  have hXc : ∀ y c, C.env.cells.lookup y = some c → ¬ (c = I ∨ c = Dl ∨ c = C.env.locals) := fun y c h q => by
    obtain ⟨h1, h2, h3⟩ := hcell y c h
    exact q.elim h1 fun q => q.elim h2 h3
  have hXo : ∀ a ∈ ω.map (·.1), ¬ (a = I ∨ a = Dl ∨ a = C.env.locals) := fun a ha q => by
    rcases q with q | q | q
    · exact hs.apart a ha (q ▸ hZI)
    · exact hs.apart a ha (q ▸ hZD)
    · exact hown a ha q
  refine hcode (fun k s' => ∃ i, k = its.length + 1 - i ∧ i ≤ its.length ∧ St i s'.heap ∧ KB (fun b => b = I ∨ b = Dl ∨ b = C.env.locals) s s' ∧ (∃ m, s'.heap.Ns C.env.locals m) ∧ ∃ vs, s'.heap.PlainList Dl vs.toArray ∧ Q (C.Z Zo ω) (its.take i) vs s'.heap) ?_ (its.length + 1) ?_
  · rintro k s' ⟨i, rfl, hi, hst', kb, ⟨m, hn⟩, vs, hl', hq'⟩
    by_cases hlt : i < its.length
    · refine wpAny_free (W.item i _ _ _ hlt hst' fun v h₂ tk₂ hPv hst₂ hk₂ htk₂ => ?_)
      dsimp only at hk₂ htk₂ ⊢
      obtain ⟨d, hd, iv⟩ := hP i v hlt hPv
      have sbI : KB (fun b => b = I ∨ b = Dl ∨ b = C.env.locals) s' { s' with heap := h₂, toks := tk₂ } := ⟨⟨h₂, tk₂, rfl, htk₂⟩, fun b o q e => hk₂ b o (by simpa using fun z : b = I => q (.inl z)) e, fun b o e => by
        by_cases q : b = I
        · subst q; exact hli _ _ hst₂
        · exact ⟨o, hk₂ b o (by simpa using q) e⟩⟩
      have hn2 : h₂.Ns C.env.locals m := hn.at' fun o e => hk₂ _ _ (by simpa using hIC.symm) e
      refine wpAny_assign_Name (wpAny_storeName_local (env := C.env) hx hn2 (fun h₃ hn₃ hs₃ => ?_) hkind)
      have sb3 : KB (fun b => b = I ∨ b = Dl ∨ b = C.env.locals) { s' with heap := h₂, toks := tk₂ } { s' with heap := h₃, toks := tk₂ + 1 } := KB.upd (s := { s' with heap := h₂, toks := tk₂ }) (.inr (.inr rfl)) hs₃ (by obtain ⟨o, _, _, ho, _⟩ := hn₃; exact ⟨o, ho⟩) (Nat.le_succ _)
      have kb3 := (kb.trans sbI).trans sb3
      have hsA := sta_KB hs kb3 hXZ hXc hXo ⟨_, hn₃⟩ hρ
      have iv3 : Is (C.Z Zo ω) h₃ v d := iv.move fun b o hz e => ⟨hz, kb3.keep b o (fun q => hz (hXZ b q)) e⟩
      have hsB := sta_local (x := x) hsA hn₃ (by simp) iv3 hx hρ
      have hl₃ : h₃.PlainList Dl vs.toArray := hl'.at fun o e => (hs₃.2 Dl hDC).trans (hk₂ Dl o (by simpa using hID.symm) e)
      have hq₃ : Q (C.Z Zo ω) (its.take i) vs h₃ := hmove hq' fun b o hz e => ⟨hz, (sbI.trans sb3).keep b o (fun q => hz (hXZ b q)) e⟩
      refine turn i d hd _ vs kb3 hsB hl₃ hq₃ _ fun s₄ vs' kb4 hn4 hl4 hq4 => ?_
      refine ⟨its.length + 1 - (i + 1), by omega, i + 1, rfl, hlt, ?_, kb3.trans (kb4.mono fun b q => .inr q), hn4, vs', hl4, hq4⟩
      exact W.frame _ _ _ hst₂ fun b hb o e => kb4.keep b o (fun q => q.elim (hfp b hb).1 (hfp b hb).2) ((hs₃.2 b (hfp b hb).2).trans e)
    · have hin : i = its.length := by omega
      subst hin
      refine wpAny_free (W.done _ _ _ hst' fun h₂ tk₂ hk₂ htk₂ => ?_)
      dsimp only at hk₂ htk₂ ⊢
      have kp2 : ∀ b o, ¬ (b = I ∨ b = Dl ∨ b = C.env.locals) → s'.heap.get? b = some o → h₂.get? b = some o := fun b o q e => hk₂ b o (by simpa using fun z : b = I => q (.inl z)) e
      have kd : KD (fun b => b = I ∨ b = Dl ∨ b = C.env.locals) I s { s' with heap := h₂, toks := tk₂ } := by
        obtain ⟨h1, t1, e1, l1⟩ := kb.same
        refine ⟨⟨h₂, tk₂, by rw [e1], Nat.le_trans l1 (by rw [e1] at htk₂; exact htk₂)⟩, fun b o q e => kp2 b o q (kb.keep b o q e), fun b o q e => ?_⟩
        obtain ⟨o', e'⟩ := kb.live b o e
        exact ⟨o', hk₂ b o' (by simpa using q) e'⟩
      rw [List.take_length] at hq'
      exact hR _ vs kd ⟨m, hn.at' fun o e => hk₂ _ _ (by simpa using hIC.symm) e⟩ (hl'.at fun o e => hk₂ Dl o (by simpa using hID.symm) e) (hmove hq' fun b o hz e => ⟨hz, kp2 b o (fun q => hz (hXZ b q)) e⟩)
  · exact ⟨0, rfl, Nat.zero_le _, hst, ⟨⟨s.heap, s.toks, rfl, Nat.le_refl _⟩, fun _ _ _ e => e, fun b o e => ⟨o, e⟩⟩, (let ⟨m, hn, _⟩ := hs.ns; ⟨m, hn⟩), vs0, hl, by simpa using hq⟩
end
end Mine
end

section
namespace Mine
/-- what a turn within a comprehension may lean on -/
structure TurnOk (C : Cx) (Zo : Addr → Prop) (ω : Own) (l : Nat) (Dl : Addr) : Prop where
  zd : Zo Dl
  dc : Dl ≠ C.env.locals
  cell : ∀ y c, C.env.cells.lookup y = some c → c ≠ Dl ∧ c ≠ C.env.locals
  own : ∀ a ∈ ω.map (·.1), a ≠ C.env.locals
  ok : C.Ok l
theorem cap_kind {C : Cx} {scope : Scope} {cl : List (Str × Addr)} {x : Str} (co : CompOk C scope cl x) {n : Addr} {ρ : Loc} : ∀ y d, get (cap cl ρ) y = some d → (C.comp scope cl n).env.kindOf y ≠ some .local := by
  intro y d hy hl
  rw [get_cap] at hy
  split at hy
  · rename_i hq
    obtain ⟨c, hc⟩ := Option.isSome_iff_exists.mp hq
    exact co.caught y c hc hl
  · cases hy
theorem comp_enter {C : Cx} {Zo : Addr → Prop} {ρ : Loc} {ω : Own} {l : Nat} {x : Str} {px : Pos} {scope : Scope} {cl : List (Str × Addr)} {e : Expr} {RR : Value → Addr → Result → Shared → Prop} (ok : C.Ok l) (co : CompOk C scope cl x)
    {s₁ : Shared} (hs1 : Sta C Zo ρ ω s₁) {xv : Value} {d : D} (i1 : Is (C.Z Zo ω) s₁.heap xv d) {its : List D} (hit : IterK true ω d = some its) {Q : Gath} (hmove : Q.Moves) (hnil : ∀ Z h, Q Z [] [] h)
    {TurnW : Addr → Addr → (Shared → Prop) → Shared → Prop}
    (turn : ∀ Dl Cn (Zo' : Addr → Prop), TurnOk (C.comp scope cl Cn) Zo' ω l Dl → ∀ i d, its[i]? = some d → ∀ s vs, (∀ b o, s₁.heap.get? b = some o → s.heap.get? b = some o) → Sta (C.comp scope cl Cn) Zo' ((x, d) :: cap cl ρ) ω s → s.heap.PlainList Dl vs.toArray → Q ((C.comp scope cl Cn).Z Zo' ω) (its.take i) vs s.heap → ∀ post : Shared → Prop,
      (∀ s' vs', KB (fun b => b = Dl ∨ b = Cn) s s' → (∃ m, s'.heap.Ns Cn m) → s'.heap.PlainList Dl vs'.toArray → Q ((C.comp scope cl Cn).Z Zo' ω) (its.take (i + 1)) vs' s'.heap → post s') → TurnW Dl Cn post s)
    (hcode : ∀ (Dl Cn I : Addr) (R : Result → Shared → Prop) (s : Shared) (Inv : Nat → Shared → Prop), (∀ n s, Inv n s → wpAny C.M C.A (pyNext (.ref I)) (fun r s₁ => match r with
      | none => R (.ok .next) s₁
      | some v => wpAny C.M C.A (assign (.Name x px) (compEnvC scope cl Cn C.env) v) (fun _ s₂ => TurnW Dl Cn (fun s₃ => ∃ m, m < n ∧ Inv m s₃) s₂) NoE s₁) NoE s) → ∀ n, Inv n s → codeAny C.M C.A (.compLoop e 0 (.ref I) (.ref Dl) (compEnvC scope cl Cn C.env)) R s)
    (hstart : ∀ (Dl Cn I : Addr) (R : Result → Shared → Prop) (s : Shared), codeAny C.M C.A (.compLoop e 0 (.ref I) (.ref Dl) (compEnvC scope cl Cn C.env)) R s → wpAny C.M C.A (pyIter (.ref I)) (fun it' s' => codeAny C.M C.A (.compLoop e 0 it' (.ref Dl) (compEnvC scope cl Cn C.env)) R s') NoE s →
      codeAny C.M C.A (.compStart e 0 (.ref I) (.ref Dl) (compEnvC scope cl Cn C.env)) R s)
    (hRR : ∀ Dl Cn h tk m vs, s₁.toks ≤ tk → s₁.heap.get? Dl = none → s₁.heap.get? Cn = none → Dl ≠ Cn → h.Ns Cn m → (∀ b o, s₁.heap.get? b = some o → h.get? b = some o) → h.PlainList Dl vs.toArray →
      Q (fun b => C.Z Zo ω b ∨ b = Dl ∨ b = Cn) its vs h → RR (.ref Dl) Cn (.ok .next) { s₁ with heap := h, toks := tk }) :
    wpAny C.M C.A (pyIter xv) (fun it s₂ => wpAny C.M C.A (newList []) (fun acc s₃ => wpAny C.M C.A (newFunctionEnv scope C.env.globals cl [] C.env.qual none .none (some C.env)) (fun cenv s₄ =>
      codeAny C.M C.A (.compStart e 0 it acc { cenv with scope := relabel scope C.env }) (RR acc cenv.locals) s₄) NoE s₃) NoE s₂) NoE s₁ := by
  refine wpAny_mono (iter_doc true ok hs1 i1 hit) (fun it s₂ Y => ?_) fun _ _ e => e
  obtain ⟨k2, I, rfl, hI, fp, P, St, W, hst, hli, _, hfpl, hP⟩ := Y
  refine wpAny_newObj_type (wpAny_newFunctionEnv co.cell (by intro y hy; simp at hy) (fun h₁ hns₁ hsb₁ => ?_) co.kind)
  dsimp only at hns₁ hsb₁ ⊢
  generalize hH2 : s₂.heap.push { cls := .type "list", dict := none, data := .seq ([] : List Value).toArray } = H2 at hns₁ hsb₁ ⊢
  have hC : H2.objs.size = s₂.heap.objs.size + 1 := by rw [← hH2, Heap.size_push]
  generalize hDl : s₂.heap.objs.size = Dl at *
  generalize hCn : H2.objs.size = Cn at *
  have hDC : Dl ≠ Cn := by rw [hC]; exact Nat.ne_of_lt (Nat.lt_succ_self _)
  have lt2 : ∀ b o, s₂.heap.get? b = some o → b < Dl := fun b o e => hDl ▸ Heap.lt_size e
  have old : ∀ b o, s₂.heap.get? b = some o → h₁.get? b = some o := fun b o e => by
    have hb := lt2 b o e
    exact hsb₁.extBut b o (by rw [hC]; exact Nat.ne_of_lt (Nat.lt_succ_of_lt hb)) (Heap.get?_push_of_some _ (hH2 ▸ Heap.get?_push_of_some _ e))
  have old1 : ∀ b o, s₁.heap.get? b = some o → b ≠ I ∧ b ≠ Dl ∧ b ≠ Cn := fun b o e => by
    have hb := lt2 b o (k2.get b o e)
    refine ⟨fun q => ?_, Nat.ne_of_lt hb, by rw [hC]; exact Nat.ne_of_lt (Nat.lt_succ_of_lt hb)⟩
    rw [q, hI] at e; cases e
  have hIlt : I < Dl := by obtain ⟨o, ho⟩ := hli 0 _ hst; exact lt2 I o ho
  have fpOff : ∀ b ∈ fp, b ≠ Dl ∧ b ≠ Cn := fun b hb => by
    by_cases q : b = I
    · subst q; exact ⟨Nat.ne_of_lt hIlt, by rw [hC]; exact Nat.ne_of_lt (Nat.lt_succ_of_lt hIlt)⟩
    · obtain ⟨o, ho⟩ := hfpl b hb q; exact (old1 b o ho).2
  have hacc : h₁.PlainList Dl ([] : List Value).toArray := by
    exact ⟨0, hsb₁.extBut _ _ (hCn ▸ hDC) (Heap.get?_push_of_some _ (hH2 ▸ hDl ▸ Heap.get?_push_size _ rfl))⟩
  have hst₁ : St 0 h₁ := W.frame _ _ _ hst fun b _ o e => old b o e
  let Zo' : Addr → Prop := fun a => (C.Z Zo ω a ∧ a ∉ ω.map (·.1)) ∨ a = I ∨ a = Dl
  let C' := C.comp scope cl Cn
  have hZI : C'.Z Zo' ω I := .inl (.inr (.inl rfl))
  have hZD : C'.Z Zo' ω Dl := .inl (.inr (.inr rfl))
  have hZC : C'.Z Zo' ω Cn := .inr (.inl rfl)
  have hZsub : ∀ b, C'.Z Zo' ω b → C.Z Zo ω b ∨ b = I ∨ b = Dl ∨ b = Cn := by
    rintro b (h | h | ⟨y, h⟩ | h)
    · rcases h with h | h | h
      · exact .inl h.1
      · exact .inr (.inl h)
      · exact .inr (.inr (.inl h))
    · exact .inr (.inr (.inr h))
    · exact .inl (mu_cell (co.sub y b h).1)
    · exact .inl (mu_own h)
  have hZup : ∀ b, C.Z Zo ω b → C'.Z Zo' ω b := fun b q => Classical.byCases (p := b ∈ ω.map (·.1)) (fun hb => .inr (.inr (.inr hb))) (fun hb => .inl (.inl ⟨q, hb⟩))
  have ok' : C'.Ok l := ⟨ok.room, by show (relabel scope C.env).kind = _; exact co.kind, ok.gl, ok.bl, ok.g, ok.b, ok.nolimit⟩
  have k1 : ∀ b o, s₁.heap.get? b = some o → h₁.get? b = some o := fun b o e => old b o (k2.get b o e)
  have mv : ∀ b o, ¬ C.Z Zo ω b → s₁.heap.get? b = some o → ¬ C'.Z Zo' ω b ∧ h₁.get? b = some o := fun b o hz e =>
    ⟨fun q => (hZsub b q).elim hz fun q => q.elim (old1 b o e).1 fun q => q.elim (old1 b o e).2.1 (old1 b o e).2.2, k1 b o e⟩
  obtain ⟨h2', t2', e2, _, l2⟩ := id k2
  have main : ∀ s₃ : Shared, s₃ = { s₂ with heap := h₁, toks := s₂.toks + ([] : List (Str × Value)).length } → codeAny C.M C.A (.compLoop e 0 (.ref I) (.ref Dl) (compEnvC scope cl Cn C.env)) (RR (.ref Dl) Cn) s₃ := by
    rintro s₃ rfl
    have hsI : Sta C' Zo' (cap cl ρ) ω { s₂ with heap := h₁, toks := s₂.toks + ([] : List (Str × Value)).length } := by
      refine ⟨fun b o e => k1 b o (hs1.base b o e), ?_, ⟨_, hns₁, fun y dy hy hl => (cap_kind co y dy hy hl).elim⟩, fun y dy hy hl => ?_, fun y c hy => ?_, fun y z c hy hz => hs1.inj y z c (co.sub y c hy).1 (co.sub z c hz).1, fun p hp => ?_, hs1.nodup, (fun a ha h => h.elim (fun h => h.2 ha) fun h => by obtain ⟨p, hp, e2⟩ := List.mem_map.mp ha; obtain ⟨ws, ⟨o, ho, _⟩, _⟩ := hs1.ownL p hp; rw [e2] at ho; exact h.elim (old1 a o ho).1 (old1 a o ho).2.1), ?_, ?_⟩
      · intro a ha
        rcases hZsub a ha with q | q | q | q
        · exact hs1.new a q
        all_goals
          cases e : C.h₀.get? a with
          | none => rfl
          | some o => have := old1 a o (hs1.base a o e); simp_all
      · rw [get_cap] at hy
        split at hy
        · rename_i hq
          obtain ⟨c, hc⟩ := Option.isSome_iff_exists.mp hq
          obtain ⟨hc1, hc2⟩ := co.sub y c hc
          obtain ⟨c', u, h1, ⟨o, h2, h2'⟩, h3⟩ := hs1.cell y dy hy hc2
          rw [hc1] at h1; cases h1
          exact ⟨c, u, hc, ⟨o, k1 _ _ h2, h2'⟩, h3.move mv⟩
        · cases hy
      · obtain ⟨u, o, h2, h2'⟩ := hs1.cells y c (co.sub y c hy).1
        exact ⟨u, o, k1 _ _ h2, h2'⟩
      · obtain ⟨ws, h1, h2⟩ := hs1.own p hp
        exact ⟨ws, h1.at fun o e => k1 _ _ e, h2.move mv⟩
      · rintro a (q | q | q)
        · obtain ⟨o, ho⟩ := hs1.live a q.1; exact ⟨o, k1 _ _ ho⟩
        · subst q; exact hli _ _ hst₁
        · subst q; obtain ⟨n, ho⟩ := hacc; exact ⟨_, ho⟩
      · have := hs1.tok
        have := k2.toks
        show 0 < s₂.toks + 0
        omega
    have hcell : ∀ y c, C'.env.cells.lookup y = some c → c ≠ I ∧ c ≠ Dl ∧ c ≠ Cn := fun y c hy => by
      obtain ⟨u, o, h2, _⟩ := hs1.cells y c (co.sub y c hy).1
      exact old1 c o h2
    have hown : ∀ a ∈ ω.map (·.1), a ≠ Cn := fun a ha => by
      obtain ⟨p, hp, e2⟩ := List.mem_map.mp ha
      obtain ⟨ws, ⟨o, ho, _⟩, _⟩ := hs1.ownL p hp
      rw [e2] at ho
      exact (old1 a o ho).2.2
    have fr : ∀ a, (∀ b o, s₁.heap.get? b = some o → b ≠ a) → s₁.heap.get? a = none := fun a h => by
      cases e : s₁.heap.get? a with
      | none => rfl
      | some o => exact (h a o e rfl).elim
    have hkd : ((compEnvC scope cl Cn C.env).scope.kind == .class || ((compEnvC scope cl Cn C.env).scope.kind == .module && (compEnvC scope cl Cn C.env).locals != (compEnvC scope cl Cn C.env).globals)) = false := by simp [compEnvC, relabel, co.kind]
    refine loopL (C := C') (Zo := Zo') (px := px) (TurnW := TurnW Dl Cn) (Q := Q) (vs0 := []) hsI (.inr (.inl rfl)) (.inr (.inr rfl)) (Nat.ne_of_lt hIlt) (by show I ≠ Cn; rw [hC]; exact Nat.ne_of_lt (Nat.lt_succ_of_lt hIlt)) hDC hcell hown (lookup_relabel_local co.hx) hkd (cap_kind co) W hst₁ hli fpOff
      (fun i v hi hp => let ⟨d, h1, h2⟩ := hP i v hi hp; ⟨d, h1, h2.move mv⟩) hacc (hnil _ _) hmove
      (fun i d hd s vs kb => turn Dl Cn Zo' ⟨.inr (.inr rfl), hDC, fun y c hy => (hcell y c hy).2, hown, ok'⟩ i d hd s vs fun b o e => kb.keep b o (fun q => by obtain ⟨q1, q2, q3⟩ := old1 b o e; exact q.elim q1 fun q => q.elim q2 q3) (k1 b o e)) (fun Inv hI n h0 => hcode Dl Cn I _ _ Inv hI n h0) fun s' vs kd ⟨m, hn⟩ hl hq => ?_
    obtain ⟨h3, t3, e3, l3⟩ := kd.same
    have := hRR Dl Cn s'.heap t3 m vs (Nat.le_trans k2.toks (by simpa using l3)) (fr Dl fun b o e => (old1 b o e).2.1) (fr Cn fun b o e => (old1 b o e).2.2) hDC hn (fun b o e => kd.keep b o (fun q => by obtain ⟨q1, q2, q3⟩ := old1 b o e; exact q.elim q1 fun q => q.elim q2 q3) (k1 b o e)) hl
      (hmove hq fun b o hz e => ⟨fun q => q.elim (fun q => hz (hZup b q)) fun q => q.elim (fun q => hz (q ▸ hZD)) fun q => hz (q ▸ hZC), e⟩)
    have e4 : s' = { s₁ with heap := s'.heap, toks := t3 } := by rw [e3, e2]
    rw [e4]; exact this
  exact hstart Dl Cn I _ _ (main _ rfl) (W.self 0 _ _ _ hst₁ (main _ rfl))
end Mine
end

section
namespace Mine
theorem sta_drop {C : Cx} {Zo : Addr → Prop} {ρ0 : Loc} {ω : Own} {s : Shared} {x : Str} {d : D} (hs : Sta C Zo ((x, d) :: ρ0) ω s) (hx : C.env.kindOf x = some .local) (hρ : ∀ y d, get ρ0 y = some d → C.env.kindOf y ≠ some .local) : Sta C Zo ρ0 ω s := by
  refine ⟨hs.base, hs.new, ?_, fun y dy hy hk => ?_, hs.cells, hs.inj, hs.own, hs.nodup, hs.apart, hs.zo, hs.tok⟩
  · obtain ⟨m, hn, _⟩ := hs.ns
    exact ⟨m, hn, fun y dy hy hl => (hρ y dy hy hl).elim⟩
  · refine hs.cell y dy ?_ hk
    simp only [get]
    rw [if_neg, hy]
    rintro rfl
    rw [hx] at hk; rcases hk with h | h <;> cases h
/-- tests, the element, and it is appended -/
theorem turn_data {C : Cx} {Zo : Addr → Prop} {ρ : Loc} {ω : Own} {Dl : Addr} {elt : Expr} {ifs : List Expr} {r : Option D} {s : Shared} {vs : List Value} {ds : List D} {post : Shared → Prop} (hs : Sta C Zo ρ ω s) (zd : Zo Dl) (hdc : Dl ≠ C.env.locals)
    (hl : s.heap.PlainList Dl vs.toArray) (hv : IsAll (C.Z Zo ω) s.heap vs ds) (hlim : ds.length ≤ lim) (hel : Pi C ρ ω ifs elt (fun q => q = r))
    (hpost : ∀ s' vs', KB (fun b => b = Dl ∨ b = C.env.locals) s s' → (∃ m, s'.heap.Ns C.env.locals m) → s'.heap.PlainList Dl vs'.toArray → IsAll (C.Z Zo ω) s'.heap vs' (ds ++ r.toList) → post s') :
    wpAny C.M C.A (forIn ifs true fun c r => if r = true then do let ok ← isTrue c C.env (eval c C.env); pure (ForInStep.yield ok) else pure (ForInStep.yield r)) (fun ok s₃ =>
      if ok = true then wpAny C.M C.A (eval elt C.env) (fun x s₄ => wpAny C.M C.A (call (.builtin "list.append") [.ref Dl, x]) (fun _ s₅ => post s₅) NoE s₄) NoE s₃ else post s₃) NoE s := by
  refine wpAny_mono (hel.run s hs) (fun ok s₃ ⟨k3, h3⟩ => ?_) fun _ _ e => e
  have hsl := hs.keeps k3
  obtain ⟨m, hn, _⟩ := hs.ns
  cases ok with
  | true =>
    simp only [if_true] at h3 ⊢
    refine wpAny_mono (h3.run s₃ hsl) (fun y s₄ ⟨k4, e, i4, h4⟩ => ?_) fun _ _ e => e
    have k := k3.trans k4
    refine wpAny_list_append_plain (hl.at fun o e => k.get _ _ e) (fun h' hl' hsame => ?_) (by rw [List.size_toArray, hv.length]; exact lim_le hlim)
    have kb : KB (fun b => b = Dl ∨ b = C.env.locals) s₄ { s₄ with heap := h' } := KB.upd (s := s₄) (tk := s₄.toks) (.inl rfl) hsame (by obtain ⟨n, ho⟩ := hl'; exact ⟨_, ho⟩) (Nat.le_refl _)
    refine hpost _ (vs ++ [y]) ((KB.of k).trans kb) ⟨m, (hn.keeps k.get).sameBut hsame (Ne.symm hdc)⟩ (by simpa using hl') ?_
    have mv : ∀ b o, ¬ C.Z Zo ω b → s₄.heap.get? b = some o → ¬ C.Z Zo ω b ∧ h'.get? b = some o := fun b o hz e => ⟨hz, (hsame.2 b fun q => hz (.inl (q ▸ zd))).trans e⟩
    rw [← h4]
    exact ((hv.keeps k.get).move mv).append (.one (i4.move mv))
  | false =>
    simp only [Bool.false_eq_true, if_false] at h3 ⊢
    refine hpost _ vs (KB.of k3) ⟨m, hn.keeps k3.get⟩ (hl.at fun o e => k3.get _ _ e) ?_
    rw [← h3]
    simpa using hv.keeps k3.get
/-- a comprehension with two fors, the second over the first one's name -/
theorem pe_comp2 {C : Cx} {ρ : Loc} {ω : Own} {l : Nat} {K : D → Prop} {elt i0 : Expr} {x0 x1 : Str} {p0 p1 pi pos : Pos} {ifs : List Expr} {scope : Scope} {cl : List (Str × Addr)} (ok : C.Ok l) (co : CompOk C scope cl x0) (hx1 : scope.names.lookup x1 = some .local)
    (hdbg : (x0 == ("__debug__" : Str)) = false)
    (h : Pe C ρ ω i0 (fun d => ∃ its, IterK true ω d = some its ∧ ∃ (f : D → List D) (g : D → Option D), (its.flatMap fun d => (f d).filterMap g).length ≤ lim ∧
      (∀ d ∈ its, (∀ ω, IterK false ω d = some (f d)) ∧ ∀ d' ∈ f d, ∀ n, Pi (C.comp scope cl n) ((x1, d') :: cap cl ρ) ω ifs elt (fun r => r = g d')) ∧ K (.list (its.flatMap fun d => (f d).filterMap g))))
    (hsf : ∀ x, foldedSetIterable i0 C.env x = pure x) : Pe C ρ ω (.ListComp elt [⟨.Name x0 p0, i0, [], 0⟩, ⟨.Name x1 p1, .Name x0 pi, ifs, 0⟩] scope pos) K := .mk fun {Zo} s hs₀ => by
  rw [eval_ListComp]
  refine wpAny_comprehension_free (use := none) rfl hsf co.clos co.kind co.names (wpAny_mono (h.run s hs₀) (fun xv s₁ X => ?_) fun _ _ e => e)
  obtain ⟨k1, d, i1, its, hit, f, g, hlim, hel, hK⟩ := X
  have hs1 := hs₀.keeps k1
  refine comp_enter (px := p0) (RR := fun acc C' => compPost C.M C.A NoE none (Gv (C.Z Zo ω) s K) acc C') (Q := fun Z done vs h => IsAll Z h vs (done.flatMap fun d => (f d).filterMap g)) ok co hs1 i1 hit (fun q mv => IsAll.move q mv) (fun Z h => .nil)
    (TurnW := fun Dl Cn post s => wpAny C.M C.A (forIn ([] : List Expr) true fun c r => if r = true then do let ok ← isTrue c (compEnvC scope cl Cn C.env) (eval c (compEnvC scope cl Cn C.env)); pure (ForInStep.yield ok) else pure (ForInStep.yield r)) (fun ok s₃ =>
            if ok = true then wpAny C.M C.A (eval (.Name x0 pi) (compEnvC scope cl Cn C.env)) (fun x s₄ => wpAny C.M C.A (pyIter x) (fun it1 s₅ =>
              codeAny C.M C.A (.compStart (.ListComp elt [⟨.Name x0 p0, i0, [], 0⟩, ⟨.Name x1 p1, .Name x0 pi, ifs, 0⟩] scope pos) 1 it1 (.ref Dl) (compEnvC scope cl Cn C.env)) (fun r s₆ => match r with | .ok _ => post s₆ | .error _ => False) s₅) NoE s₄) NoE s₃
            else post s₃) NoE s) ?_ (fun Dl Cn I R s Inv hI n h0 => compLoop_two0 Inv hI n h0) (fun Dl Cn I R s h0 h1 => codeAny_compStart_list h0 (wpAny_mono h1 (fun _ _ q => q) fun _ _ e => e.elim)) fun Dl Cn h₂ tk m vs htk fD fC hDC hn hk hl hvs => ?_
  · intro Dl Cn Zo' T i d hd s vs _ hs hl hq post hpost
    have hdm : d ∈ its := List.mem_of_getElem? hd
    obtain ⟨hitd, heli⟩ := hel d hdm
    have hkx0 : (C.comp scope cl Cn).env.kindOf x0 = some .local := lookup_relabel_local co.hx
    have hkx1 : (C.comp scope cl Cn).env.kindOf x1 = some .local := lookup_relabel_local hx1
    have htake : (its.take (i + 1)).flatMap (fun d => (f d).filterMap g) = (its.take i).flatMap (fun d => (f d).filterMap g) ++ (f d).filterMap g := by
      rw [List.take_add_one, hd, List.flatMap_append]; simp
    have hlen : ∀ j, ((its.take i).flatMap (fun d => (f d).filterMap g) ++ ((f d).take j).filterMap g).length ≤ lim := by
      intro j
      have e1 : its = its.take i ++ d :: its.drop (i + 1) := by
        obtain ⟨h1, h2⟩ := List.getElem?_eq_some_iff.mp hd
        conv => lhs; rw [← List.take_append_drop i its, List.drop_eq_getElem_cons h1, h2]
      have e2 : (its.flatMap fun d => (f d).filterMap g).length = ((its.take i).flatMap fun d => (f d).filterMap g).length + ((f d).filterMap g).length + ((its.drop (i + 1)).flatMap fun d => (f d).filterMap g).length := by
        conv => lhs; rw [e1]
        simp only [List.flatMap_append, List.flatMap_cons, List.length_append]; omega
      have e3 : ((f d).filterMap g).length = (((f d).take j).filterMap g).length + (((f d).drop j).filterMap g).length := by
        conv => lhs; rw [← List.take_append_drop j (f d)]
        rw [List.filterMap_append, List.length_append]
      rw [List.length_append]; omega
    refine wpAny_tests_nil ?_
    simp only [if_true]
    refine wpAny_mono ((pe_loc (C := C.comp scope cl Cn) (x := x0) (p := pi) (K := fun d' => d' = d) T.ok (by simp [get]) hkx0 rfl hdbg).run s hs) (fun xv s₄ ⟨k4, d', i4, e4⟩ => ?_) fun _ _ e => e
    subst e4
    have hs4 := hs.keeps k4
    refine wpAny_mono (iter_doc (C := C.comp scope cl Cn) false T.ok hs4 i4 (hitd ω)) (fun it s₅ Y => ?_) fun _ _ e => e
    obtain ⟨k5, I2, rfl, hI2, fp, P, St, W, hst, hli, hfpz, hfpl, hP⟩ := Y
    have hs4' := sta_drop hs4 hkx0 (cap_kind co)
    have hs5 := hs4'.guard hI2 k5 (hli 0 _ hst)
    have k45 := k4.trans k5
    have l4 : s₄.heap.PlainList Dl vs.toArray := hl.at fun o e => k4.get _ _ e
    have nI : ∀ b o, s₄.heap.get? b = some o → b ≠ I2 := fun b o e q => by rw [q, hI2] at e; cases e
    obtain ⟨nD, hoD⟩ := id l4
    obtain ⟨m4, hn4, _⟩ := hs4.ns
    obtain ⟨oC, _, _, hoC, _⟩ := id hn4
    have mv : ∀ b o, ¬ (C.comp scope cl Cn).Z Zo' ω b → s₄.heap.get? b = some o → ¬ (C.comp scope cl Cn).Z (fun a => Zo' a ∨ a = I2) ω b ∧ s₅.heap.get? b = some o := fun b o hz e =>
      ⟨fun q => q.elim (fun q => q.elim (fun q => hz (.inl q)) (nI b o e)) fun q => hz (.inr q), k5.get b o e⟩
    have main : codeAny C.M C.A (.compLoop (.ListComp elt [⟨.Name x0 p0, i0, [], 0⟩, ⟨.Name x1 p1, .Name x0 pi, ifs, 0⟩] scope pos) 1 (.ref I2) (.ref Dl) (compEnvC scope cl Cn C.env)) (fun r s₆ => match r with | .ok _ => post s₆ | .error _ => False) s₅ := by
      have hkd : ((compEnvC scope cl Cn C.env).scope.kind == .class || ((compEnvC scope cl Cn C.env).scope.kind == .module && (compEnvC scope cl Cn C.env).locals != (compEnvC scope cl Cn C.env).globals)) = false := by simp [compEnvC, relabel, co.kind]
      refine loopL (C := C.comp scope cl Cn) (Zo := fun a => Zo' a ∨ a = I2) (x := x1) (px := p1) (Q := fun Z done vs h => IsAll Z h vs ((its.take i).flatMap (fun d => (f d).filterMap g) ++ done.filterMap g)) (vs0 := vs) (its := f d')
        (TurnW := fun post s => wpAny C.M C.A (forIn ifs true fun c r => if r = true then do let ok ← isTrue c (compEnvC scope cl Cn C.env) (eval c (compEnvC scope cl Cn C.env)); pure (ForInStep.yield ok) else pure (ForInStep.yield r)) (fun ok s₃ =>
            if ok = true then wpAny C.M C.A (eval elt (compEnvC scope cl Cn C.env)) (fun x s₄ => wpAny C.M C.A (call (.builtin "list.append") [.ref Dl, x]) (fun _ s₅ => post s₅) NoE s₄) NoE s₃ else post s₃) NoE s)
        hs5 (.inr rfl) (.inl T.zd) (nI _ _ hoD).symm (nI _ _ hoC).symm T.dc (fun y c hy => ?_) T.own hkx1 hkd (cap_kind co) W hst hli (fun b hb => ?_) (fun j v hj hp => let ⟨d, h1, h2⟩ := hP j v hj hp; ⟨d, h1, h2.move mv⟩) (l4.at fun o e => k5.get _ _ e) ?_ (fun q mv => IsAll.move q mv) ?_ (fun Inv hI n h0 => compLoop_two1 Inv hI n h0) fun s' vs' kd hn hl' hq' => ?_
      · obtain ⟨u, o, h2, _⟩ := hs4.cells y c hy
        exact ⟨nI c o h2, T.cell y c hy⟩
      · by_cases q : b = I2
        · subst q; exact ⟨(nI _ _ hoD).symm, (nI _ _ hoC).symm⟩
        · have hz := hfpz rfl b hb q
          exact ⟨fun e => hz (.inl (e ▸ T.zd)), fun e => hz (.inr (.inl e))⟩
      · rw [List.filterMap_nil, List.append_nil]
        exact (hq.keeps k4.get).move mv
      · intro j d1 hd1 s vs _ hs hl hq post hpost
        refine turn_data (C := C.comp scope cl Cn) hs (.inl T.zd) T.dc hl hq (hlen j) (heli d1 (List.mem_of_getElem? hd1) Cn) fun s' vs' kb hn hl' hi => hpost s' vs' kb hn hl' ?_
        have : ((f d').take (j + 1)).filterMap g = ((f d').take j).filterMap g ++ (g d1).toList := by
          rw [List.take_add_one, hd1, List.filterMap_append]; cases hg : g d1 <;> simp [hg]
        rw [this, ← List.append_assoc]
        exact hi
      · refine hpost s' vs' ?_ hn hl' ?_
        · obtain ⟨h6, t6, e6, l6⟩ := kd.same
          obtain ⟨h5, t5, e5, _, l5⟩ := id k45
          refine ⟨⟨h6, t6, by rw [e6, e5], Nat.le_trans k45.toks l6⟩, fun b o q e => ?_, fun b o e => ?_⟩
          · exact kd.keep b o (fun z => z.elim (nI b o (k4.get b o e)) fun z => q z) (k45.get b o e)
          · exact kd.live b o (nI b o (k4.get b o e)) (k45.get b o e)
        · rw [htake]
          exact hq'.move fun b o hz e => ⟨fun q => hz (q.elim (fun q => .inl (.inl q)) fun q => .inr q), e⟩
    exact compStart_two1 main (W.self 0 _ _ _ hst main)
  · refine ⟨m, hn, fun h₃ hs₃ => ?_⟩
    have k03 : ∀ b o, s₁.heap.get? b = some o → h₃.get? b = some o := fun b o e => (hs₃.2 b (by rintro rfl; rw [fC] at e; cases e)).trans (hk b o e)
    refine ⟨k1.trans ⟨h₃, tk, rfl, k03, htk⟩, .list (its.flatMap fun d => (f d).filterMap g), .list (vs := vs) (fun q => ?_) ?_ ?_, hK⟩
    · obtain ⟨o, ho⟩ := hs1.live Dl q; rw [fD] at ho; cases ho
    · exact (hl.at fun o e => (hs₃.2 Dl hDC).trans e).isList
    · exact hvs.move fun b o hz e => ⟨fun q => hz (.inl q), (hs₃.2 b fun q => hz (.inr (.inr q))).trans e⟩
end Mine
end

section
namespace Mine
section
variable {prog : Program} {w : World} {A : Around} {E : Value → Shared → Prop} {h : Heap} {g : Array GenState} {d : Drawn} {t : Nat} {os : OsState} {a : Addr} {o : Obj}
end
section
variable {C : Cx} {ρ : Loc} {ω : Own} {K : D → Prop}
end
end Mine
end

section
namespace Mine
section
variable {M : Model} {A : Around} {E : Value → Shared → Prop} {s : Shared} {prog : Program} {w : World}
end
section
variable {C : Cx} {ρ : Loc} {ω : Own} {K : Fl → Loc → Own → Prop}
end
end Mine
end

section
namespace Mine
section
variable {C : Cx} {Zo : Addr → Prop} {ρ : Loc} {ω : Own} {l : Nat}
end
section
variable {C : Cx} {Zo : Addr → Prop} {ρ : Loc} {ω : Own} {l : Nat} {K : Fl → Loc → Own → Prop}
end
end Mine
end

section
namespace Mine
section
variable {C : Cx} {Zo : Addr → Prop} {ρ : Loc} {ω : Own} {l : Nat} {K : Fl → Loc → Own → Prop}
/-- many new lists of one's own -/
theorem own_many {s s' : Shared} {ω1 : Own} (hs : Sta C Zo ρ ω s) (k : Kp s s') (hf : ∀ a ∈ ω1.map (·.1), s.heap.get? a = none) (hnd : (ω1.map (·.1)).Nodup)
    (hown : ∀ p ∈ ω1, ∃ vs, s'.heap.PlainList p.1 vs.toArray ∧ IsAll (C.Z Zo (ω1 ++ ω)) s'.heap vs p.2) : Sta C Zo ρ (ω1 ++ ω) s' ∧ Step C ω (ω1 ++ ω) s s' := by
  have hk := k.get
  have hZ : ∀ b, C.Z Zo (ω1 ++ ω) b → b ∈ ω1.map (·.1) ∨ C.Z Zo ω b := by
    rintro b (h | h | h | h)
    · exact .inr (.inl h)
    · exact .inr (.inr (.inl h))
    · exact .inr (.inr (.inr (.inl h)))
    · rw [List.map_append] at h
      exact (List.mem_append.mp h).imp id fun h => .inr (.inr (.inr h))
  have mv : ∀ b o, ¬ C.Z Zo ω b → s.heap.get? b = some o → ¬ C.Z Zo (ω1 ++ ω) b ∧ s'.heap.get? b = some o := fun b o hz e =>
    ⟨fun q => (hZ b q).elim (fun q => by rw [hf b q] at e; cases e) hz, hk b o e⟩
  refine ⟨⟨fun b o e => hk b o (hs.base b o e), fun b hb => ?_, ?_, fun y dy hy hl => ?_, fun y c hy => ?_, hs.inj, fun p hp => ?_, ?_, fun a ha h => ?_, fun b hb => ?_, Nat.lt_of_lt_of_le hs.tok k.toks⟩, ⟨?_, fun b o _ e => hk b o e, fun b o e => ⟨o, hk b o e⟩, fun b hb => ?_⟩⟩
  · rcases hZ b hb with h | h
    · cases e : C.h₀.get? b with
      | none => rfl
      | some o => have := hs.base _ o e; rw [hf b h] at this; cases this
    · exact hs.new b h
  · obtain ⟨m, hn, hm⟩ := hs.ns
    exact ⟨m, hn.keeps hk, fun y d hy hl => let ⟨v, h1, h2⟩ := hm y d hy hl; ⟨v, h1, h2.move mv⟩⟩
  · obtain ⟨c, v, h1, ⟨o, h2, h2'⟩, h3⟩ := hs.cell y dy hy hl
    exact ⟨c, v, h1, ⟨o, hk _ _ h2, h2'⟩, h3.move mv⟩
  · obtain ⟨v, o, h2, h2'⟩ := hs.cells y c hy
    exact ⟨v, o, hk _ _ h2, h2'⟩
  · rcases List.mem_append.mp hp with hp | hp
    · exact hown p hp
    · obtain ⟨ws, h1, h2⟩ := hs.own p hp
      exact ⟨ws, h1.at fun o e => hk _ _ e, h2.move mv⟩
  · rw [List.map_append, List.nodup_append]
    refine ⟨hnd, hs.nodup, fun a ha b hb q => ?_⟩
    subst q
    obtain ⟨o, ho⟩ := hs.live a (mu_own (Zo := Zo) hb)
    rw [hf a ha] at ho; cases ho
  · rw [List.map_append] at ha
    rcases List.mem_append.mp ha with ha | ha
    · obtain ⟨o, ho⟩ := hs.zo a h; rw [hf a ha] at ho; cases ho
    · exact hs.apart a ha h
  · obtain ⟨o, ho⟩ := hs.zo b hb; exact ⟨o, hk _ _ ho⟩
  · obtain ⟨h', tk, e, _, l⟩ := k; exact ⟨h', tk, e, l⟩
  · rw [List.map_append] at hb
    exact (List.mem_append.mp hb).elim (fun h => .inr (hf b h)) .inl
theorem Z_perm {ω' : Own} (h : ω.Perm ω') : C.Z Zo ω = C.Z Zo ω' := by
  funext b
  have := (h.map (·.1)).mem_iff (a := b)
  simp only [Cx.Z, Cx.Mu, this]
theorem sta_perm {ω' : Own} {s : Shared} (h : ω.Perm ω') (hs : Sta C Zo ρ ω s) : Sta C Zo ρ ω' s := by
  have hz : C.Z Zo ω' = C.Z Zo ω := (Z_perm h).symm
  refine ⟨hs.base, by rw [hz]; exact hs.new, by rw [hz]; exact hs.ns, by rw [hz]; exact hs.cell, hs.cells, hs.inj, fun p hp => by rw [hz]; exact hs.own p (h.mem_iff.mpr hp), ((h.map (·.1)).nodup_iff).mp hs.nodup, fun a ha => hs.apart a ((h.map (·.1)).mem_iff.mpr ha), hs.zo, hs.tok⟩
theorem exs_perm {ω' : Own} {sts : List Stmt} (h : ω.Perm ω') (hx : Exs C ρ ω' sts K) : Exs C ρ ω sts K := .mk fun {Zo} s hs =>
  wpAny_mono (hx.run s (sta_perm h hs)) (fun f s' o => o.after ⟨⟨_, _, rfl, Nat.le_refl _⟩, fun _ _ _ e => e, fun _ o e => ⟨o, e⟩, fun a ha => .inl ((h.map (·.1)).mem_iff.mpr ha)⟩) fun _ _ e => e
theorem exs_nodup {sts : List Stmt} (hx : (ω.map (·.1)).Nodup → Exs C ρ ω sts K) : Exs C ρ ω sts K := .mk fun {Zo} s hs => (hx hs.nodup).run s hs
theorem ex_nodup {st : Stmt} (hx : (ω.map (·.1)).Nodup → Ex C ρ ω st K) : Ex C ρ ω st K := .mk fun {Zo} s hs => (hx hs.nodup).run s hs
end
mutual
/-- own lists within own lists, let go -/
inductive Deep (ω : Own) : D → D → Prop where
  | same (d : D) : Deep ω d d
  | list {a : Addr} {ds es : List D} : getO ω a = some ds → DeepAll ω ds es → Deep ω (.val (.ref a)) (.list es)
inductive DeepAll (ω : Own) : List D → List D → Prop where
  | nil : DeepAll ω [] []
  | cons {d e : D} {ds es : List D} : Deep ω d e → DeepAll ω ds es → DeepAll ω (d :: ds) (e :: es)
end
section
variable {C : Cx} {Zo : Addr → Prop} {ρ : Loc} {ω : Own} {l : Nat} {K : Fl → Loc → Own → Prop}
theorem Z_none {b : Addr} (h : C.Z Zo [] b) : C.Z Zo ω b := by
  rcases h with h | h | h | h
  · exact .inl h
  · exact .inr (.inl h)
  · exact .inr (.inr (.inl h))
  · simp at h
mutual
theorem Deep.is {s : Shared} (hs : Sta C Zo ρ ω s) : ∀ {d d' : D} {v : Value}, Deep ω d d' → Is (C.Z Zo ω) s.heap v d → Is (C.Z Zo []) s.heap v d'
  | d, _, v, .same _, i => i.move fun b o hz e => ⟨fun q => hz (Z_none q), e⟩
  | _, _, v, .list hg ha, i => by
    cases i
    obtain ⟨vs, h1, h2⟩ := hs.ownL _ (getO_mem hg)
    refine .list ?_ h1 (DeepAll.is hs ha h2)
    rintro (h | h | ⟨y, h⟩ | h)
    · exact hs.apart _ (List.mem_map.mpr ⟨_, getO_mem hg, rfl⟩) h
    · exact own_not_loc hs (getO_mem hg) h
    · exact own_not_cell hs (getO_mem hg) h rfl
    · simp at h
theorem DeepAll.is {s : Shared} (hs : Sta C Zo ρ ω s) : ∀ {ds es : List D} {vs : List Value}, DeepAll ω ds es → IsAll (C.Z Zo ω) s.heap vs ds → IsAll (C.Z Zo []) s.heap vs es
  | _, _, _, .nil, i => by cases i; exact .nil
  | _, _, _, .cons a b, i => by cases i with | cons x y => exact .cons (Deep.is hs a x) (DeepAll.is hs b y)
end
/-- all own lists are let go -/
theorem sta_all {s : Shared} {x : Str} {d d' : D} (hs : Sta C Zo ρ ω s) (hx : get ρ x = some d) (hd : Deep ω d d') : Sta C Zo (put ρ x d') [] s := by
  have mv : ∀ b o, ¬ C.Z Zo ω b → s.heap.get? b = some o → ¬ C.Z Zo [] b ∧ s.heap.get? b = some o := fun b o hz e => ⟨fun q => hz (Z_none q), e⟩
  refine ⟨hs.base, fun b h => hs.new b (Z_none h), ?_, ?_, hs.cells, hs.inj, (fun p hp => by cases hp), by simp, (fun a ha => by simp at ha), hs.zo, hs.tok⟩
  · obtain ⟨m, hn, hm⟩ := hs.ns
    refine ⟨m, hn, fun y dy hy hk => ?_⟩
    rw [get_put] at hy
    by_cases e : y = x
    · subst e
      rw [if_pos rfl] at hy
      cases hy
      obtain ⟨v, h1, h2⟩ := hm y _ hx hk
      exact ⟨v, h1, hd.is hs h2⟩
    · rw [if_neg e] at hy
      obtain ⟨v, h1, h2⟩ := hm y dy hy hk
      exact ⟨v, h1, h2.move mv⟩
  · intro y dy hy hk
    rw [get_put] at hy
    by_cases e : y = x
    · subst e
      rw [if_pos rfl] at hy
      cases hy
      obtain ⟨c, v, h0, h1, h2⟩ := hs.cell y _ hx hk
      exact ⟨c, v, h0, h1, hd.is hs h2⟩
    · rw [if_neg e] at hy
      obtain ⟨c, v, h0, h1, h2⟩ := hs.cell y dy hy hk
      exact ⟨c, v, h0, h1, h2.move mv⟩
theorem exs_all {sts : List Stmt} (x : Str) {d d' : D} (hx : get ρ x = some d) (hd : Deep ω d d') (h : Exs C (put ρ x d') [] sts K) : Exs C ρ ω sts K := .mk fun {Zo} s hs =>
  wpAny_mono (h.run s (sta_all hs hx hd)) (fun f s' o => o.after ⟨⟨_, _, rfl, Nat.le_refl _⟩, fun _ _ _ e => e, fun _ o e => ⟨o, e⟩, (fun a ha => by simp at ha)⟩) fun _ _ e => e
/-- a new own list is appended to an own list -/
theorem ex_appendN {o : Expr} {es : List Expr} {apos pos p2 pl : Pos}
    (h : Pe C ρ ω o (fun d => ∃ a ds, d = .val (.ref a) ∧ getO ω a = some ds ∧ ds.length ≤ lim ∧ Pl C ρ ω es (fun xs => xs.length ≤ lim ∧ ∀ b, b ∉ ω.map (·.1) → K .next ρ (setO ((b, xs) :: ω) a (ds ++ [.val (.ref b)])))))
    (hbase : attributeBase o (Str.ofString "append") C.env (eval o C.env) = eval o C.env)
    (hfew : ((backTo pos (starEach [Expr.List es pl] C.env)).all (fun x => !x.1) && (backToKw pos (keywordEach [] C.env)).all (fun x => x.1.isSome)
      && decide (([Expr.List es pl] : List Expr).length + ([] : List Keyword).length + (if ([] : List Keyword).isEmpty then 0 else 1) < 30)) = true)
    (hline : (apos.endLine == pos.line) = true)
    (he : starEach [Expr.List es pl] C.env = (false, eval (.List es pl) C.env) :: starEach [] C.env) (hplain : (backTo pos (starEach [] C.env)).any (·.1) = false)
    (hint : interactive C.env = false) (hsw : swapsWith (.Call (.Attribute o (Str.ofString "append") apos) [Expr.List es pl] [] pos) none p2.line C.env = pure false) :
    Ex C ρ ω (.Expr (.Call (.Attribute o (Str.ofString "append") apos) [Expr.List es pl] [] pos) p2) K := .mk fun {Zo} s hs => by
  refine wpAny_Expr_any ?_ hint hsw
  refine wpAny_Call_method_lateS hbase hfew hline (wpAny_mono (h.run s hs) (fun ov s₁ x => ?_) fun _ _ e => e)
  obtain ⟨k1, d, i1, a, ds, rfl, hg, hlen, h1⟩ := x
  cases i1
  have hs1 := hs.keeps k1
  obtain ⟨vs, hl, hi⟩ := hs1.own _ (getO_mem hg)
  have ho := hl
  obtain ⟨n, ho⟩ := ho
  refine ⟨"list", _, F.plainAttrs_list, F.slot_list_append, F.type_list_append, hl.isList.typeIs, (fun b e => by cases e; exact ⟨_, ho, rfl⟩), ?_⟩
  refine callWith_method1 (first := [.ref a]) ?_ he hplain
  refine wpAny_items_cons ?_ he
  refine wpAny_List (wpAny_mono (h1.run s₁ pl hs1) (fun ws s₂ ⟨k2, xs, i2, hxl, hK⟩ => ⟨lim_le (by rw [i2.length]; exact hxl), ?_⟩) fun _ _ e => e)
  refine Calls.spliced_nil ?_
  have hs2 := hs1.keeps k2
  obtain ⟨hs3, st3⟩ := own_new hs2 i2
  have hb : s₂.heap.objs.size ∉ ω.map (·.1) := fun q => by
    obtain ⟨o, ho⟩ := hs2.live _ (mu_own (Zo := Zo) q)
    exact Nat.lt_irrefl _ (Heap.lt_size ho)
  have hg3 : getO ((s₂.heap.objs.size, xs) :: ω) a = some ds := by
    simp only [getO]
    rw [if_neg, hg]
    rintro rfl
    exact hb (List.mem_map.mpr ⟨_, getO_mem hg, rfl⟩)
  obtain ⟨vs, hl, hi⟩ := hs3.own _ (getO_mem hg3)
  refine wpAny_list_append_plain hl (fun h' hl' hsame => ?_) (by rw [List.size_toArray, hi.length]; exact lim_le hlen)
  obtain ⟨hs4, st⟩ := own_change (tk := s₂.toks) (es := ds ++ [.val (.ref s₂.heap.objs.size)]) (vs := vs ++ [.ref s₂.heap.objs.size]) hs3 (List.mem_map.mpr ⟨_, getO_mem hg3, rfl⟩) (by simpa using hl') hsame (hi.append (.one .val))
  exact ⟨.next, ρ, _, trivial, hs4, (((k1.trans k2).step).trans st3).trans st, hK _ hb⟩
end
end Mine
end

section
namespace Mine
section
variable {prog : Program} {w : World} {A : Around} {R : Result → Shared → Prop} {s : Shared}
theorem compLoop_one {elt t0 i0 : Expr} {ifs0 : List Expr} {scope : Scope} {pos : Pos} {it acc : Value} {env : Env} (I : Nat → Shared → Prop)
    (turn : ∀ n s, I n s → wpAny (model prog w) A (pyNext it) (fun r s₁ => match r with
      | none => R (.ok .next) s₁
      | some v => wpAny (model prog w) A (assign t0 env v) (fun _ s₂ =>
          wpAny (model prog w) A (forIn ifs0 true fun c r => if r = true then do let ok ← isTrue c env (eval c env); pure (ForInStep.yield ok) else pure (ForInStep.yield r)) (fun ok s₃ =>
            if ok = true then wpAny (model prog w) A (eval elt env) (fun x s₄ =>
              wpAny (model prog w) A (call (.builtin "list.append") [acc, x]) (fun _ s₅ => ∃ m, m < n ∧ I m s₅) NoE s₄) NoE s₃
            else ∃ m, m < n ∧ I m s₃) NoE s₂) NoE s₁) NoE s)
    (n : Nat) (h : I n s) (ht : ∀ v, letOwnedTupleGo t0 it v = pure () := by intro _; rfl) :
    codeAny (model prog w) A (.compLoop (.ListComp elt [⟨t0, i0, ifs0, 0⟩] scope pos) 0 it acc env) R s := by
  refine codeAny_loop rfl I (fun n s hI => ?_) n h
  show wpAny _ A ((compTurn (.ListComp elt [⟨t0, i0, ifs0, 0⟩] scope pos) 0 it acc env).onRaise (fun x => do noteFrame x env; theTreesLotGoes x)) _ _ s
  refine wpAny_noted ?_
  rw [compTurn_list]
  refine wpAny_bind (wpAny_standAt (wpAny_bind (wpAny_mono (turn n s hI) (fun r s₁ h₁ => ?_) fun _ _ h' => h'.elim)))
  cases r with
  | none => exact wpAny_pure h₁
  | some v =>
    refine wpAny_bind (wpAny_of_eq (ht v) ?_)
    refine wpAny_bind (wpAny_mono h₁ (fun _ s₂ h₂ => wpAny_bind (wpAny_mono h₂ (fun ok s₃ h₃ => ?_) fun _ _ h' => h'.elim)) fun _ _ h' => h'.elim)
    cases ok with
    | false => exact wpAny_pure ⟨rfl, h₃⟩
    | true =>
      exact wpAny_bind (wpAny_bind (wpAny_mono h₃ (fun x s₄ h₄ => wpAny_bind (wpAny_mono h₄ (fun _ s₅ h₅ => wpAny_pure (wpAny_pure ⟨rfl, h₅⟩)) fun _ _ h' => h'.elim)) fun _ _ h' => h'.elim))
end
/-- data without addresses, anywhere -/
def AllP (vs : List Value) (ds : List D) : Prop := ∀ Z h, IsAll Z h vs ds
theorem atom_any {Z Z' : Addr → Prop} {h h' : Heap} {v : Value} {d : D} (ha : Atom d) (i : Is Z h v d) : Is Z' h' v d := by
  cases i with
  | none => exact .none
  | bool => exact .bool
  | int => exact .int
  | str => exact .str
  | _ => exact ha.elim
theorem atoms_all {Z : Addr → Prop} {h : Heap} : ∀ {ds : List D} {vs : List Value}, IsAll Z h vs ds → (∀ e ∈ ds, Atom e) → AllP vs ds
  | [], _, i, _ => by cases i; exact fun _ _ => .nil
  | d :: ds, _, i, ha => by
    cases i with
    | cons x y => exact fun Z' h' => .cons (atom_any (ha d (.head _)) x) (atoms_all y (fun e he => ha e (.tail _ he)) Z' h')
/-- places and stages, new -/
inductive New2 (f : D → List D) (h : Heap) : List (Addr × Addr) → List D → Prop where
  | nil : New2 f h [] []
  | cons {a : Addr × Addr} {d : D} {ad : List (Addr × Addr)} {ds : List D} {ws : List Value} : h.PlainList a.1 [Value.ref a.2].toArray → h.PlainList a.2 ws.toArray → AllP ws (f d) → New2 f h ad ds → New2 f h (a :: ad) (d :: ds)
def adrs (ad : List (Addr × Addr)) : List Addr := ad.flatMap fun a => [a.1, a.2]
theorem New2.move {f : D → List D} {h h' : Heap} {ad : List (Addr × Addr)} {ds : List D} (n : New2 f h ad ds) (hk : ∀ b ∈ adrs ad, ∀ o, h.get? b = some o → h'.get? b = some o) : New2 f h' ad ds := by
  induction n with
  | nil => exact .nil
  | cons h1 h2 h3 _ ih =>
    refine .cons (h1.at fun o e => hk _ (by simp [adrs]) o e) (h2.at fun o e => hk _ (by simp [adrs]) o e) h3 (ih fun b hb o e => hk b ?_ o e)
    simp only [adrs, List.flatMap_cons, List.mem_append] at hb ⊢
    exact .inr hb
theorem New2.len {f : D → List D} {h : Heap} {ad : List (Addr × Addr)} {ds : List D} (n : New2 f h ad ds) : ad.length = ds.length := by
  induction n with
  | nil => rfl
  | cons _ _ _ _ ih => simp [ih]
theorem New2.snoc {f : D → List D} {h : Heap} {ad : List (Addr × Addr)} {ds : List D} (n : New2 f h ad ds) {a : Addr × Addr} {d : D} {ws : List Value} (h1 : h.PlainList a.1 [Value.ref a.2].toArray) (h2 : h.PlainList a.2 ws.toArray) (h3 : AllP ws (f d)) : New2 f h (ad ++ [a]) (ds ++ [d]) := by
  induction n with
  | nil => exact .cons h1 h2 h3 .nil
  | cons q1 q2 q3 _ ih => exact .cons q1 q2 q3 ih
theorem New2.live {f : D → List D} {h : Heap} {ad : List (Addr × Addr)} {ds : List D} (n : New2 f h ad ds) : ∀ a ∈ adrs ad, ∃ o, h.get? a = some o := by
  induction n with
  | nil => intro a ha; simp [adrs] at ha
  | cons h1 h2 _ _ ih =>
    intro a ha
    simp only [adrs, List.flatMap_cons, List.mem_append, List.mem_cons, List.not_mem_nil, or_false] at ha
    rcases ha with (rfl | rfl) | ha
    · obtain ⟨n, e⟩ := h1; exact ⟨_, e⟩
    · obtain ⟨n, e⟩ := h2; exact ⟨_, e⟩
    · exact ih a ha
def own3 (f : D → List D) : List (Addr × Addr) → List D → Own
  | a :: ad, d :: ds => (a.1, [.val (.ref a.2)]) :: (a.2, f d) :: own3 f ad ds
  | _, _ => []
theorem New2.keys {f : D → List D} {h : Heap} {ad : List (Addr × Addr)} {ds : List D} (n : New2 f h ad ds) : (own3 f ad ds).map (·.1) = adrs ad := by
  induction n with
  | nil => rfl
  | cons _ _ _ _ ih => simp [own3, adrs, ih] at ih ⊢
theorem New2.own {f : D → List D} {h : Heap} {ad : List (Addr × Addr)} {ds : List D} (n : New2 f h ad ds) (Z : Addr → Prop) : ∀ p ∈ own3 f ad ds, ∃ vs, h.PlainList p.1 vs.toArray ∧ IsAll Z h vs p.2 := by
  induction n with
  | nil => intro p hp; cases hp
  | cons h1 h2 h3 _ ih =>
    intro p hp
    simp only [own3, List.mem_cons] at hp
    rcases hp with rfl | rfl | hp
    · exact ⟨_, h1, .one .val⟩
    · exact ⟨_, h2, h3 _ _⟩
    · exact ih p hp
theorem nodup_snoc2 {l : List Addr} {a b : Addr} (h : l.Nodup) (ha : a ∉ l) (hb : b ∉ l) (hab : a ≠ b) : (l ++ [a, b]).Nodup := by
  rw [List.nodup_append]
  refine ⟨h, by simp [hab], fun x hx y hy q => ?_⟩
  subst q
  simp only [List.mem_cons, List.not_mem_nil, or_false] at hy
  rcases hy with rfl | rfl
  · exact ha hx
  · exact hb hx
/-- a name gets a comprehension's list, and its lists of lists are one's own -/
theorem ex_assign_own {C : Cx} {ρ : Loc} {ω : Own} {l : Nat} {K : Fl → Loc → Own → Prop} {es : List Expr} {iter : Expr} {x y : Str} {px py pos spos pa pb : Pos} {scope : Scope} {cl : List (Str × Addr)} (ok : C.Ok l) (co : CompOk C scope cl x) (hy : Stor C y)
    (h : Pe C ρ ω iter (fun d => ∃ its, IterK true ω d = some its ∧ its.length ≤ lim ∧ ∃ f : D → List D, (∀ d ∈ its, (∀ e ∈ f d, Atom e) ∧ (f d).length ≤ lim ∧ ∀ n, Pl (C.comp scope cl n) ((x, d) :: cap cl ρ) ω es (fun ds => ds = f d)) ∧
      ∀ L ad, ad.length = its.length → K .next (put ρ y (.val (.ref L))) ((L, ad.map fun a => .val (.ref a.1)) :: (own3 f ad its ++ ω))))
    (hsf : ∀ x, foldedSetIterable iter C.env x = pure x) (he : ∀ env, starEach [Expr.List es pa] env = (false, eval (.List es pa) env) :: starEach [] env)
    (hsw : swapsWith (.ListComp (.List [.List es pa] pb) [⟨.Name x px, iter, [], 0⟩] scope pos) (some (.Name y py)) spos.line C.env = pure false) : Ex C ρ ω (.Assign [.Name y py] (.ListComp (.List [.List es pa] pb) [⟨.Name x px, iter, [], 0⟩] scope pos) spos) K := .mk fun {Zo} s hs₀ => by
  refine wpAny_Assign_Name ?_ hsw
  rw [eval_ListComp]
  refine wpAny_comprehension_free (use := none) rfl hsf co.clos co.kind co.names (wpAny_mono (h.run s hs₀) (fun xv s₁ X => ?_) fun _ _ e => e)
  obtain ⟨k1, d, i1, its, hit, hlim, f, hel, hK⟩ := X
  have hs1 := hs₀.keeps k1
  refine comp_enter (px := px) (RR := fun acc C' => compPost C.M C.A NoE none _ acc C') (Q := fun Z done vs h => ∃ ad, vs = ad.map (fun a => Value.ref a.1) ∧ New2 f h ad done ∧ (adrs ad).Nodup ∧ ∀ a ∈ adrs ad, ¬ Z a ∧ s₁.heap.get? a = none) ok co hs1 i1 hit
    (by
      intro Z Z' its' vs h h' ⟨ad, q1, q2, q3, q4⟩ mv
      refine ⟨ad, q1, q2.move (fun b hb o e => (mv b o (q4 b hb).1 e).2), q3, fun a ha => ⟨?_, (q4 a ha).2⟩⟩
      obtain ⟨o, ho⟩ := q2.live a ha
      exact (mv a o (q4 a ha).1 ho).1) (fun Z h => ⟨[], rfl, .nil, by simp [adrs], by simp [adrs]⟩)
    (TurnW := fun Dl Cn post s => wpAny C.M C.A (forIn ([] : List Expr) true fun c r => if r = true then do let ok ← isTrue c (compEnvC scope cl Cn C.env) (eval c (compEnvC scope cl Cn C.env)); pure (ForInStep.yield ok) else pure (ForInStep.yield r)) (fun ok s₃ =>
            if ok = true then wpAny C.M C.A (eval (.List [.List es pa] pb) (compEnvC scope cl Cn C.env)) (fun x s₄ => wpAny C.M C.A (call (.builtin "list.append") [.ref Dl, x]) (fun _ s₅ => post s₅) NoE s₄) NoE s₃ else post s₃) NoE s) ?_ (fun Dl Cn I R s Inv hI n h0 => compLoop_one Inv hI n h0) (fun Dl Cn I R s h0 h1 => codeAny_compStart_list h0 (wpAny_mono h1 (fun _ _ q => q) fun _ _ e => e.elim)) fun Dl Cn h₂ tk m vs htk fD fC hDC hn hk hl hvs => ?_
  · intro Dl Cn Zo' T i d hd s vs kold hs hl hq post hpost
    obtain ⟨ad, rfl, q2, q3, q4⟩ := hq
    have hdm : d ∈ its := List.mem_of_getElem? hd
    obtain ⟨hat, hfl, hpl⟩ := hel d hdm
    refine wpAny_tests_nil ?_
    simp only [if_true]
    refine wpAny_List (wpAny_items_cons ?_ (he _))
    refine wpAny_List (wpAny_mono ((hpl Cn).run s pa hs) (fun ws s₂ ⟨k2, ds, i2, e2⟩ => ⟨lim_le (by rw [i2.length, e2]; exact hfl), ?_⟩) fun _ _ e => e)
    subst e2
    refine Calls.spliced_nil ⟨lim_le (by simp [lim]), ?_⟩
    -- the two new ones
    obtain ⟨q, hqv⟩ : ∃ q, q = s₂.heap.objs.size := ⟨_, rfl⟩
    obtain ⟨H1, hH1⟩ : ∃ H1, H1 = s₂.heap.push { cls := .type "list", data := .seq ws.toArray } := ⟨_, rfl⟩
    obtain ⟨p, hpv⟩ : ∃ p, p = H1.objs.size := ⟨_, rfl⟩
    obtain ⟨H2, hH2⟩ : ∃ H2, H2 = H1.push { cls := .type "list", data := .seq [Value.ref q].toArray } := ⟨_, rfl⟩
    have hpq : p = q + 1 := by rw [hpv, hH1, hqv, Heap.size_push]
    have lt2 : ∀ b o, s₂.heap.get? b = some o → b < q := fun b o e => hqv ▸ Heap.lt_size e
    have k12 : ∀ b o, s₂.heap.get? b = some o → H2.get? b = some o := fun b o e => by rw [hH2]; exact Heap.get?_push_of_some _ (by rw [hH1]; exact Heap.get?_push_of_some _ e)
    have gq : H2.PlainList q ws.toArray := ⟨0, by rw [hH2]; exact Heap.get?_push_of_some _ (by rw [hH1, hqv]; exact Heap.get?_push_size _ rfl)⟩
    have gp : H2.PlainList p [Value.ref q].toArray := ⟨0, by rw [hH2, hpv]; exact Heap.get?_push_size _ rfl⟩
    rw [← hqv, ← hH1, ← hpv, ← hH2]
    have kA : ∀ b o, s.heap.get? b = some o → H2.get? b = some o := fun b o e => k12 b o (k2.get b o e)
    have nlt : ∀ b o, s.heap.get? b = some o → b ≠ p ∧ b ≠ q := fun b o e => by
      have := lt2 b o (k2.get b o e)
      exact ⟨Nat.ne_of_lt (hpq ▸ Nat.lt_succ_of_lt this), Nat.ne_of_lt this⟩
    have live : ∀ b, (C.comp scope cl Cn).Z Zo' ω b → b ≠ p ∧ b ≠ q := fun b hb => let ⟨o, ho⟩ := hs.live b hb; nlt b o ho
    have hlA : H2.PlainList Dl (ad.map fun a => Value.ref a.1).toArray := hl.at fun o e => kA _ _ e
    have hlen : ad.length = (its.take i).length := q2.len
    refine wpAny_list_append_plain hlA (fun h' hl' hsame => ?_) (by
      rw [List.size_toArray, List.length_map, hlen]
      refine lim_le (Nat.le_trans ?_ hlim)
      rw [List.length_take]; omega)
    obtain ⟨h2', t2', e2', _, l2⟩ := id k2
    obtain ⟨m0, hn0, _⟩ := hs.ns
    have adl : ∀ a ∈ adrs ad, a ≠ p ∧ a ≠ q ∧ a ≠ Dl := fun a ha => by
      obtain ⟨o, ho⟩ := q2.live a ha
      exact ⟨(nlt a o ho).1, (nlt a o ho).2, fun e => (q4 a ha).1 (.inl (e ▸ T.zd))⟩
    have hDl := live Dl (.inl T.zd)
    have hCn := live Cn (.inr (.inl rfl))
    refine hpost _ (ad.map (fun a => Value.ref a.1) ++ [.ref p]) ?_ ⟨m0, (hn0.keeps kA).sameBut hsame (Ne.symm T.dc)⟩ (by simpa using hl') ⟨ad ++ [(p, q)], by simp, ?_, ?_, ?_⟩
    · have kb1 : KB (fun b => b = Dl ∨ b = Cn) s { s₂ with heap := H2 } := ⟨⟨H2, t2', by rw [e2'], l2⟩, fun b o _ e => kA b o e, fun b o e => ⟨o, kA b o e⟩⟩
      exact kb1.trans (KB.upd (s := { s₂ with heap := H2 }) (tk := s₂.toks) (.inl rfl) hsame (by obtain ⟨n, ho⟩ := hl'; exact ⟨_, ho⟩) (Nat.le_refl _))
    · rw [show its.take (i + 1) = its.take i ++ [d] by rw [List.take_add_one, hd]; rfl]
      refine New2.snoc (q2.move fun b hb o e => (hsame.2 b (adl b hb).2.2).trans (kA b o e)) (gp.at fun o e => (hsame.2 p hDl.1.symm).trans e) (gq.at fun o e => (hsame.2 q hDl.2.symm).trans e) (atoms_all i2 hat)
    · rw [show adrs (ad ++ [(p, q)]) = adrs ad ++ [p, q] by simp [adrs]]
      exact nodup_snoc2 q3 (fun h => (adl p h).1 rfl) (fun h => (adl q h).2.1 rfl) (hpq ▸ Nat.succ_ne_self q)
    · intro a ha
      rw [show adrs (ad ++ [(p, q)]) = adrs ad ++ [p, q] by simp [adrs]] at ha
      rcases List.mem_append.mp ha with ha | ha
      · exact q4 a ha
      · have fr : ∀ c, (∀ b o, s.heap.get? b = some o → b ≠ c) → s₁.heap.get? c = none := fun c h => by
          cases e : s₁.heap.get? c with
          | none => rfl
          | some o => exact (h c o (kold c o e) rfl).elim
        simp only [List.mem_cons, List.not_mem_nil, or_false] at ha
        rcases ha with rfl | rfl
        · exact ⟨fun q => (live _ q).1 rfl, fr _ fun b o e => (nlt b o e).1⟩
        · exact ⟨fun q => (live _ q).2 rfl, fr _ fun b o e => (nlt b o e).2⟩
  · obtain ⟨ad, rfl, q2, q3, q4⟩ := hvs
    refine ⟨m, hn, fun h₃ hs₃ => ?_⟩
    have k03 : ∀ b o, s₁.heap.get? b = some o → h₃.get? b = some o := fun b o e => (hs₃.2 b (by rintro rfl; rw [fC] at e; cases e)).trans (hk b o e)
    have hl3 : h₃.PlainList Dl (ad.map fun a => Value.ref a.1).toArray := hl.at fun o e => (hs₃.2 Dl hDC).trans e
    have q2' : New2 f h₃ ad its := q2.move fun b hb o e => (hs₃.2 b fun q => (q4 b hb).1 (.inr (.inr q))).trans e
    have kp : Kp s₁ { s₁ with heap := h₃, toks := tk } := ⟨h₃, tk, rfl, k03, htk⟩
    have hkeys : ((Dl, ad.map fun a => D.val (.ref a.1)) :: own3 f ad its).map (·.1) = Dl :: adrs ad := by rw [List.map_cons, q2.keys]
    have refs : ∀ (Z : Addr → Prop) (h : Heap) (ad : List (Addr × Addr)), IsAll Z h (ad.map fun a => Value.ref a.1) (ad.map fun a => D.val (.ref a.1)) := by
      intro Z h ad
      induction ad with
      | nil => exact .nil
      | cons a ad ih => exact .cons .val ih
    obtain ⟨hs4, st4⟩ := own_many (ω1 := (Dl, ad.map fun a => D.val (.ref a.1)) :: own3 f ad its) hs1 kp (by
        rw [hkeys]
        intro a ha
        rcases List.mem_cons.mp ha with rfl | ha
        · exact fD
        · exact (q4 a ha).2) (by
        rw [hkeys, List.nodup_cons]
        exact ⟨fun q => (q4 Dl q).1 (.inr (.inl rfl)), q3⟩) (by
        intro p hp
        rcases List.mem_cons.mp hp with rfl | hp
        · exact ⟨_, hl3, refs _ _ ad⟩
        · exact q2'.own _ p hp)
    refine wpAny_mono (store_doc ok hs4 (.val (v := .ref Dl)) hy) (fun _ s₅ ⟨hs5, st5⟩ => ?_) fun _ _ e => e
    exact ⟨.next, _, _, trivial, hs5, ((k1.step).trans st4).trans st5, hK Dl ad q2.len⟩
end Mine
end

section
namespace Mine
theorem all_same (xs ys : List (List Nat)) (hl : xs.length = ys.length) : (List.range xs.length).all (fun j => mkS (xs.getD j []) == mkS (ys.getD j [])) = decide (xs = ys) := by
  rw [Bool.eq_iff_iff, List.all_eq_true, decide_eq_true_iff]
  constructor
  · intro h
    refine List.ext_getElem hl fun i h1 h2 => ?_
    have := h i (List.mem_range.mpr h1)
    rw [beq_iff_eq] at this
    have e := congrArg (fun z : Str => z.cps.toList) this
    simpa [mkS, List.getElem?_eq_getElem h1, List.getElem?_eq_getElem h2] using e
  · rintro rfl j _
    simp
section
variable {C : Cx} {K : D → Prop}
theorem is_at {Z : Addr → Prop} {h : Heap} {vs : List Value} {xs : List (List Nat)} (hi : IsAll Z h vs (xs.map .str)) {j : Nat} (hj : j < vs.toArray.size) : ∃ t, vs.toArray[j] = .str (mkS (xs.getD j [])) t := by
  have hj' : j < vs.length := by simpa using hj
  obtain ⟨d, h1, h2⟩ := hi.get' (List.getElem?_eq_getElem hj')
  rw [List.getElem?_map] at h1
  cases e : xs[j]? with
  | none => rw [e] at h1; cases h1
  | some x =>
    rw [e] at h1; cases h1
    have e2 : vs.toArray[j] = vs[j] := by simp
    rw [e2]
    generalize vs[j] = v at *
    have e3 : xs.getD j [] = x := by simp [e]
    rw [e3]
    cases h2 with
    | str => exact ⟨_, rfl⟩
theorem do_eq_strs {xs ys : List (List Nat)} (hu : C.A.units < 9000) (h : K (.bool (decide (xs = ys)))) : Do2 C (compareOp .Eq) (.list (xs.map .str)) (.list (ys.map .str)) K := .mk fun s v w U i j => by
  cases i with
  | list hz hl hi => cases j with
    | list hz' hl' hi' =>
      rename_i a vs b ws
      have n1 := hi.length
      have n2 := hi'.length
      simp only [List.length_map] at n1 n2
      by_cases hn : xs.length = ys.length
      · refine SeqAt.eq_listAt (e := fun j => mkS (xs.getD j []) == mkS (ys.getD j [])) hl hl' (by simp; omega) (Nat.lt_of_lt_of_le hu (by decide)) (fun j h1 h2 => ?_) ⟨Kp.refl _, _, .bool, ?_⟩
        · obtain ⟨t, e1⟩ := is_at hi h1
          obtain ⟨u, e2⟩ := is_at hi' h2
          rw [e1, e2]
          exact SeqAt.EqAt.str_str _ _ _ _
        · rw [List.size_toArray, n1, all_same _ _ hn]; exact h
      · refine SeqAt.eq_list_lengthsAt hl hl' (by simp; omega) (Nat.lt_of_lt_of_le hu (by decide)) ⟨Kp.refl _, _, .bool, ?_⟩
        have : decide (xs = ys) = false := decide_eq_false fun q => hn (q ▸ rfl)
        rw [this] at h; exact h
end

section
variable {C : Cx} {K : D → Prop}
theorem doc_max2 {a b : Nat} (hh : C.A.handled = none) (h : K (.int ((max a b : Nat) : Int))) : DoC C (.builtin "max") [.int a, .int b] K := .mk fun {Z} s vs U i => by
  cases i with | cons i j => cases j with | cons j k =>
    cases k; cases i; cases j
    refine wpAny_free (max_two_ints hh fun h' tk hk htk => ⟨⟨h', tk, rfl, hk, htk⟩, .int ((max a b : Nat) : Int), ?_, h⟩)
    split
    · rename_i q1
      rw [Nat.max_eq_right (Nat.le_of_lt (Int.ofNat_lt.mp q1))]; exact .int
    · rename_i q1
      rw [Nat.max_eq_left (Nat.not_lt.mp fun z => q1 (Int.ofNat_lt.mpr z))]; exact .int
theorem doc_max3 {a b c : Nat} (hh : C.A.handled = none) (h : K (.int ((max a (max b c) : Nat) : Int))) : DoC C (.builtin "max") [.int a, .int b, .int c] K := .mk fun {Z} s vs U i => by
  cases i with | cons i j => cases j with | cons j k => cases k with | cons k m =>
    cases m; cases i; cases j; cases k
    refine wpAny_free (max_three_ints hh fun h' tk hk htk => ⟨⟨h', tk, rfl, hk, htk⟩, .int ((max a (max b c) : Nat) : Int), ?_, h⟩)
    split
    · rename_i q1
      have p1 := Nat.le_of_lt (Int.ofNat_lt.mp q1)
      split
      · rename_i q2
        have p2 := Nat.le_of_lt (Int.ofNat_lt.mp q2)
        rw [Nat.max_eq_right p2, Nat.max_eq_right (Nat.le_trans p1 p2)]; exact .int
      · rename_i q2
        have p2 := Nat.not_lt.mp fun z => q2 (Int.ofNat_lt.mpr z)
        rw [Nat.max_eq_left p2, Nat.max_eq_right p1]; exact .int
    · rename_i q1
      have p1 := Nat.not_lt.mp fun z => q1 (Int.ofNat_lt.mpr z)
      split
      · rename_i q2
        have p2 := Nat.le_of_lt (Int.ofNat_lt.mp q2)
        rw [Nat.max_eq_right (Nat.le_trans p1 p2), Nat.max_eq_right p2]; exact .int
      · rename_i q2
        have p2 := Nat.not_lt.mp fun z => q2 (Int.ofNat_lt.mpr z)
        rw [Nat.max_eq_left (Nat.max_le.mpr ⟨p1, p2⟩)]; exact .int
/-- of an integer and nought -/
theorem doc_max0 {a : Int} (hh : C.A.handled = none) (h : K (.int (max a 0))) : DoC C (.builtin "max") [.int a, .int 0] K := .mk fun {Z} s vs U i => by
  cases i with | cons i j => cases j with | cons j k =>
    cases k; cases i; cases j
    refine wpAny_free (max_two_ints hh fun h' tk hk htk => ⟨⟨h', tk, rfl, hk, htk⟩, .int (max a 0), ?_, h⟩)
    split
    · rw [show max a 0 = 0 by omega]; exact .int
    · rw [show max a 0 = a by omega]; exact .int
end
end Mine
end

section
namespace Mine
/-- the same as comp_core, by comp_enter -/
theorem comp_coreT {C : Cx} {Zo : Addr → Prop} {ρ : Loc} {ω : Own} {l : Nat} {elt iter : Expr} {x : Str} {px pos : Pos} {ifs : List Expr} {scope : Scope} {cl : List (Str × Addr)} {RR : Value → Addr → Result → Shared → Prop} (ok : C.Ok l) (co : CompOk C scope cl x)
    {s₁ : Shared} (hs1 : Sta C Zo ρ ω s₁) {xv : Value} {d : D} (i1 : Is (C.Z Zo ω) s₁.heap xv d) {its : List D} (hit : IterK true ω d = some its) (hlim : its.length ≤ lim) (g : D → Option D)
    (hel : ∀ d ∈ its, ∀ n, Pi (C.comp scope cl n) ((x, d) :: cap cl ρ) ω ifs elt (fun r => r = g d))
    (hRR : ∀ Dl Cn h tk m vs, s₁.toks ≤ tk → s₁.heap.get? Dl = none → s₁.heap.get? Cn = none → Dl ≠ Cn → h.Ns Cn m → (∀ b o, s₁.heap.get? b = some o → h.get? b = some o) → h.PlainList Dl vs.toArray →
      IsAll (fun b => C.Z Zo ω b ∨ b = Dl ∨ b = Cn) h vs (its.filterMap g) → RR (.ref Dl) Cn (.ok .next) { s₁ with heap := h, toks := tk }) :
    wpAny C.M C.A (pyIter xv) (fun it s₂ => wpAny C.M C.A (newList []) (fun acc s₃ => wpAny C.M C.A (newFunctionEnv scope C.env.globals cl [] C.env.qual none .none (some C.env)) (fun cenv s₄ =>
      codeAny C.M C.A (.compStart (.ListComp elt [⟨.Name x px, iter, ifs, 0⟩] scope pos) 0 it acc { cenv with scope := relabel scope C.env }) (RR acc cenv.locals) s₄) NoE s₃) NoE s₂) NoE s₁ := by
  refine comp_enter (px := px) (Q := fun Z done vs h => IsAll Z h vs (done.filterMap g)) ok co hs1 i1 hit (fun q mv => IsAll.move q mv) (fun Z h => .nil)
    (TurnW := fun Dl Cn post s => wpAny C.M C.A (forIn ifs true fun c r => if r = true then do let ok ← isTrue c (compEnvC scope cl Cn C.env) (eval c (compEnvC scope cl Cn C.env)); pure (ForInStep.yield ok) else pure (ForInStep.yield r)) (fun ok s₃ =>
            if ok = true then wpAny C.M C.A (eval elt (compEnvC scope cl Cn C.env)) (fun x s₄ => wpAny C.M C.A (call (.builtin "list.append") [.ref Dl, x]) (fun _ s₅ => post s₅) NoE s₄) NoE s₃ else post s₃) NoE s)
    ?_ (fun Dl Cn I R s Inv hI n h0 => compLoop_one Inv hI n h0) (fun Dl Cn I R s h0 h1 => codeAny_compStart_list h0 (wpAny_mono h1 (fun _ _ q => q) fun _ _ e => e.elim)) hRR
  intro Dl Cn Zo' T i d hd s vs _ hs hl hq post hpost
  refine turn_data (C := C.comp scope cl Cn) hs T.zd T.dc hl hq ?_ (hel d (List.mem_of_getElem? hd) Cn) fun s' vs' kb hn hl' hi => hpost s' vs' kb hn hl' ?_
  · have h1 := List.length_filterMap_le g (its.take i)
    have h2 : (its.take i).length ≤ its.length := by simp [Nat.min_le_right]
    omega
  · have : (its.take (i + 1)).filterMap g = (its.take i).filterMap g ++ (g d).toList := by
      rw [List.take_add_one, hd, List.filterMap_append]; cases hg : g d <;> simp [hg]
    rw [this]; exact hi
theorem pe_compT {C : Cx} {ρ : Loc} {ω : Own} {l : Nat} {K : D → Prop} {elt iter : Expr} {x : Str} {px pos : Pos} {ifs : List Expr} {scope : Scope} {cl : List (Str × Addr)} (ok : C.Ok l) (co : CompOk C scope cl x)
    (h : Pe C ρ ω iter (fun d => ∃ its, IterK true ω d = some its ∧ its.length ≤ lim ∧ ∃ g : D → Option D, (∀ d ∈ its, ∀ n, Pi (C.comp scope cl n) ((x, d) :: cap cl ρ) ω ifs elt (fun r => r = g d)) ∧ K (.list (its.filterMap g))))
    (hsf : ∀ x, foldedSetIterable iter C.env x = pure x) : Pe C ρ ω (.ListComp elt [⟨.Name x px, iter, ifs, 0⟩] scope pos) K := .mk fun {Zo} s hs₀ => by
  rw [eval_ListComp]
  refine wpAny_comprehension_free (use := none) rfl hsf co.clos co.kind co.names (wpAny_mono (h.run s hs₀) (fun xv s₁ X => ?_) fun _ _ e => e)
  obtain ⟨k1, d, i1, its, hit, hlim, g, hel, hK⟩ := X
  have hs1 := hs₀.keeps k1
  refine comp_coreT (RR := fun acc C' => compPost C.M C.A NoE none (Gv (C.Z Zo ω) s K) acc C') ok co hs1 i1 hit hlim g hel fun Dl Cn h₂ tk m vs htk fD fC hDC hn hk hl hvs => ?_
  refine ⟨m, hn, fun h₃ hs₃ => ?_⟩
  have k03 : ∀ b o, s₁.heap.get? b = some o → h₃.get? b = some o := fun b o e => (hs₃.2 b (by rintro rfl; rw [fC] at e; cases e)).trans (hk b o e)
  refine ⟨k1.trans ⟨h₃, tk, rfl, k03, htk⟩, .list (its.filterMap g), .list (vs := vs) (fun q => ?_) ?_ ?_, hK⟩
  · obtain ⟨o, ho⟩ := hs1.live Dl q; rw [fD] at ho; cases ho
  · exact (hl.at fun o e => (hs₃.2 Dl hDC).trans e).isList
  · exact hvs.move fun b o hz e => ⟨fun q => hz (.inl q), (hs₃.2 b fun q => hz (.inr (.inr q))).trans e⟩

/-- a name gets a comprehension's list -/
theorem ex_assign_compT {C : Cx} {ρ : Loc} {ω : Own} {l : Nat} {K : Fl → Loc → Own → Prop} {elt iter : Expr} {x y : Str} {px py pos spos : Pos} {ifs : List Expr} {scope : Scope} {cl : List (Str × Addr)} (ok : C.Ok l) (co : CompOk C scope cl x) (hy : Stor C y)
    (h : Pe C ρ ω iter (fun d => ∃ its, IterK true ω d = some its ∧ its.length ≤ lim ∧ ∃ g : D → Option D, (∀ d ∈ its, ∀ n, Pi (C.comp scope cl n) ((x, d) :: cap cl ρ) ω ifs elt (fun r => r = g d)) ∧ K .next (put ρ y (.list (its.filterMap g))) ω))
    (hsf : ∀ x, foldedSetIterable iter C.env x = pure x)
    (hsw : swapsWith (.ListComp elt [⟨.Name x px, iter, ifs, 0⟩] scope pos) (some (.Name y py)) spos.line C.env = pure true) : Ex C ρ ω (.Assign [.Name y py] (.ListComp elt [⟨.Name x px, iter, ifs, 0⟩] scope pos) spos) K := .mk fun {Zo} s hs₀ => by
  rw [exec_Assign_Name_used _ _ _ _ hsw]
  refine wpAny_bind (wpAny_standAt (wpAny_bind ?_))
  show wpAny _ C.A (do let _ ← comprehension (.ListComp elt [⟨.Name x px, iter, ifs, 0⟩] scope pos) scope C.env _ (newList []) false (eval iter C.env) (some (assign (.Name y py) C.env))) _ _ s
  refine wpAny_bind (wpAny_mono (wpAny_comprehension_free (use := some (assign (.Name y py) C.env)) (Q := fun _ s' => Out C Zo ω s K .next s') rfl hsf co.clos co.kind co.names
    (wpAny_mono (h.run s hs₀) (fun xv s₁ X => ?_) fun _ _ e => e)) (fun _ s' hq => wpAny_pure (wpAny_pure hq)) fun _ _ e => e)
  obtain ⟨k1, d, i1, its, hit, hlim, g, hel, hK⟩ := X
  have hs1 := hs₀.keeps k1
  refine comp_coreT (RR := fun acc C' => compPost C.M C.A NoE (some (assign (.Name y py) C.env)) (fun _ s' => Out C Zo ω s K .next s') acc C') ok co hs1 i1 hit hlim g hel fun Dl Cn h₂ tk m vs htk fD fC hDC hn hk hl hvs => ?_
  have kk : Kp s₁ { s₁ with heap := h₂, toks := tk } := ⟨h₂, tk, rfl, hk, htk⟩
  have hs2 := hs1.keeps kk
  have hzD : ¬ C.Z Zo ω Dl := fun q => by obtain ⟨o, ho⟩ := hs1.live Dl q; rw [fD] at ho; cases ho
  have hzC : ¬ C.Z Zo ω Cn := fun q => by obtain ⟨o, ho⟩ := hs1.live Cn q; rw [fC] at ho; cases ho
  -- the comprehension's own names count as live through the store
  have hs2' : Sta C (fun b => Zo b ∨ b = Cn) ρ ω { s₁ with heap := h₂, toks := tk } := by
    have hZ : ∀ b, C.Z (fun b => Zo b ∨ b = Cn) ω b → C.Z Zo ω b ∨ b = Cn := by
      rintro b ((h | h) | h)
      · exact .inl (.inl h)
      · exact .inr h
      · exact .inl (.inr h)
    have hCl : ∀ o, s₁.heap.get? Cn ≠ some o := fun o e => by rw [fC] at e; cases e
    have mv : ∀ b o, ¬ C.Z Zo ω b → s₁.heap.get? b = some o → ¬ C.Z (fun b => Zo b ∨ b = Cn) ω b ∧ h₂.get? b = some o := fun b o hz e => ⟨fun q => (hZ b q).elim hz fun q => hCl o (q ▸ e), hk b o e⟩
    refine ⟨hs2.base, fun a ha => ?_, ?_, fun z dz hz hkz => ?_, hs2.cells, hs2.inj, fun p hp => ?_, hs2.nodup, (fun a ha h => h.elim (hs1.apart a ha) fun e => by subst e; obtain ⟨p, hp, e2⟩ := List.mem_map.mp ha; obtain ⟨ws, ⟨o, ho, _⟩, _⟩ := hs1.ownL p hp; rw [e2] at ho; exact hCl o ho), ?_, hs2.tok⟩
    · rcases hZ a ha with h | h
      · exact hs1.new a h
      · subst h
        cases e : C.h₀.get? a with
        | none => rfl
        | some o => exact (hCl o (hs1.base a o e)).elim
    · obtain ⟨m', hn', hm'⟩ := hs1.ns
      exact ⟨m', hn'.keeps hk, fun z dz hz hkz => let ⟨u, h1, h2⟩ := hm' z dz hz hkz; ⟨u, h1, h2.move mv⟩⟩
    · obtain ⟨c, u, h1, ⟨o, h2, h2'⟩, h3⟩ := hs1.cell z dz hz hkz
      exact ⟨c, u, h1, ⟨o, hk _ _ h2, h2'⟩, h3.move mv⟩
    · obtain ⟨ws, h1, h2⟩ := hs1.own p hp
      exact ⟨ws, h1.at fun o e => hk _ _ e, h2.move mv⟩
    · rintro b (q | q)
      · obtain ⟨o, ho⟩ := hs1.zo b q; exact ⟨o, hk _ _ ho⟩
      · subst q; obtain ⟨o, _, _, ho, _⟩ := hn; exact ⟨o, ho⟩
  have iD : Is (C.Z (fun b => Zo b ∨ b = Cn) ω) h₂ (.ref Dl) (.list (its.filterMap g)) := by
    refine .list (vs := vs) ?_ hl.isList (hvs.move fun b o hz e => ⟨?_, e⟩)
    · rintro ((q | q) | q)
      · exact hzD (.inl q)
      · exact hDC q
      · exact hzD (.inr q)
    · rintro ((q | q) | q)
      · exact hz (.inl (.inl q))
      · exact hz (.inr (.inr q))
      · exact hz (.inl (.inr q))
  show wpAny _ C.A (assign (.Name y py) C.env (.ref Dl)) _ _ _
  refine wpAny_assign_Name (wpAny_mono (store_doc ok hs2' iD hy) (fun _ s₄ ⟨hs4, st⟩ => ?_) fun _ _ e => e)
  have hmu : ¬ C.Mu ω Cn := fun q => hzC (.inr q)
  refine ⟨m, hn.at' fun o e => st.keep Cn o hmu e, fun h₅ hs₅ => ?_⟩
  have hs5 := hs4.drop hs₅ hzC
  refine ⟨.next, _, ω, trivial, hs5, ?_, hK⟩
  have st5 : Step C ω ω s₁ { s₄ with heap := h₅ } := by
    obtain ⟨h', tk', e', l'⟩ := st.same
    refine ⟨⟨h₅, s₄.toks, by rw [e'], by rw [e']; exact Nat.le_trans htk l'⟩, fun b o hb e => ?_, fun b o e => ?_, fun _ q => .inl q⟩
    · exact (hs₅.2 b (by rintro rfl; rw [fC] at e; cases e)).trans (st.keep b o hb (hk b o e))
    · obtain ⟨o', h'⟩ := st.live b o (hk b o e)
      exact ⟨o', (hs₅.2 b (by rintro rfl; rw [fC] at e; cases e)).trans h'⟩
  exact (k1.step).trans st5
end Mine
end

section
namespace Mine
section
variable {C : Cx} {Zo : Addr → Prop} {ρ : Loc} {ω : Own} {l : Nat}
/-- x = o.pop() -/
theorem ex_popA {K : Fl → Loc → Own → Prop} {o : Expr} {x : Str} {px apos pos p2 : Pos} (ok : C.Ok l) (hk : Stor C x)
    (h : Pe C ρ ω o (fun d => ∃ a ds e, d = .val (.ref a) ∧ getO ω a = some (ds ++ [e]) ∧ ds.length < lim ∧ K .next (put ρ x e) (setO ω a ds)))
    (hbase : attributeBase o (Str.ofString "pop") C.env (eval o C.env) = eval o C.env)
    (hline : (apos.endLine == pos.line) = true)
    (hsw : swapsWith (.Call (.Attribute o (Str.ofString "pop") apos) [] [] pos) (some (.Name x px)) p2.line C.env = pure false) :
    Ex C ρ ω (.Assign [.Name x px] (.Call (.Attribute o (Str.ofString "pop") apos) [] [] pos) p2) K := .mk fun {Zo} s hs => by
  refine wpAny_Assign_Name ?_ hsw
  refine wpAny_Call_method_lateS hbase rfl hline (wpAny_mono (h.run s hs) (fun ov s₁ x => ?_) fun _ _ e => e)
  obtain ⟨k1, d, i1, a, ds, e, rfl, hg, hlen, hK⟩ := x
  cases i1
  have hs1 := hs.keeps k1
  obtain ⟨vs, hl, hi⟩ := hs1.own _ (getO_mem hg)
  have ho := hl
  obtain ⟨n, ho⟩ := ho
  refine ⟨"list", _, F.plainAttrs_list, F.slot_list_pop, F.type_list_pop, hl.isList.typeIs, (fun b e => by cases e; exact ⟨_, ho, rfl⟩), ?_⟩
  refine callWith_method0 ?_
  have hvl : vs.length = ds.length + 1 := by have := hi.length; simpa using this
  obtain ⟨us, v, rfl⟩ : ∃ us v, vs = us ++ [v] := ⟨vs.dropLast, vs.getLast (by intro q; rw [q] at hvl; simp at hvl), (List.dropLast_concat_getLast _).symm⟩
  have split : ∀ {us : List Value} {v : Value} {ds : List D} {e : D}, IsAll (C.Z Zo ω) s₁.heap (us ++ [v]) (ds ++ [e]) → us.length = ds.length → IsAll (C.Z Zo ω) s₁.heap us ds ∧ Is (C.Z Zo ω) s₁.heap v e := by
    intro us v ds e
    induction ds generalizing us with
    | nil => intro h hl; cases us with
      | nil => cases h with | cons a b => exact ⟨.nil, a⟩
      | cons => simp at hl
    | cons d ds ih => intro h hl; cases us with
      | nil => simp at hl
      | cons u us => cases h with | cons a b => exact ⟨.cons a (ih b (by simpa using hl)).1, (ih b (by simpa using hl)).2⟩
  have hul : us.length = ds.length := by simpa using hvl
  obtain ⟨iu, iv⟩ := split hi hul
  have hv : (us ++ [v]).toArray[(us ++ [v]).toArray.size - 1]? = some v := by simp
  refine call_meets F.slot_list_pop hl.isList.typeIs F.entry_list_pop (F.args_list_pop_1 _) (MeetsSeq.list_pop_last a (us ++ [v]).toArray n _ hv (by rw [List.size_toArray, hvl]; exact lim_le hlen)) ⟨ho, ?_⟩
  have hnew : ((us ++ [v]).toArray.eraseIdxIfInBounds ((us ++ [v]).toArray.size - 1)) = us.toArray := by
    have hb : (us ++ [v]).toArray.size - 1 < (us ++ [v]).toArray.size := by simp only [List.size_toArray, List.length_append, List.length_cons, List.length_nil]; omega
    unfold Array.eraseIdxIfInBounds
    rw [dif_pos hb]
    apply Array.ext'
    simp [List.eraseIdx_append_of_length_le]
  obtain ⟨n', hobj⟩ : ∃ n', Obj.mapSeq (fun xs => xs.eraseIdxIfInBounds ((us ++ [v]).toArray.size - 1)) { cls := .type "list", data := .seq (us ++ [v]).toArray n } = { cls := .type "list", data := .seq us.toArray n' } := by
    rw [← hnew]; exact ⟨_, rfl⟩
  obtain ⟨hs3, st⟩ := own_change (tk := s₁.toks) (h' := s₁.heap.update a (Obj.mapSeq fun xs => xs.eraseIdxIfInBounds ((us ++ [v]).toArray.size - 1))) (es := ds) (vs := us) hs1 (List.mem_map.mpr ⟨_, getO_mem hg, rfl⟩) ⟨n', by rw [Heap.get?_update_self _ ho (by rw [hobj]; rfl), hobj]⟩ (Heap.SameBut.update ..) iu
  have iv3 : Is (C.Z Zo (setO ω a ds)) (s₁.heap.update a (Obj.mapSeq fun xs => xs.eraseIdxIfInBounds ((us ++ [v]).toArray.size - 1))) v e := by
    rw [Z_setO]
    exact iv.move fun b o hz e => ⟨hz, ((Heap.SameBut.update ..).2 b (fun q => hz (q ▸ mu_own (List.mem_map.mpr ⟨_, getO_mem hg, rfl⟩)))).trans e⟩
  exact wpAny_mono (store_doc ok hs3 iv3 hk) (fun _ s₂ ⟨hs4, st4⟩ => ⟨.next, _, _, trivial, hs4, ((k1.step).trans st).trans st4, hK⟩) fun _ _ e => e
end
section
variable {C : Cx} {K : D → Prop}
end
end Mine
end

section
namespace Mine
/-- a blank that decode takes ahead of a line's end -/
def bk (c : Nat) : Bool := c == 32 || c == 9
def bl : List Nat → Bool
  | [] => false
  | c :: r => if c = 10 then true else if bk c = true then bl r else false
def cut : List Nat → List Nat
  | [] => []
  | c :: r => if c = 10 then r else cut r
theorem cut_len : ∀ r : List Nat, (cut r).length ≤ r.length
  | [] => Nat.le_refl _
  | c :: r => by
    simp only [cut]
    split
    · simp
    · have := cut_len r; simp; omega
def es : List Nat → Bool
  | a :: b :: _ => decide (a ∈ hexL) && decide (b ∈ hexL)
  | _ => false
theorem es_iff {r : List Nat} : es r = true ↔ ∃ a b r', r = a :: b :: r' ∧ a ∈ hexL ∧ b ∈ hexL := by
  constructor
  · intro h
    match r, h with
    | a :: b :: r', h => simp only [es, Bool.and_eq_true, decide_eq_true_eq] at h; exact ⟨a, b, r', rfl, h⟩
    | [], h => cases h
    | [_], h => cases h
  · rintro ⟨a, b, r', rfl, ha, hb⟩; simp [es, ha, hb]
/-- decode of a text, its end apart: all at once that stands there -/
def dd : List Nat → List Nat
  | [] => []
  | c :: r =>
    if c = 61 then
      if es r = true then (hv (r.getD 0 0) * 16 + hv (r.getD 1 0)) :: dd (r.drop 2)
      else if bl r = true then dd (cut r) else 61 :: dd r
    else if bk c = true ∧ bl r = true then dd r else c :: dd r
termination_by l => l.length
decreasing_by
  · simp; omega
  · have := cut_len r; simp; omega
  · simp
  · simp
  · simp
theorem hex_plain : ∀ a ∈ hexL, a ≠ 61 ∧ a ≠ 10 ∧ bk a = false ∧ hv a < 16 ∧ 48 ≤ a ∧ a < 128 := by decide
theorem bl_hex {a : Nat} {r : List Nat} (h : a ∈ hexL) : bl (a :: r) = false := by
  obtain ⟨_, h2, h3, _⟩ := hex_plain a h
  simp [bl, h2, h3]
theorem dd_nil : dd [] = [] := by rw [dd]
theorem dd_esc {a b : Nat} {r : List Nat} (ha : a ∈ hexL) (hb : b ∈ hexL) : dd (61 :: a :: b :: r) = (hv a * 16 + hv b) :: dd r := by
  rw [dd, if_pos rfl, if_pos (es_iff.mpr ⟨a, b, r, rfl, ha, hb⟩)]; rfl
theorem dd_soft {r : List Nat} (h : bl r = true) : dd (61 :: r) = dd (cut r) := by
  rw [dd, if_pos rfl, if_neg, if_pos h]
  intro q
  obtain ⟨a, b, r', rfl, ha, hb⟩ := es_iff.mp q
  rw [bl_hex ha] at h; cases h
theorem dd_lit {r : List Nat} (h : ¬ ∃ a b r', r = a :: b :: r' ∧ a ∈ hexL ∧ b ∈ hexL) (h2 : bl r = false) : dd (61 :: r) = 61 :: dd r := by
  rw [dd, if_pos rfl, if_neg fun q => h (es_iff.mp q), if_neg (by simp [h2])]
theorem dd_blank {c : Nat} {r : List Nat} (h : bk c = true) (h2 : bl r = true) : dd (c :: r) = dd r := by
  have hc : c ≠ 61 := by rintro rfl; revert h; decide
  rw [dd, if_neg hc, if_pos ⟨h, h2⟩]
theorem dd_keep {c : Nat} {r : List Nat} (hc : c ≠ 61) (h : ¬ (bk c = true ∧ bl r = true)) : dd (c :: r) = c :: dd r := by
  rw [dd, if_neg hc, if_neg h]

/-- some of it -/
inductive Dec : List Nat → List Nat → Prop where
  | nil : Dec [] []
  | keep (c : Nat) {r r' : List Nat} : Dec r r' → Dec (c :: r) (c :: r')
  | esc {a b : Nat} {r r' : List Nat} : a ∈ hexL → b ∈ hexL → Dec r r' → Dec (61 :: a :: b :: r) ((hv a * 16 + hv b) :: r')
  | soft {r r' : List Nat} : bl r = true → Dec (cut r) r' → Dec (61 :: r) r'
  | blank {c : Nat} {r r' : List Nat} : bk c = true → bl r = true → Dec r r' → Dec (c :: r) r'
end Mine
namespace Mine
end Mine
end

section
namespace Mine
/-- a sign that ends a line or is white only if it is one of the three -/
def fine (c : Nat) : Prop := (Unicode.isSpace c = true → bk c = true ∨ c = 10) ∧ (Unicode.isLineBreak c = true → c = 10)
theorem sp_bk : ∀ c, bk c = true → Unicode.isSpace c = true ∧ Unicode.isLineBreak c = false := by
  intro c h
  have : c = 32 ∨ c = 9 := by simpa [bk] using h
  rcases this with rfl | rfl <;> decide +kernel
theorem sp_nl : Unicode.isSpace 10 = true ∧ Unicode.isLineBreak 10 = true := by decide +kernel
theorem sp_eq : Unicode.isSpace 61 = false := by decide +kernel

theorem bl_white {ws r : List Nat} (h : ∀ c ∈ ws, bk c = true) : bl (ws ++ 10 :: r) = true ∧ cut (ws ++ 10 :: r) = r := by
  induction ws with
  | nil => simp [bl, cut]
  | cons c ws ih =>
    have hc := h c (.head _)
    have hn : c ≠ 10 := by rintro rfl; revert hc; decide
    obtain ⟨h1, h2⟩ := ih fun d hd => h d (.tail _ hd)
    exact ⟨by simp [bl, hn, hc, h1], by simpa [cut, hn] using h2⟩
theorem bl_solid {s r : List Nat} (h : ∃ c ∈ s, bk c = false) (h10 : 10 ∉ s) : bl (s ++ r) = false := by
  induction s with
  | nil => obtain ⟨c, hc, _⟩ := h; cases hc
  | cons c s ih =>
    have hn : c ≠ 10 := fun e => h10 (by simp [e])
    cases hb : bk c with
    | false => simp [bl, hn, hb]
    | true =>
      obtain ⟨d, hd, hbd⟩ := h
      have : ∃ c ∈ s, bk c = false := by
        rcases List.mem_cons.mp hd with rfl | hd
        · rw [hb] at hbd; cases hbd
        · exact ⟨d, hd, hbd⟩
      simp [bl, hn, hb, ih this fun q => h10 (.tail _ q)]
theorem bl_none {s : List Nat} (h10 : 10 ∉ s) : bl s = false := by
  induction s with
  | nil => rfl
  | cons c s ih =>
    have hn : c ≠ 10 := fun e => h10 (by simp [e])
    have := ih fun q => h10 (.tail _ q)
    simp [bl, hn, this]
def solid (s : List Nat) : Prop := s = [] ∨ ∃ c, s.getLast? = some c ∧ bk c = false
theorem solid.tail {c : Nat} {s : List Nat} (h : solid (c :: s)) : solid s := by
  cases s with
  | nil => exact .inl rfl
  | cons d s =>
    rcases h with h | ⟨e, he, hb⟩
    · cases h
    · exact .inr ⟨e, by simpa [List.getLast?_cons_cons] using he, hb⟩
theorem solid.ex {s : List Nat} (h : solid s) (hn : s ≠ []) : ∃ c ∈ s, bk c = false := by
  rcases h with h | ⟨e, he, hb⟩
  · exact absurd h hn
  · exact ⟨e, List.mem_of_getLast? he, hb⟩
/-- a line that a line feed ends -/
theorem line_dd (ws rest : List Nat) (hw : ∀ c ∈ ws, bk c = true) : ∀ (n : Nat) (s : List Nat), s.length ≤ n → solid s → 10 ∉ s → dd (s ++ (ws ++ 10 :: rest)) = (if s = [] then [10] else lineGo [10] s) ++ dd rest
  | _, [], _, _, _ => by
    simp only [List.nil_append, if_true]
    induction ws with
    | nil => rw [List.nil_append, dd_keep (by decide) (by rintro ⟨q, _⟩; revert q; decide)]; rfl
    | cons c ws ih =>
      have hw' := fun d hd => hw d (List.mem_cons_of_mem _ hd)
      rw [List.cons_append, dd_blank (hw c (.head _)) (bl_white hw').1]
      exact ih hw'
  | 0, c :: s, h, _, _ => by simp at h
  | n + 1, c :: s, h, hs, h10 => by
    have ih := line_dd ws rest hw n
    simp only [List.length_cons] at h
    have h10' : 10 ∉ s := fun q => h10 (.tail _ q)
    have hst := hs.tail
    rw [if_neg (by simp), List.cons_append]
    by_cases hc : c = 61
    · subst hc
      match s, h, hs, hst, h10' with
      | [], h, hs, hst, h10' =>
        rw [lineGo_soft, List.nil_append, dd_soft (bl_white hw).1, (bl_white hw).2]; rfl
      | [a], h, hs, hst, h10' =>
        have hbl : bl ([a] ++ (ws ++ 10 :: rest)) = false := bl_solid (hst.ex (by simp)) h10'
        have hes : ¬ ∃ x y r', [a] ++ (ws ++ 10 :: rest) = x :: y :: r' ∧ x ∈ hexL ∧ y ∈ hexL := by
          rintro ⟨x, y, r', e, hx, hy⟩
          have hy2 : bk y = true ∨ y = 10 := by
            cases ws with
            | nil => simp at e; exact .inr e.2.1.symm
            | cons w ws => simp at e; rw [← e.2.1]; exact .inl (hw w (.head _))
          obtain ⟨_, q2, q3, _⟩ := hex_plain y hy
          rcases hy2 with q | q
          · rw [q3] at q; cases q
          · exact q2 q
        rw [dd_lit hes hbl, ih [a] (by simp at h ⊢; omega) hst h10', lineGo_lit1, if_neg (by simp)]; rfl
      | a :: b :: s', h, hs, hst, h10' =>
        simp only [List.length_cons] at h
        by_cases hx : a ∈ hexL ∧ b ∈ hexL
        · rw [lineGo_esc hx.1 hx.2]
          show dd (61 :: a :: b :: (s' ++ (ws ++ 10 :: rest))) = _
          rw [dd_esc hx.1 hx.2, ih s' (by omega) hst.tail.tail fun q => h10' (.tail _ (.tail _ q))]; rfl
        · have hbl : bl ((a :: b :: s') ++ (ws ++ 10 :: rest)) = false := bl_solid (hst.ex (by simp)) h10'
          have hes : ¬ ∃ x y r', (a :: b :: s') ++ (ws ++ 10 :: rest) = x :: y :: r' ∧ x ∈ hexL ∧ y ∈ hexL := by
            rintro ⟨x, y, r', e, hx', hy'⟩
            simp at e
            obtain ⟨rfl, rfl, _⟩ := e
            exact hx ⟨hx', hy'⟩
          rw [dd_lit hes hbl, ih (a :: b :: s') (by simp; omega) hst h10', lineGo_lit2 hx, if_neg (by simp)]; rfl
    · have hk : ¬ (bk c = true ∧ bl (s ++ (ws ++ 10 :: rest)) = true) := by
        rintro ⟨q1, q2⟩
        have hsn : s ≠ [] := by
          rintro rfl
          rcases hs with h | ⟨e, he, hb⟩
          · cases h
          · simp at he; subst he; rw [q1] at hb; cases hb
        rw [bl_solid (hst.ex hsn) h10'] at q2; cases q2
      rw [dd_keep hc hk, lineGo_ne hc, ih s (by omega) hst h10']; rfl
/-- the last line -/
theorem last_dd : ∀ (n : Nat) (s : List Nat), s.length ≤ n → s ≠ [] → 10 ∉ s → s.getLast? ≠ some 61 → lineGo [10] s = dd s ++ [10]
  | _, [], _, h, _, _ => absurd rfl h
  | 0, c :: s, h, _, _, _ => by simp at h
  | n + 1, c :: s, h, _, h10, hl => by
    have ih := last_dd n
    simp only [List.length_cons] at h
    have h10' : 10 ∉ s := fun q => h10 (.tail _ q)
    have hbl := bl_none h10'
    by_cases hc : c = 61
    · subst hc
      match s, h, h10', hl, hbl with
      | [], h, h10', hl, hbl => exact absurd rfl hl
      | [a], h, h10', hl, hbl =>
        have hes : ¬ ∃ x y r', [a] = x :: y :: r' ∧ x ∈ hexL ∧ y ∈ hexL := by rintro ⟨x, y, r', e, _⟩; simp at e
        rw [lineGo_lit1, dd_lit hes hbl, ih [a] (by simp at h ⊢; omega) (by simp) h10' (by simpa using hl)]; rfl
      | a :: b :: s', h, h10', hl, hbl =>
        simp only [List.length_cons] at h
        by_cases hx : a ∈ hexL ∧ b ∈ hexL
        · rw [lineGo_esc hx.1 hx.2, dd_esc hx.1 hx.2]
          cases s' with
          | nil => rw [dd_nil]; rfl
          | cons d s'' =>
            rw [if_neg (by simp), ih (d :: s'') (by simp at h ⊢; omega) (by simp) (fun q => h10' (.tail _ (.tail _ q))) (by simpa [List.getLast?_cons_cons] using hl)]; rfl
        · have hes : ¬ ∃ x y r', (a :: b :: s') = x :: y :: r' ∧ x ∈ hexL ∧ y ∈ hexL := by
            rintro ⟨x, y, r', e, hx', hy'⟩
            simp at e
            obtain ⟨rfl, rfl, _⟩ := e
            exact hx ⟨hx', hy'⟩
          rw [lineGo_lit2 hx, dd_lit hes hbl, ih (a :: b :: s') (by simp; omega) (by simp) h10' (by simpa [List.getLast?_cons_cons] using hl)]; rfl
    · rw [lineGo_ne hc, dd_keep hc (fun q => by rw [hbl] at q; cases q.2)]
      cases s with
      | nil => rw [dd_nil]; rfl
      | cons d s' => rw [if_neg (by simp), ih (d :: s') (by omega) (by simp) h10' (by simpa [List.getLast?_cons_cons] using hl)]; rfl

theorem linesGo_break {cur line rest : List Nat} (h : ∀ c ∈ line, Unicode.isLineBreak c = false) : linesGo cur false (line ++ 10 :: rest) = (cur ++ line) :: linesL rest := by
  induction line generalizing cur with
  | nil => simp [linesGo, sp_nl.2, linesL]
  | cons c line ih =>
    have hc := h c (.head _)
    rw [List.cons_append, linesGo]
    simp only [Bool.false_eq_true, false_and, if_false, hc]
    rw [ih fun d hd => h d (.tail _ hd)]; simp
theorem linesGo_last {cur line : List Nat} (h : ∀ c ∈ line, Unicode.isLineBreak c = false) : linesGo cur false line = if cur ++ line = [] then [] else [cur ++ line] := by
  induction line generalizing cur with
  | nil => simp [linesGo]
  | cons c line ih =>
    have hc := h c (.head _)
    rw [linesGo]
    simp only [Bool.false_eq_true, false_and, if_false, hc]
    rw [ih fun d hd => h d (.tail _ hd)]; simp
theorem split10 : ∀ w : List Nat, 10 ∈ w → ∃ line rest, w = line ++ 10 :: rest ∧ 10 ∉ line
  | [], h => by cases h
  | c :: w, h => by
    by_cases hc : c = 10
    · exact ⟨[], w, by simp [hc], by simp⟩
    · have : 10 ∈ w := by
        rcases List.mem_cons.mp h with e | e
        · exact absurd e.symm hc
        · exact e
      obtain ⟨line, rest, e, hn⟩ := split10 w this
      exact ⟨c :: line, rest, by simp [e], by simp [Ne.symm hc, hn]⟩
/-- the last sign is none that decode takes at a text's end -/
def endOk (w : List Nat) : Prop := ∀ c, w.getLast? = some c → bk c = false ∧ c ≠ 61
theorem decRaw_dd : ∀ (n : Nat) (w : List Nat), w.length ≤ n → (∀ c ∈ w, fine c) → endOk w → decRaw [10] w = if w = [] ∨ w.getLast? = some 10 then dd w else dd w ++ [10]
  | n, w, hn, hf, he => by
    by_cases h10 : 10 ∈ w
    · obtain ⟨line, rest, rfl, hl⟩ := split10 w h10
      have hlb : ∀ c ∈ line, Unicode.isLineBreak c = false := fun c hc => by
        cases q : Unicode.isLineBreak c with
        | false => rfl
        | true =>
          have := (hf c (by simp [hc])).2 q
          exact absurd (this ▸ hc) hl
      have e1 : linesL (line ++ 10 :: rest) = line :: linesL rest := by
        have := linesGo_break (cur := []) (rest := rest) hlb
        simpa [linesL] using this
      obtain ⟨ws, e2, hws, hsol⟩ := rstrip_split line
      have hwb : ∀ c ∈ ws, bk c = true := fun c hc => by
        have hcl : c ∈ line := by rw [e2]; simp [hc]
        rcases (hf c (by simp [hcl])).1 (hws c hc) with q | q
        · exact q
        · exact absurd (q ▸ hcl) hl
      have hs : solid (rstripL line) := by
        rcases hsol with q | ⟨c, q1, q2⟩
        · exact .inl q
        · refine .inr ⟨c, q1, ?_⟩
          cases hb : bk c with
          | false => rfl
          | true => rw [(sp_bk c hb).1] at q2; cases q2
      have hs10 : 10 ∉ rstripL line := fun q => hl (by rw [e2]; simp [q])
      have e3 : dd (line ++ 10 :: rest) = lineF [10] line ++ dd rest := by
        have := line_dd ws rest hwb _ (rstripL line) (Nat.le_refl _) hs hs10
        rw [← List.append_assoc, ← e2] at this
        rw [this]; rfl
      have e4 : decRaw [10] (line ++ 10 :: rest) = lineF [10] line ++ decRaw [10] rest := by
        unfold decRaw; rw [e1]; simp
      rw [e3, e4]
      cases n with
      | zero => simp at hn
      | succ n =>
        have ih := decRaw_dd n rest (by simp at hn; omega) (fun c hc => hf c (by simp [hc])) (fun c hc => he c (by
          cases rest with
          | nil => cases hc
          | cons d r => simpa [List.getLast?_append, List.getLast?_cons_cons] using hc))
        rw [ih]
        cases rest with
        | nil => simp [List.getLast?_append]
        | cons d r =>
          have : (line ++ 10 :: d :: r).getLast? = (d :: r).getLast? := by rw [List.getLast?_append, List.getLast?_cons_cons, List.getLast?_eq_some_getLast (by simp : d :: r ≠ [])]; rfl
          rw [this]
          have hne : line ++ 10 :: d :: r ≠ [] := by simp
          have hne2 : d :: r ≠ [] := by simp
          simp only [hne, hne2, false_or]
          split <;> simp
    · have hlb : ∀ c ∈ w, Unicode.isLineBreak c = false := fun c hc => by
        cases q : Unicode.isLineBreak c with
        | false => rfl
        | true => exact absurd ((hf c hc).2 q ▸ hc) h10
      have e1 : linesL w = if w = [] then [] else [w] := by
        have := linesGo_last (cur := []) hlb
        simpa [linesL] using this
      by_cases hw : w = []
      · subst hw; simp [decRaw, linesL, linesGo, dd_nil]
      · rw [if_neg hw] at e1
        obtain ⟨c, hc⟩ : ∃ c, w.getLast? = some c := ⟨_, List.getLast?_eq_some_getLast hw⟩
        obtain ⟨q1, q2⟩ := he c hc
        have hcw := List.mem_of_getLast? hc
        have hc10 : c ≠ 10 := fun e => h10 (e ▸ hcw)
        have hsp : Unicode.isSpace c = false := by
          cases q : Unicode.isSpace c with
          | false => rfl
          | true =>
            rcases (hf c hcw).1 q with q | q
            · rw [q1] at q; cases q
            · exact absurd q hc10
        have hrs := rstrip_same hc hsp
        have hnot : ¬ (w = [] ∨ w.getLast? = some 10) := by
          rw [hc]; rintro (q | q)
          · exact hw q
          · exact hc10 (by simpa using q)
        rw [if_neg hnot]
        unfold decRaw
        rw [e1]
        simp only [List.map_cons, List.map_nil, List.flatten_cons, List.flatten_nil, List.append_nil]
        unfold lineF
        rw [hrs, if_neg hw]
        exact last_dd _ w (Nat.le_refl _) hw h10 (by rw [hc]; simpa using q2)
theorem decF_dd {w : List Nat} (hf : ∀ c ∈ w, fine c) (he : endOk w) : decF [10] w = dd w := by
  unfold decF
  by_cases hw : w = []
  · rw [if_pos hw, hw, dd_nil]
  · rw [if_neg hw]
    have key := decRaw_dd _ w (Nat.le_refl _) hf he
    by_cases h10 : w.getLast? = some 10
    · rw [if_pos (Or.inr h10)] at key
      rw [if_neg fun q => q.2.1 h10]; exact key
    · have h13 : w.getLast? ≠ some 13 := fun q => by
        have := (hf 13 (List.mem_of_getLast? q)).2 (by decide +kernel)
        cases this
      have hnot : ¬ (w = [] ∨ w.getLast? = some 10) := fun q => q.elim hw h10
      rw [if_neg hnot] at key
      have hends : endsL (dd w ++ [10]) [10] = true := by simp [endsL]
      rw [key, if_pos ⟨h13, h10, hends⟩]
      unfold sl
      simp only [Option.elim, List.drop_zero, Nat.sub_zero, List.length_cons, List.length_nil, Nat.zero_add]
      rw [clipAt_neg _ 1 (Nat.le_refl _)]
      simp

theorem hex_fine : ∀ a ∈ hexL, Unicode.isSpace a = false ∧ Unicode.isLineBreak a = false := by decide +kernel
theorem lb_eq : Unicode.isLineBreak 61 = false := by decide +kernel
theorem fine_of {c : Nat} (h : c = 61 ∨ c ∈ hexL ∨ bk c = true ∨ c = 10) : fine c := by
  rcases h with rfl | h | h | rfl
  · exact ⟨(fun q => by rw [sp_eq] at q; cases q), (fun q => by rw [lb_eq] at q; cases q)⟩
  · exact ⟨(fun q => by rw [(hex_fine c h).1] at q; cases q), (fun q => by rw [(hex_fine c h).2] at q; cases q)⟩
  · exact ⟨fun _ => .inl h, (fun q => by rw [(sp_bk c h).2] at q; cases q)⟩
  · exact ⟨fun _ => .inr rfl, fun _ => rfl⟩
end Mine
end

section
namespace Mine
set_option genSizeOf false
set_option genInjectivity false
mutual
/-- a sign and what it is made of -/
inductive Nd where
  | leaf (c : Nat)
  | esc (a : Nd) (g : SG) (b : Nd) (h : SG) (c : Nd)
/-- a line's end and what goes ahead of it -/
inductive LE where
  | base (l : Nd)
  | blank (n : Nd) (r : LE)
  | soft (e : Nd) (x : LE) (r : LE)
/-- soft breaks that go -/
inductive SG where
  | nil
  | cons (e : Nd) (x : LE) (r : SG)
end
/-- the sign -/
def sg : Nd → Nat
  | .leaf c => c
  | .esc a g b h c => hv (sg b) * 16 + hv (sg c)
mutual
/-- the round in which it comes -/
def bn : Nd → Nat
  | .leaf c => 0
  | .esc a g b h c => 1 + max (max (bn a) (max (bn b) (bn c))) (max (tG g) (tG h))
def tL : LE → Nat
  | .base l => bn l
  | .blank n r => max (bn n) (tL r)
  | .soft e x r => max (1 + max (bn e) (tL x)) (tL r)
def tG : SG → Nat
  | .nil => 0
  | .cons e x r => max (1 + max (bn e) (tL x)) (tG r)
end
theorem bn_lt (a : Nd) (g : SG) (b : Nd) (h : SG) (c : Nd) : bn a < bn (.esc a g b h c) ∧ bn b < bn (.esc a g b h c) ∧ bn c < bn (.esc a g b h c) ∧ tG g < bn (.esc a g b h c) ∧ tG h < bn (.esc a g b h c) := by
  have e : bn (.esc a g b h c) = max (max (bn a) (max (bn b) (bn c))) (max (tG g) (tG h)) + 1 := by rw [bn, Nat.add_comm]
  rw [e]
  refine ⟨Nat.lt_succ_of_le ?_, Nat.lt_succ_of_le ?_, Nat.lt_succ_of_le ?_, Nat.lt_succ_of_le ?_, Nat.lt_succ_of_le ?_⟩
  · exact Nat.le_trans (Nat.le_max_left _ _) (Nat.le_max_left _ _)
  · exact Nat.le_trans (Nat.le_trans (Nat.le_max_left _ _) (Nat.le_max_right _ _)) (Nat.le_max_left _ _)
  · exact Nat.le_trans (Nat.le_trans (Nat.le_max_right _ _) (Nat.le_max_right _ _)) (Nat.le_max_left _ _)
  · exact Nat.le_trans (Nat.le_max_left _ _) (Nat.le_max_right _ _)
  · exact Nat.le_trans (Nat.le_max_right _ _) (Nat.le_max_right _ _)
theorem bn_le {a : Nd} {g : SG} {b : Nd} {h : SG} {c : Nd} {r : Nat} (h1 : bn a ≤ r) (h2 : bn b ≤ r) (h3 : bn c ≤ r) (h4 : tG g ≤ r) (h5 : tG h ≤ r) : bn (.esc a g b h c) ≤ r + 1 := by
  have e : bn (.esc a g b h c) = max (max (bn a) (max (bn b) (bn c))) (max (tG g) (tG h)) + 1 := by rw [bn, Nat.add_comm]
  rw [e]
  exact Nat.succ_le_succ (Nat.max_le.mpr ⟨Nat.max_le.mpr ⟨h1, Nat.max_le.mpr ⟨h2, h3⟩⟩, Nat.max_le.mpr ⟨h4, h5⟩⟩)
mutual
def okN : Nd → Prop
  | .leaf c => True
  | .esc a g b h c => okN a ∧ okG g ∧ okN b ∧ okG h ∧ okN c ∧ sg a = 61 ∧ sg b ∈ hexL ∧ sg c ∈ hexL
def okL : LE → Prop
  | .base l => okN l ∧ sg l = 10
  | .blank n r => okN n ∧ sg n = 32 ∧ okL r
  | .soft e x r => okN e ∧ sg e = 61 ∧ okL x ∧ okL r
def okG : SG → Prop
  | .nil => True
  | .cons e x r => okN e ∧ sg e = 61 ∧ okL x ∧ okG r
end
mutual
/-- what stands after so many rounds -/
def aN (r : Nat) : Nd → List Nat
  | .leaf c => [c]
  | .esc a g b h c => if bn (.esc a g b h c) ≤ r then [sg (.esc a g b h c)] else aN r a ++ (aG r g ++ (aN r b ++ (aG r h ++ aN r c)))
def aL (r : Nat) : LE → List Nat
  | .base l => aN r l
  | .blank n x => if 1 + max (bn n) (tL x) ≤ r then aL r x else aN r n ++ aL r x
  | .soft e x y => if 1 + max (bn e) (tL x) ≤ r then aL r y else aN r e ++ (aL r x ++ aL r y)
def aG (r : Nat) : SG → List Nat
  | .nil => []
  | .cons e x y => if 1 + max (bn e) (tL x) ≤ r then aG r y else aN r e ++ (aL r x ++ aG r y)
end
theorem aN_born {r : Nat} {n : Nd} (h : bn n ≤ r) : aN r n = [sg n] := by
  cases n with
  | leaf c => rfl
  | esc a g b i c => rw [aN, if_pos h]
theorem aN_eq : ∀ {r : Nat} {n : Nd}, okN n → r < bn n → ∃ t, aN r n = 61 :: t
  | r, .leaf c, _, h => by simp [bn] at h
  | r, .esc a g b i c, hk, h => by
    rw [aN, if_neg (by omega)]
    simp only [okN] at hk
    by_cases ha : r < bn a
    · obtain ⟨t, e⟩ := aN_eq hk.1 ha
      rw [e]; exact ⟨_, rfl⟩
    · rw [aN_born (by omega), hk.2.2.2.2.2.1]; exact ⟨_, rfl⟩
/-- a = node begins with = -/
theorem aN_eq' {r : Nat} {n : Nd} (hk : okN n) (hs : sg n = 61) : ∃ t, aN r n = 61 :: t := by
  by_cases h : r < bn n
  · exact aN_eq hk h
  · rw [aN_born (by omega), hs]; exact ⟨_, rfl⟩
theorem es_not {c : Nat} {x : List Nat} (h : c ∉ hexL) : es (c :: x) = false := by
  cases x with
  | nil => rfl
  | cons d x => simp [es, h]
theorem es_not2 {c d : Nat} {x : List Nat} (h : d ∉ hexL) : es (c :: d :: x) = false := by simp [es, h]
theorem eq_out : (61 : Nat) ∉ hexL := by decide
theorem sp_out : (32 : Nat) ∉ hexL := by decide
theorem nl_out : (10 : Nat) ∉ hexL := by decide
theorem bl_eq (x : List Nat) : bl (61 :: x) = false := by simp [bl, bk]
theorem bl_sp (x : List Nat) : bl (32 :: x) = bl x := by simp [bl, bk]
theorem cut_sp (x : List Nat) : cut (32 :: x) = cut x := by simp [cut]
/-- all that goes ahead of the line's end is blank -/
theorem le_ready : ∀ {r : Nat} {x : LE} (z : List Nat), okL x → tL x ≤ r → bl (aL r x ++ z) = true ∧ cut (aL r x ++ z) = z
  | r, .base l, z, hk, h => by
    simp only [okL, tL] at hk h
    rw [aL, aN_born h, hk.2]
    exact ⟨by simp [bl], by simp [cut]⟩
  | r, .blank n x, z, hk, h => by
    simp only [okL, tL] at hk h
    obtain ⟨h1, h2⟩ := le_ready z hk.2.2 (show tL x ≤ r by omega)
    rw [aL]
    split
    · exact ⟨h1, h2⟩
    · rw [aN_born (by omega), hk.2.1, List.append_assoc, List.singleton_append, bl_sp, cut_sp]
      exact ⟨h1, h2⟩
  | r, .soft e x y, z, hk, h => by
    simp only [okL, tL] at hk h
    rw [aL, if_pos (by omega)]
    exact le_ready z hk.2.2.2 (by omega)
/-- not yet -/
theorem le_wait : ∀ {r : Nat} {x : LE} (z : List Nat), okL x → r < tL x → bl (aL r x ++ z) = false
  | r, .base l, z, hk, h => by
    simp only [okL, tL] at hk h
    obtain ⟨t, e⟩ := aN_eq hk.1 h
    rw [aL, e]; exact bl_eq _
  | r, .blank n x, z, hk, h => by
    simp only [okL, tL] at hk h
    rw [aL, if_neg (by omega)]
    by_cases hn : r < bn n
    · obtain ⟨t, e⟩ := aN_eq hk.1 hn
      rw [e]; exact bl_eq _
    · rw [aN_born (by omega), hk.2.1, List.append_assoc, List.singleton_append, bl_sp]
      exact le_wait z hk.2.2 (by omega)
  | r, .soft e x y, z, hk, h => by
    simp only [okL, tL] at hk h
    rw [aL]
    split
    · exact le_wait z hk.2.2.2 (by omega)
    · obtain ⟨t, e'⟩ := aN_eq' (r := r) hk.1 hk.2.1
      rw [e']; exact bl_eq _
/-- it begins with no figure -/
theorem le_head : ∀ {r : Nat} {x : LE}, okL x → ∃ c t, aL r x = c :: t ∧ c ∉ hexL
  | r, .base l, hk => by
    simp only [okL] at hk
    rw [aL]
    by_cases hn : r < bn l
    · obtain ⟨t, e⟩ := aN_eq hk.1 hn
      exact ⟨_, _, e, eq_out⟩
    · rw [aN_born (by omega), hk.2]; exact ⟨_, _, rfl, nl_out⟩
  | r, .blank n x, hk => by
    simp only [okL] at hk
    rw [aL]
    split
    · exact le_head hk.2.2
    · by_cases hn : r < bn n
      · obtain ⟨t, e⟩ := aN_eq hk.1 hn
        rw [e]; exact ⟨_, _, rfl, eq_out⟩
      · rw [aN_born (by omega), hk.2.1]; exact ⟨_, _, rfl, sp_out⟩
  | r, .soft e x y, hk => by
    simp only [okL] at hk
    rw [aL]
    split
    · exact le_head hk.2.2.2
    · obtain ⟨t, e'⟩ := aN_eq' (r := r) hk.1 hk.2.1
      rw [e']; exact ⟨_, _, rfl, eq_out⟩
theorem aG_gone : ∀ {r : Nat} {g : SG}, tG g ≤ r → aG r g = []
  | r, .nil, _ => by rw [aG]
  | r, .cons e x y, h => by
    simp only [tG] at h
    rw [aG, if_pos (by omega)]
    exact aG_gone (by omega)
theorem aG_eq : ∀ {r : Nat} {g : SG}, okG g → r < tG g → ∃ t, aG r g = 61 :: t
  | r, .nil, _, h => by simp [tG] at h
  | r, .cons e x y, hk, h => by
    simp only [okG, tG] at hk h
    rw [aG]
    split
    · exact aG_eq hk.2.2.2 (by omega)
    · obtain ⟨t, e'⟩ := aN_eq' (r := r) hk.1 hk.2.1
      rw [e']; exact ⟨_, rfl⟩
theorem dd_hex {c : Nat} (h : c ∈ hexL) (x : List Nat) : dd (c :: x) = c :: dd x := by
  obtain ⟨h1, _, h3, _⟩ := hex_plain c h
  exact dd_keep h1 (by simp [h3])
theorem dd_10 (x : List Nat) : dd (10 :: x) = 10 :: dd x := dd_keep (by decide) (by simp [bk])
theorem dd_eqL {x : List Nat} (h1 : es x = false) (h2 : bl x = false) : dd (61 :: x) = 61 :: dd x :=
  dd_lit (fun q => by rw [es_iff.mpr q] at h1; cases h1) h2
theorem dd_32 {x : List Nat} (h : bl x = false) : dd (32 :: x) = 32 :: dd x := dd_keep (by decide) (by simp [h])
theorem dd_32t {x : List Nat} (h : bl x = true) : dd (32 :: x) = dd x := dd_blank (by decide) h
mutual
/-- a round -/
theorem rN : ∀ {r : Nat} {n : Nd} (z : List Nat), okN n → r < bn n → dd (aN r n ++ z) = aN (r + 1) n ++ dd z
  | r, .leaf c, z, _, h => by simp [bn] at h
  | r, .esc a g b i c, z, hk, h => by
    obtain ⟨b1, b2, b3, b4, b5⟩ := bn_lt a g b i c
    simp only [okN] at hk
    obtain ⟨ka, kg, kb, ki, kc, sa, sb, sc⟩ := hk
    rw [aN, aN, if_neg (by omega)]
    by_cases hw : bn (.esc a g b i c) ≤ r + 1
    · rw [if_pos hw, aN_born (n := a) (by omega), aN_born (n := b) (by omega), aN_born (n := c) (by omega), aG_gone (g := g) (by omega), aG_gone (g := i) (by omega), sa]
      show dd (61 :: sg b :: sg c :: z) = _
      rw [dd_esc sb sc, sg]; rfl
    · rw [if_neg hw]
      have hh : ∀ {m : Nd} (y : List Nat), sg m ∈ hexL → (r < bn m → dd (aN r m ++ y) = aN (r + 1) m ++ dd y) → dd (aN r m ++ y) = aN (r + 1) m ++ dd y := by
        intro m y hm ih
        by_cases hb : r < bn m
        · exact ih hb
        · rw [aN_born (show bn m ≤ r by omega), aN_born (show bn m ≤ r + 1 by omega)]
          exact dd_hex hm y
      have e4 := hh (m := c) z sc (rN z kc)
      have e3 := rG (r := r) (g := i) (aN r c ++ z) ki
      have e2 := hh (m := b) (aG r i ++ (aN r c ++ z)) sb (rN _ kb)
      have e1 := rG (r := r) (g := g) (aN r b ++ (aG r i ++ (aN r c ++ z))) kg
      rw [e4] at e3
      rw [e3] at e2
      rw [e2] at e1
      simp only [List.append_assoc]
      rw [← e1]
      by_cases ha : r < bn a
      · exact rN _ ka ha
      · rw [aN_born (show bn a ≤ r by omega), aN_born (show bn a ≤ r + 1 by omega), sa]
        simp only [List.singleton_append]
        have key : es (aG r g ++ (aN r b ++ (aG r i ++ (aN r c ++ z)))) = false ∧ bl (aG r g ++ (aN r b ++ (aG r i ++ (aN r c ++ z)))) = false := by
          by_cases hg : r < tG g
          · obtain ⟨t, e⟩ := aG_eq kg hg
            rw [e]; exact ⟨es_not eq_out, bl_eq _⟩
          · rw [aG_gone (show tG g ≤ r by omega), List.nil_append]
            by_cases hb : r < bn b
            · obtain ⟨t, e⟩ := aN_eq kb hb
              rw [e]; exact ⟨es_not eq_out, bl_eq _⟩
            · rw [aN_born (show bn b ≤ r by omega), List.singleton_append]
              refine ⟨?_, bl_hex sb⟩
              by_cases hi : r < tG i
              · obtain ⟨t, e⟩ := aG_eq ki hi
                rw [e]; exact es_not2 eq_out
              · rw [aG_gone (show tG i ≤ r by omega), List.nil_append]
                by_cases hc : r < bn c
                · obtain ⟨t, e⟩ := aN_eq kc hc
                  rw [e]; exact es_not2 eq_out
                · exact absurd (bn_le (by omega) (by omega) (by omega) (by omega) (by omega)) hw
        exact dd_eqL key.1 key.2
theorem rL : ∀ {r : Nat} {x : LE} (z : List Nat), okL x → dd (aL r x ++ z) = aL (r + 1) x ++ dd z
  | r, .base l, z, hk => by
    simp only [okL] at hk
    rw [aL, aL]
    by_cases h : r < bn l
    · exact rN z hk.1 h
    · rw [aN_born (show bn l ≤ r by omega), aN_born (show bn l ≤ r + 1 by omega), hk.2]
      exact dd_10 z
  | r, .blank n y, z, hk => by
    simp only [okL] at hk
    obtain ⟨kn, sn, ky⟩ := hk
    have ih := rL (r := r) z ky
    rw [aL, aL]
    by_cases h1 : 1 + max (bn n) (tL y) ≤ r
    · rw [if_pos h1, if_pos (by omega)]; exact ih
    · rw [if_neg h1]
      by_cases h2 : 1 + max (bn n) (tL y) ≤ r + 1
      · rw [if_pos h2, aN_born (show bn n ≤ r by omega), sn, List.append_assoc, List.singleton_append, dd_32t (le_ready z ky (by omega)).1]
        exact ih
      · rw [if_neg h2, List.append_assoc, List.append_assoc, ← ih]
        by_cases h3 : r < bn n
        · exact rN _ kn h3
        · rw [aN_born (show bn n ≤ r by omega), aN_born (show bn n ≤ r + 1 by omega), sn]
          exact dd_32 (le_wait z ky (by omega))
  | r, .soft e x y, z, hk => by
    simp only [okL] at hk
    obtain ⟨ke, se, kx, ky⟩ := hk
    have ih := rL (r := r) z ky
    have ihx := rL (r := r) (aL r y ++ z) kx
    rw [aL, aL]
    by_cases h1 : 1 + max (bn e) (tL x) ≤ r
    · rw [if_pos h1, if_pos (by omega)]; exact ih
    · rw [if_neg h1]
      simp only [List.append_assoc]
      by_cases h2 : 1 + max (bn e) (tL x) ≤ r + 1
      · obtain ⟨q1, q2⟩ := le_ready (r := r) (aL r y ++ z) kx (by omega)
        rw [if_pos h2, aN_born (show bn e ≤ r by omega), se, List.singleton_append, dd_soft q1, q2]
        exact ih
      · rw [if_neg h2]
        simp only [List.append_assoc]
        rw [← ih, ← ihx]
        by_cases h3 : r < bn e
        · exact rN _ ke h3
        · rw [aN_born (show bn e ≤ r by omega), aN_born (show bn e ≤ r + 1 by omega), se]
          obtain ⟨c, t, e1, e2⟩ := le_head (r := r) kx
          refine dd_eqL ?_ (le_wait _ kx (by omega))
          rw [e1]; exact es_not e2
theorem rG : ∀ {r : Nat} {g : SG} (z : List Nat), okG g → dd (aG r g ++ z) = aG (r + 1) g ++ dd z
  | r, .nil, z, _ => by rw [aG, aG]; rfl
  | r, .cons e x y, z, hk => by
    simp only [okG] at hk
    obtain ⟨ke, se, kx, ky⟩ := hk
    have ih := rG (r := r) z ky
    have ihx := rL (r := r) (aG r y ++ z) kx
    rw [aG, aG]
    by_cases h1 : 1 + max (bn e) (tL x) ≤ r
    · rw [if_pos h1, if_pos (by omega)]; exact ih
    · rw [if_neg h1]
      simp only [List.append_assoc]
      by_cases h2 : 1 + max (bn e) (tL x) ≤ r + 1
      · obtain ⟨q1, q2⟩ := le_ready (r := r) (aG r y ++ z) kx (by omega)
        rw [if_pos h2, aN_born (show bn e ≤ r by omega), se, List.singleton_append, dd_soft q1, q2]
        exact ih
      · rw [if_neg h2]
        simp only [List.append_assoc]
        rw [← ih, ← ihx]
        by_cases h3 : r < bn e
        · exact rN _ ke h3
        · rw [aN_born (show bn e ≤ r by omega), aN_born (show bn e ≤ r + 1 by omega), se]
          obtain ⟨c, t, e1, e2⟩ := le_head (r := r) kx
          refine dd_eqL ?_ (le_wait _ kx (by omega))
          rw [e1]; exact es_not e2
end
end Mine
end

section
namespace Mine
/-- an entry of the stack -/
inductive Ent where
  | nd (g : SG) (n : Nd)
  | lf (x : LE)
def tp : Ent → Nat
  | .nd g n => sg n
  | .lf x => 10
def okE : Ent → Prop
  | .nd g n => okG g ∧ okN n ∧ sg n ≠ 10 ∧ sg n ≠ 9
  | .lf x => okL x
def aE (r : Nat) : Ent → List Nat
  | .nd g n => aG r g ++ aN r n
  | .lf x => aL r x
def aEs (r : Nat) (E : List Ent) : List Nat := E.flatMap (aE r)
/-- nothing is left to do -/
structure SS (l : List Nat) : Prop where
  two : ∀ A x y B, l = A ++ x :: y :: B → ¬ (y = 10 ∧ (x = 61 ∨ x = 32))
  three : ∀ A x y z B, l = A ++ x :: y :: z :: B → ¬ (x = 61 ∧ y ∈ hexL ∧ z ∈ hexL)
theorem SS.tail {c : Nat} {l : List Nat} (h : SS (c :: l)) : SS l := ⟨fun A x y B e => h.two (c :: A) x y B (by rw [e]; rfl), fun A x y z B e => h.three (c :: A) x y z B (by rw [e]; rfl)⟩
theorem SS.init {l m : List Nat} (h : SS (l ++ m)) : SS l := ⟨fun A x y B e => h.two A x y (B ++ m) (by rw [e]; simp), fun A x y z B e => h.three A x y z (B ++ m) (by rw [e]; simp)⟩
theorem SS.nil : SS [] := ⟨fun A x y B e => by simp at e, fun A x y z B e => by simp at e⟩
theorem SS.snoc {l : List Nat} {c : Nat} (h : SS l) (h2 : ∀ l' x, l = l' ++ [x] → ¬ (c = 10 ∧ (x = 61 ∨ x = 32))) (h3 : ∀ l' x y, l = l' ++ [x, y] → ¬ (x = 61 ∧ y ∈ hexL ∧ c ∈ hexL)) : SS (l ++ [c]) := by
  constructor
  · intro A x y B e
    rcases List.eq_nil_or_concat B with rfl | ⟨B', b, rfl⟩
    · have e' : l ++ [c] = (A ++ [x]) ++ [y] := by rw [e]; simp
      obtain ⟨q1, q2⟩ := List.append_inj' e' rfl
      cases q2
      exact h2 A x q1
    · have e' : l ++ [c] = (A ++ x :: y :: B') ++ [b] := by rw [e]; simp
      exact h.two A x y B' (List.append_inj' e' rfl).1
  · intro A x y z B e
    rcases List.eq_nil_or_concat B with rfl | ⟨B', b, rfl⟩
    · have e' : l ++ [c] = (A ++ [x, y]) ++ [z] := by rw [e]; simp
      obtain ⟨q1, q2⟩ := List.append_inj' e' rfl
      cases q2
      exact h3 A x y q1
    · have e' : l ++ [c] = (A ++ x :: y :: z :: B') ++ [b] := by rw [e]; simp
      exact h.three A x y z B' (List.append_inj' e' rfl).1
theorem aE_bl {r : Nat} : ∀ {E : List Ent}, (∀ e ∈ E, okE e) → SS (E.map tp) → (∀ e E', E = e :: E' → tp e ≠ 10) → bl (aEs r E) = false
  | [], _, _, _ => rfl
  | .lf x :: E, _, _, h => absurd rfl (h _ _ rfl)
  | .nd g n :: E, hk, hs, h => by
    obtain ⟨kg, kn, k1, k2⟩ := hk _ (.head _)
    have e0 : aEs r (.nd g n :: E) = aG r g ++ (aN r n ++ aEs r E) := by simp [aEs, aE]
    rw [e0]
    by_cases hg : r < tG g
    · obtain ⟨t, e⟩ := aG_eq kg hg
      rw [e]; exact bl_eq _
    · rw [aG_gone (by omega), List.nil_append]
      by_cases hn : r < bn n
      · obtain ⟨t, e⟩ := aN_eq kn hn
        rw [e]; exact bl_eq _
      · rw [aN_born (by omega), List.singleton_append]
        by_cases h32 : sg n = 32
        · rw [h32, bl_sp]
          refine aE_bl (fun e he => hk e (.tail _ he)) hs.tail fun e E' q h10 => ?_
          subst q
          exact hs.two [] 32 10 (E'.map tp) (by rw [List.map_cons, List.map_cons, h10, show tp (.nd g n) = 32 from h32]; rfl) ⟨rfl, .inr rfl⟩
        · simp [bl, k1, bk, h32, k2]
theorem aE_head {r : Nat} {E : List Ent} (hk : ∀ e ∈ E, okE e) : aEs r E = [] ∨ ∃ c t, aEs r E = c :: t ∧ (c ∈ hexL → ∃ e E', E = e :: E' ∧ tp e = c ∧ t = aEs r E') := by
  cases E with
  | nil => exact .inl rfl
  | cons e E =>
    refine .inr ?_
    cases e with
    | lf x =>
      obtain ⟨c, t, e1, e2⟩ := le_head (r := r) (x := x) (hk _ (.head _))
      have : aEs r (.lf x :: E) = c :: (t ++ aEs r E) := by simp [aEs, aE, e1]
      exact ⟨c, _, this, fun q => absurd q e2⟩
    | nd g n =>
      obtain ⟨kg, kn, k1, k2⟩ := hk _ (.head _)
      have e0 : aEs r (.nd g n :: E) = aG r g ++ (aN r n ++ aEs r E) := by simp [aEs, aE]
      rw [e0]
      by_cases hg : r < tG g
      · obtain ⟨t, e⟩ := aG_eq kg hg
        rw [e]; exact ⟨61, _, rfl, fun q => absurd q eq_out⟩
      · rw [aG_gone (by omega), List.nil_append]
        by_cases hn : r < bn n
        · obtain ⟨t, e⟩ := aN_eq kn hn
          rw [e]; exact ⟨61, _, rfl, fun q => absurd q eq_out⟩
        · rw [aN_born (by omega), List.singleton_append]
          exact ⟨_, _, rfl, fun _ => ⟨_, _, rfl, rfl, rfl⟩⟩
theorem aE_es {r : Nat} {E : List Ent} (hk : ∀ e ∈ E, okE e) (hs : SS (61 :: E.map tp)) : es (aEs r E) = false := by
  rcases aE_head (r := r) hk with e | ⟨c, t, e, hc⟩
  · rw [e]; rfl
  · rw [e]
    by_cases q : c ∈ hexL
    · obtain ⟨e1, E1, rfl, h1, rfl⟩ := hc q
      rcases aE_head (r := r) (E := E1) (fun e he => hk e (.tail _ he)) with e' | ⟨d, t', e', hd⟩
      · rw [e']; rfl
      · rw [e']
        by_cases q2 : d ∈ hexL
        · obtain ⟨e2, E2, rfl, h2, rfl⟩ := hd q2
          exact absurd ⟨rfl, q, q2⟩ (hs.three [] 61 c d (E2.map tp) (by simp [h1, h2]))
        · exact es_not2 q2
    · exact es_not q
/-- a round of a settled text -/
theorem rE {r : Nat} : ∀ {E : List Ent}, (∀ e ∈ E, okE e) → SS (E.map tp) → dd (aEs r E) = aEs (r + 1) E
  | [], _, _ => dd_nil
  | .lf x :: E, hk, hs => by
    have ih := rE (r := r) (fun e he => hk e (.tail _ he)) hs.tail
    have e0 : ∀ r, aEs r (.lf x :: E) = aL r x ++ aEs r E := by simp [aEs, aE]
    rw [e0, e0, rL _ (hk _ (.head _)), ih]
  | .nd g n :: E, hk, hs => by
    have ih := rE (r := r) (fun e he => hk e (.tail _ he)) hs.tail
    obtain ⟨kg, kn, k1, k2⟩ := hk _ (.head _)
    have e0 : ∀ r, aEs r (.nd g n :: E) = aG r g ++ (aN r n ++ aEs r E) := by simp [aEs, aE]
    rw [e0, e0, rG _ kg]
    congr 1
    by_cases hn : r < bn n
    · rw [rN _ kn hn, ih]
    · rw [aN_born (show bn n ≤ r by omega), aN_born (show bn n ≤ r + 1 by omega), List.singleton_append, List.singleton_append, ← ih]
      have hno : ∀ e E', E = e :: E' → (sg n = 61 ∨ sg n = 32) → tp e ≠ 10 := fun e E' q hx h10 => by
        subst q
        exact hs.two [] (sg n) 10 (E'.map tp) (by rw [List.map_cons, List.map_cons, h10]; rfl) ⟨rfl, hx⟩
      by_cases h61 : sg n = 61
      · rw [h61]
        refine dd_eqL (aE_es (fun e he => hk e (.tail _ he)) ?_) (aE_bl (fun e he => hk e (.tail _ he)) hs.tail fun e E' q => hno e E' q (.inl h61))
        have : SS (tp (.nd g n) :: E.map tp) := hs
        rw [show tp (.nd g n) = 61 from h61] at this
        exact this
      · by_cases h32 : sg n = 32
        · rw [h32]
          exact dd_32 (aE_bl (fun e he => hk e (.tail _ he)) hs.tail fun e E' q => hno e E' q (.inr h32))
        · exact dd_keep h61 (by simp [bk, h32, k2])
abbrev four (c : Nat) : Prop := c = 61 ∨ c ∈ hexL ∨ c = 10 ∨ c = 32
mutual
theorem mN : ∀ {r : Nat} {n : Nd} {c : Nat}, okN n → c ∈ aN r n → c = sg n ∨ four c
  | r, .leaf d, c, _, h => by rw [aN] at h; exact .inl (List.mem_singleton.mp h)
  | r, .esc a g b i d, c, hk, h => by
    simp only [okN] at hk
    obtain ⟨ka, kg, kb, ki, kd, sa, sb, sd⟩ := hk
    rw [aN] at h
    split at h
    · exact .inl (List.mem_singleton.mp h)
    · refine .inr ?_
      simp only [List.mem_append] at h
      rcases h with h | h | h | h | h
      · exact (mN ka h).elim (fun q => .inl (q.trans sa)) id
      · exact mG kg h
      · exact (mN kb h).elim (fun q => .inr (.inl (q ▸ sb))) id
      · exact mG ki h
      · exact (mN kd h).elim (fun q => .inr (.inl (q ▸ sd))) id
theorem mL : ∀ {r : Nat} {x : LE} {c : Nat}, okL x → c ∈ aL r x → four c
  | r, .base l, c, hk, h => by
    simp only [okL] at hk
    rw [aL] at h
    exact (mN hk.1 h).elim (fun q => .inr (.inr (.inl (q.trans hk.2)))) id
  | r, .blank n y, c, hk, h => by
    simp only [okL] at hk
    rw [aL] at h
    split at h
    · exact mL hk.2.2 h
    · rcases List.mem_append.mp h with h | h
      · exact (mN hk.1 h).elim (fun q => .inr (.inr (.inr (q.trans hk.2.1)))) id
      · exact mL hk.2.2 h
  | r, .soft e x y, c, hk, h => by
    simp only [okL] at hk
    rw [aL] at h
    split at h
    · exact mL hk.2.2.2 h
    · simp only [List.mem_append] at h
      rcases h with h | h | h
      · exact (mN hk.1 h).elim (fun q => .inl (q.trans hk.2.1)) id
      · exact mL hk.2.2.1 h
      · exact mL hk.2.2.2 h
theorem mG : ∀ {r : Nat} {g : SG} {c : Nat}, okG g → c ∈ aG r g → four c
  | r, .nil, c, _, h => by rw [aG] at h; cases h
  | r, .cons e x y, c, hk, h => by
    simp only [okG] at hk
    rw [aG] at h
    split at h
    · exact mG hk.2.2.2 h
    · simp only [List.mem_append] at h
      rcases h with h | h | h
      · exact (mN hk.1 h).elim (fun q => .inl (q.trans hk.2.1)) id
      · exact mL hk.2.2.1 h
      · exact mG hk.2.2.2 h
end
theorem fine4 {c : Nat} (h : four c) : fine c := fine_of (by
  rcases h with h | h | h | h
  · exact .inl h
  · exact .inr (.inl h)
  · exact .inr (.inr (.inr h))
  · exact .inr (.inr (.inl (by subst h; decide))))
theorem fineE {r : Nat} {E : List Ent} (hk : ∀ e ∈ E, okE e) (hf : ∀ e ∈ E, fine (tp e)) : ∀ c ∈ aEs r E, fine c := by
  intro c hc
  obtain ⟨e, he, hc⟩ := List.mem_flatMap.mp hc
  have h1 := hk e he
  have h2 := hf e he
  cases e with
  | lf x => exact fine4 (mL h1 hc)
  | nd g n =>
    rcases List.mem_append.mp hc with hc | hc
    · exact fine4 (mG h1.1 hc)
    · exact (mN h1.2.1 hc).elim (fun q => by rw [q]; exact h2) fine4
/-- what decode gives -/
theorem dec04 {r : Nat} {E : List Ent} {g : SG} (hk : ∀ e ∈ E ++ [Ent.nd g (.leaf 46)], okE e) (hf : ∀ e ∈ E, fine (tp e)) (hs : SS ((E ++ [Ent.nd g (.leaf 46)]).map tp)) :
    decF [10] (aEs r (E ++ [.nd g (.leaf 46)])) = aEs (r + 1) (E ++ [.nd g (.leaf 46)]) := by
  rw [decF_dd, rE hk hs]
  · refine fineE hk fun e he => ?_
    rcases List.mem_append.mp he with he | he
    · exact hf e he
    · rw [List.mem_singleton.mp he]
      show fine 46
      exact ⟨fun q => absurd q (by decide +kernel), fun q => absurd q (by decide +kernel)⟩
  · intro c hc
    have : aEs r (E ++ [.nd g (.leaf 46)]) = (aEs r E ++ aG r g) ++ [46] := by simp [aEs, aE, aN]
    rw [this, List.getLast?_concat] at hc
    cases hc
    exact ⟨by decide, by decide⟩
end Mine
end

section
namespace Mine
/-- a stage: sign, born, gone -/
abbrev Stg := Nat × Nat × Int
abbrev Lvs := List (List Stg)
def lnode : LE → Nd
  | .base l => l
  | .blank n y => lnode y
  | .soft e x y => lnode y
def ini : Nd → List Stg
  | .leaf c => []
  | .esc a g b h c => ini a ++ [(sg a, bn a, (bn (.esc a g b h c) : Int))]
mutual
def res : Nd → Lvs
  | .leaf c => []
  | .esc a g b h c => res a ++ (pG g ++ ((ini b ++ [(sg b, bn b, (bn (.esc a g b h c) : Int))]) :: (res b ++ (pG h ++ ((ini c ++ [(sg c, bn c, (bn (.esc a g b h c) : Int))]) :: res c)))))
def preL : LE → Lvs
  | .base l => []
  | .blank n y => (ini n ++ [(sg n, bn n, ((1 + max (bn n) (tL y) : Nat) : Int))]) :: (res n ++ preL y)
  | .soft e x y => (ini e ++ [(sg e, bn e, ((1 + max (bn e) (tL x) : Nat) : Int))]) :: (res e ++ (preL x ++ ((ini (lnode x) ++ [(sg (lnode x), bn (lnode x), ((1 + max (bn e) (tL x) : Nat) : Int))]) :: (resL x ++ preL y))))
/-- the other places of the line's end -/
def resL : LE → Lvs
  | .base l => res l
  | .blank n y => resL y
  | .soft e x y => resL y
def pG : SG → Lvs
  | .nil => []
  | .cons e x y => (ini e ++ [(sg e, bn e, ((1 + max (bn e) (tL x) : Nat) : Int))]) :: (res e ++ (preL x ++ ((ini (lnode x) ++ [(sg (lnode x), bn (lnode x), ((1 + max (bn e) (tL x) : Nat) : Int))]) :: (resL x ++ pG y))))
end
theorem resL_eq : ∀ x : LE, resL x = res (lnode x)
  | .base l => by rw [resL, lnode]
  | .blank n y => by rw [resL, lnode, resL_eq y]
  | .soft e x y => by rw [resL, lnode, resL_eq y]
/-- the places of a node -/
def pN (n : Nd) (d : Int) : Lvs := (ini n ++ [(sg n, bn n, d)]) :: res n
def pL (x : LE) (d : Int) : Lvs := preL x ++ pN (lnode x) d
theorem res_esc (a : Nd) (g : SG) (b : Nd) (h : SG) (c : Nd) : res (.esc a g b h c) = res a ++ (pG g ++ (pN b (bn (.esc a g b h c)) ++ (pG h ++ pN c (bn (.esc a g b h c))))) := by
  rw [res]; simp [pN]
theorem preL_blank (n : Nd) (y : LE) : preL (.blank n y) = pN n ((1 + max (bn n) (tL y) : Nat) : Int) ++ preL y := by rw [preL]; simp [pN]
theorem preL_soft (e : Nd) (x y : LE) : preL (.soft e x y) = pN e ((1 + max (bn e) (tL x) : Nat) : Int) ++ (pL x ((1 + max (bn e) (tL x) : Nat) : Int) ++ preL y) := by
  rw [preL]; simp [pN, pL, resL_eq]
theorem pG_cons (e : Nd) (x : LE) (y : SG) : pG (.cons e x y) = pN e ((1 + max (bn e) (tL x) : Nat) : Int) ++ (pL x ((1 + max (bn e) (tL x) : Nat) : Int) ++ pG y) := by
  rw [pG]; simp [pN, pL, resL_eq]
theorem pN_esc (a : Nd) (g : SG) (b : Nd) (h : SG) (c : Nd) (d : Int) : pN (.esc a g b h c) d = (ini a ++ [(sg a, bn a, (bn (.esc a g b h c) : Int))] ++ [(sg (.esc a g b h c), bn (.esc a g b h c), d)]) :: (res a ++ (pG g ++ (pN b (bn (.esc a g b h c)) ++ (pG h ++ pN c (bn (.esc a g b h c)))))) := by
  rw [pN, res_esc, ini]
/-- what stands -/
def alv (r : Nat) (s : Stg) : Bool := decide (s.2.1 ≤ r) && (decide (s.2.2 < 0) || decide ((r : Int) < s.2.2))
def after (r : Nat) (lv : Lvs) : List Nat := lv.flatMap fun ss => (ss.filter (alv r)).map (·.1)
theorem after_app (r : Nat) (a b : Lvs) : after r (a ++ b) = after r a ++ after r b := by simp [after]
theorem after_cons (r : Nat) (a : List Stg) (b : Lvs) : after r (a :: b) = (a.filter (alv r)).map (·.1) ++ after r b := by simp [after]
theorem after_nil (r : Nat) : after r [] = [] := rfl
theorem ini_gone : ∀ {r : Nat} {n : Nd}, bn n ≤ r → (ini n).filter (alv r) = []
  | r, .leaf c, _ => rfl
  | r, .esc a g b h c, hb => by
    obtain ⟨b1, b2, b3, b4, b5⟩ := bn_lt a g b h c
    rw [ini, List.filter_append, ini_gone (by omega)]
    have : alv r (sg a, bn a, (bn (.esc a g b h c) : Int)) = false := by
      simp only [alv, Bool.and_eq_false_iff, Bool.or_eq_false_iff, decide_eq_false_iff_not]
      right; constructor <;> omega
    simp [this]
theorem tL_pos {x : LE} : bn (lnode x) ≤ tL x := by
  match x with
  | .base l => rw [lnode, tL]; exact Nat.le_refl _
  | .blank n y => rw [lnode, tL]; have := tL_pos (x := y); omega
  | .soft e x y => rw [lnode, tL]; have := tL_pos (x := y); omega
/-- of a node, from what holds of its places -/
theorem after_pN {r : Nat} {n : Nd} {d : Int} (h1 : bn n ≤ r → after r (res n) = []) (h2 : r < bn n → after r (ini n :: res n) = aN r n) (hd : 0 ≤ d → (bn n : Int) ≤ d) :
    after r (pN n d) = if 0 ≤ d ∧ d ≤ r then [] else aN r n := by
  unfold pN
  by_cases hb : bn n ≤ r
  · rw [after_cons, h1 hb, List.filter_append, ini_gone hb]
    split
    · have : alv r (sg n, bn n, d) = false := by
        simp only [alv, Bool.and_eq_false_iff, Bool.or_eq_false_iff, decide_eq_false_iff_not]
        right; constructor <;> omega
      simp [this]
    · have : alv r (sg n, bn n, d) = true := by
        simp only [alv, Bool.and_eq_true, Bool.or_eq_true, decide_eq_true_eq]
        exact ⟨hb, by omega⟩
      rw [aN_born hb]
      simp [this]
  · have : alv r (sg n, bn n, d) = false := by
      simp only [alv, Bool.and_eq_false_iff, decide_eq_false_iff_not]
      left; exact hb
    rw [if_neg (by omega), ← h2 (by omega), after_cons, after_cons, List.filter_append]
    simp [this]
mutual
theorem resG : ∀ {r : Nat} (n : Nd), bn n ≤ r → after r (res n) = []
  | r, .leaf c, _ => by rw [res]; rfl
  | r, .esc a g b h c, hb => by
    obtain ⟨b1, b2, b3, b4, b5⟩ := bn_lt a g b h c
    rw [res_esc, after_app, after_app, after_app, after_app, resG a (by omega), afterG g, afterG h, aG_gone (by omega), aG_gone (by omega),
      after_pN (resG b) (resA b) (by omega), after_pN (resG c) (resA c) (by omega), if_pos (by omega), if_pos (by omega)]
    rfl
theorem resA : ∀ {r : Nat} (n : Nd), r < bn n → after r (ini n :: res n) = aN r n
  | r, .leaf c, hb => by simp [bn] at hb
  | r, .esc a g b h c, hb => by
    obtain ⟨b1, b2, b3, b4, b5⟩ := bn_lt a g b h c
    have e1 : (ini (.esc a g b h c) :: res (.esc a g b h c)) = pN a (bn (.esc a g b h c)) ++ (pG g ++ (pN b (bn (.esc a g b h c)) ++ (pG h ++ pN c (bn (.esc a g b h c))))) := by
      rw [res_esc, ini, pN]; rfl
    rw [e1, after_app, after_app, after_app, after_app, afterG g, afterG h, after_pN (resG a) (resA a) (by omega), after_pN (resG b) (resA b) (by omega), after_pN (resG c) (resA c) (by omega),
      if_neg (by omega), if_neg (by omega), if_neg (by omega), aN, if_neg (by omega)]
theorem afterL : ∀ {r : Nat} (x : LE) {d : Int}, (0 ≤ d → (tL x : Int) < d) → after r (pL x d) = if 0 ≤ d ∧ d ≤ r then [] else aL r x
  | r, .base l, d, hd => by
    rw [tL] at hd
    rw [pL, preL, lnode, List.nil_append, after_pN (resG l) (resA l) (by omega), aL]
  | r, .blank n y, d, hd => by
    rw [tL] at hd
    have ih := afterL (r := r) y (d := d) (fun q => Int.lt_of_le_of_lt (Int.ofNat_le.mpr (Nat.le_max_right _ _)) (hd q))
    have e1 : pL (.blank n y) d = pN n ((1 + max (bn n) (tL y) : Nat) : Int) ++ pL y d := by rw [pL, preL_blank, lnode, pL]; simp
    have hx1 := Nat.le_max_left (bn n) (tL y)
    rw [e1, after_app, ih, after_pN (resG n) (resA n) (fun _ => Int.ofNat_le.mpr (Nat.le_trans hx1 (Nat.le_add_left _ _))), aL]
    clear e1 ih
    generalize max (bn n) (tL y) = x at *
    by_cases h1 : 1 + x ≤ r
    · rw [if_pos (by omega), if_pos h1]; rfl
    · rw [if_neg (by omega), if_neg h1, if_neg (by omega), if_neg (by omega)]
  | r, .soft e x y, d, hd => by
    rw [tL] at hd
    have hx1 := Nat.le_max_left (bn e) (tL x)
    have hx2 := Nat.le_max_right (bn e) (tL x)
    have ih := afterL (r := r) y (d := d) (fun q => Int.lt_of_le_of_lt (Int.ofNat_le.mpr (Nat.le_max_right _ _)) (hd q))
    have ihx := afterL (r := r) x (d := ((1 + max (bn e) (tL x) : Nat) : Int)) (fun _ => Int.ofNat_lt.mpr (by rw [Nat.add_comm]; exact Nat.lt_succ_of_le hx2))
    have hdw : 0 ≤ d → ((1 + max (bn e) (tL x) : Nat) : Int) < d := fun q => Int.lt_of_le_of_lt (Int.ofNat_le.mpr (Nat.le_max_left _ _)) (hd q)
    clear hd
    have e1 : pL (.soft e x y) d = pN e ((1 + max (bn e) (tL x) : Nat) : Int) ++ (pL x ((1 + max (bn e) (tL x) : Nat) : Int) ++ pL y d) := by simp only [pL, preL_soft, lnode, List.append_assoc]
    rw [e1, after_app, after_app, ih, ihx, after_pN (resG e) (resA e) (fun _ => Int.ofNat_le.mpr (Nat.le_trans hx1 (Nat.le_add_left _ _))), aL]
    clear e1 ih ihx
    generalize max (bn e) (tL x) = mx at *
    by_cases h1 : 1 + mx ≤ r
    · have hc : (0 : Int) ≤ ((1 + mx : Nat) : Int) ∧ ((1 + mx : Nat) : Int) ≤ r := by omega
      simp only [if_pos hc, if_pos h1, List.nil_append]
    · have hc : ¬ ((0 : Int) ≤ ((1 + mx : Nat) : Int) ∧ ((1 + mx : Nat) : Int) ≤ r) := by omega
      have hc2 : ¬ (0 ≤ d ∧ d ≤ r) := by omega
      simp only [if_neg hc, if_neg h1, if_neg hc2]
theorem afterG : ∀ {r : Nat} (g : SG), after r (pG g) = aG r g
  | r, .nil => by rw [pG, aG]; rfl
  | r, .cons e x y => by
    have ih := afterG (r := r) y
    have hx1 := Nat.le_max_left (bn e) (tL x)
    have hx2 := Nat.le_max_right (bn e) (tL x)
    have ihx := afterL (r := r) x (d := ((1 + max (bn e) (tL x) : Nat) : Int)) (fun _ => Int.ofNat_lt.mpr (by rw [Nat.add_comm]; exact Nat.lt_succ_of_le hx2))
    rw [pG_cons, after_app, after_app, ih, ihx, after_pN (resG e) (resA e) (fun _ => Int.ofNat_le.mpr (Nat.le_trans hx1 (Nat.le_add_left _ _))), aG]
    clear ih ihx
    generalize max (bn e) (tL x) = mx at *
    by_cases h1 : 1 + mx ≤ r
    · have hc : (0 : Int) ≤ ((1 + mx : Nat) : Int) ∧ ((1 + mx : Nat) : Int) ≤ r := by omega
      simp only [if_pos hc, if_pos h1, List.nil_append]
    · have hc : ¬ ((0 : Int) ≤ ((1 + mx : Nat) : Int) ∧ ((1 + mx : Nat) : Int) ≤ r) := by omega
      simp only [if_neg hc, if_neg h1]
end
/-- the stack, its top first -/
def pre : Ent → Lvs
  | .nd g n => pG g
  | .lf x => preL x
def top : Ent → Nd
  | .nd g n => n
  | .lf x => lnode x
def lvR : List Ent → Lvs
  | [] => []
  | e :: R => lvR R ++ (pre e ++ pN (top e) (-1))
theorem after_lv (r : Nat) : ∀ R : List Ent, after r (lvR R) = aEs r R.reverse
  | [] => rfl
  | e :: R => by
    rw [lvR, after_app, after_lv r R, List.reverse_cons]
    have : aEs r (R.reverse ++ [e]) = aEs r R.reverse ++ aE r e := by simp [aEs]
    rw [this]
    congr 1
    cases e with
    | nd g n => rw [pre, top, after_app, afterG, after_pN (resG n) (resA n) (by omega), if_neg (by omega), aE]
    | lf x =>
      have := afterL (r := r) x (d := -1) (by omega)
      rw [pL] at this
      rw [pre, top, this, if_neg (by omega), aE]
end Mine
end

section
namespace Mine
/-- the top stage at a place -/
def topS (lv : Lvs) (i : Nat) : Stg := ((lv.getD i []).getLast?).getD (0, 0, 0)
def die (lv : Lvs) (i : Nat) (w : Nat) : Lvs := lv.modify i fun ss => ss.dropLast ++ [((ss.getLast?.getD (0, 0, 0)).1, (ss.getLast?.getD (0, 0, 0)).2.1, (w : Int))]
def add (lv : Lvs) (i : Nat) (s : Stg) : Lvs := lv.modify i fun ss => ss ++ [s]
/-- the stack as the program has it, its top first: place, gap -/
abbrev Sk := List (Nat × Nat)
def one2 (lv : Lvs) (sk : Sk) : Lvs × Sk × Nat × Bool := match sk with
  | e3 :: e2 :: r =>
    if (topS lv e2.1).1 = 32 ∧ (topS lv e3.1).1 = 10 then
      (die lv e2.1 (max (topS lv e2.1).2.1 (max (topS lv e3.1).2.1 e3.2) + 1), (e3.1, max (max (topS lv e2.1).2.1 (max (topS lv e3.1).2.1 e3.2)) e2.2) :: r, 0, true)
    else if (topS lv e2.1).1 = 61 ∧ (topS lv e3.1).1 = 10 then
      (die (die lv e2.1 (1 + max (topS lv e2.1).2.1 (max (topS lv e3.1).2.1 e3.2))) e3.1 (1 + max (topS lv e2.1).2.1 (max (topS lv e3.1).2.1 e3.2)), r, max (1 + max (topS lv e2.1).2.1 (max (topS lv e3.1).2.1 e3.2)) e2.2, false)
    else (lv, sk, 0, false)
  | _ => (lv, sk, 0, false)
def wh3 (lv : Lvs) (e1 e2 e3 : Nat × Nat) : Nat := 1 + max (max (topS lv e1.1).2.1 (max (topS lv e2.1).2.1 (topS lv e3.1).2.1)) (max e2.2 e3.2)
/-- one turn of the inner loop -/
def one (lv : Lvs) (sk : Sk) : Lvs × Sk × Nat × Bool := match sk with
  | e3 :: e2 :: e1 :: r =>
    if (topS lv e1.1).1 = 61 ∧ (topS lv e2.1).1 ∈ hexL ∧ (topS lv e3.1).1 ∈ hexL then
      (add (die (die (die lv e1.1 (wh3 lv e1 e2 e3)) e2.1 (wh3 lv e1 e2 e3)) e3.1 (wh3 lv e1 e2 e3)) e1.1 (hv (topS lv e2.1).1 * 16 + hv (topS lv e3.1).1, wh3 lv e1 e2 e3, -1), e1 :: r, 0, true)
    else one2 lv (e3 :: e2 :: e1 :: r)
  | sk => one2 lv sk
/-- all turns -/
def settle : Nat → Lvs → Sk → Lvs × Sk × Nat
  | 0, lv, sk => (lv, sk, 0)
  | n + 1, lv, sk => if (one lv sk).2.2.2 = true then settle n (one lv sk).1 (one lv sk).2.1 else ((one lv sk).1, (one lv sk).2.1, (one lv sk).2.2.1)
theorem mod_at {α : Type} (f : α → α) : ∀ (P : List α) (x : α) (Q : List α), (P ++ x :: Q).modify P.length f = P ++ f x :: Q
  | [], x, Q => rfl
  | p :: P, x, Q => by
    have := mod_at f P x Q
    simp only [List.cons_append, List.length_cons, List.modify_succ_cons, this]
section
variable {P Q : Lvs} {n : Nd} {d : Int} {i : Nat}
theorem topS_at (h : i = P.length) : topS (P ++ (pN n d ++ Q)) i = (sg n, bn n, d) := by
  subst h
  unfold topS pN
  simp
theorem die_at {w : Nat} (h : i = P.length) : die (P ++ (pN n d ++ Q)) i w = P ++ (pN n w ++ Q) := by
  subst h
  unfold die pN
  rw [List.cons_append, mod_at]
  simp
theorem add_at {ss : List Stg} {s : Stg} (h : i = P.length) : add (P ++ ss :: Q) i s = P ++ (ss ++ [s]) :: Q := by
  subst h
  unfold add
  rw [mod_at]
theorem pN_len (n : Nd) (d d' : Int) : (pN n d).length = (pN n d').length := by simp [pN]
end
def gL : LE → Nat
  | .base l => 0
  | .blank n y => max (bn n) (tL y)
  | .soft e x y => max (1 + max (bn e) (tL x)) (gL y)
theorem tL_eq : ∀ x : LE, tL x = max (bn (lnode x)) (gL x)
  | .base l => by rw [tL, lnode, gL]; omega
  | .blank n y => by rw [tL, lnode, gL, Nat.max_eq_right (Nat.le_trans tL_pos (Nat.le_max_right _ _))]
  | .soft e x y => by rw [tL, lnode, gL, tL_eq y, Nat.max_left_comm]
def gp : Ent → Nat
  | .nd g n => tG g
  | .lf x => gL x
def skR : List Ent → Sk
  | [] => []
  | e :: R => ((lvR R ++ pre e).length, gp e) :: skR R
def softs04 : SG → LE → LE
  | .nil, y => y
  | .cons e x r, y => .soft e x (softs04 r y)
theorem preL_softs : ∀ (g : SG) (y : LE), preL (softs04 g y) = pG g ++ preL y
  | .nil, y => by rw [softs04, pG]; rfl
  | .cons e x r, y => by rw [softs04, preL_soft, pG_cons, preL_softs r y]; simp
theorem lnode_softs : ∀ (g : SG) (y : LE), lnode (softs04 g y) = lnode y
  | .nil, y => by rw [softs04]
  | .cons e x r, y => by rw [softs04, lnode, lnode_softs r y]
theorem gL_softs : ∀ (g : SG) (y : LE), gL (softs04 g y) = max (tG g) (gL y)
  | .nil, y => by rw [softs04, tG]; omega
  | .cons e x r, y => by rw [softs04, gL, tG, gL_softs r y, Nat.max_assoc]
theorem okL_softs : ∀ {g : SG} {y : LE}, okG g → okL y → okL (softs04 g y)
  | .nil, y, _, h => by rw [softs04]; exact h
  | .cons e x r, y, hg, h => by
    simp only [okG] at hg
    rw [softs04]; simp only [okL]
    exact ⟨hg.1, hg.2.1, hg.2.2.1, okL_softs hg.2.2.2 h⟩
theorem okL_lnode : ∀ {x : LE}, okL x → okN (lnode x) ∧ sg (lnode x) = 10
  | .base l, h => by simp only [okL] at h; rw [lnode]; exact h
  | .blank n y, h => by simp only [okL] at h; rw [lnode]; exact okL_lnode h.2.2
  | .soft e x y, h => by simp only [okL] at h; rw [lnode]; exact okL_lnode h.2.2.2
def snocG : SG → Nd → LE → SG
  | .nil, e, x => .cons e x .nil
  | .cons e x r, e', x' => .cons e x (snocG r e' x')
theorem pG_snoc : ∀ (g : SG) (e : Nd) (x : LE), pG (snocG g e x) = pG g ++ (pN e ((1 + max (bn e) (tL x) : Nat) : Int) ++ pL x ((1 + max (bn e) (tL x) : Nat) : Int))
  | .nil, e, x => by rw [snocG, pG_cons, pG]; simp
  | .cons e x r, e', x' => by rw [snocG, pG_cons, pG_cons, pG_snoc r e' x']; simp
theorem tG_snoc : ∀ (g : SG) (e : Nd) (x : LE), tG (snocG g e x) = max (1 + max (bn e) (tL x)) (tG g)
  | .nil, e, x => by simp only [snocG, tG]
  | .cons e x r, e', x' => by rw [snocG, tG, tG, tG_snoc r e' x', Nat.max_left_comm]
theorem okG_snoc : ∀ {g : SG} {e : Nd} {x : LE}, okG g → okN e → sg e = 61 → okL x → okG (snocG g e x)
  | .nil, e, x, _, h1, h2, h3 => by rw [snocG]; simp only [okG]; exact ⟨h1, h2, h3, trivial⟩
  | .cons e x r, e', x', hg, h1, h2, h3 => by
    simp only [okG] at hg
    rw [snocG]; simp only [okG]
    exact ⟨hg.1, hg.2.1, hg.2.2.1, okG_snoc hg.2.2.2 h1 h2 h3⟩
/-- an entry of a node behind what goes -/
def mkE (g : SG) (n : Nd) : Ent := if sg n = 10 then .lf (softs04 g (.base n)) else .nd g n
theorem mkE_tp (g : SG) (n : Nd) : tp (mkE g n) = sg n := by
  unfold mkE; split
  · rename_i h; rw [tp, h]
  · rfl
theorem mkE_top (g : SG) (n : Nd) : top (mkE g n) = n := by
  unfold mkE; split
  · rw [top, lnode_softs, lnode]
  · rfl
theorem mkE_pre (g : SG) (n : Nd) : pre (mkE g n) = pG g := by
  unfold mkE; split
  · rw [pre, preL_softs, preL]; simp
  · rfl
theorem mkE_gp (g : SG) (n : Nd) : gp (mkE g n) = tG g := by
  unfold mkE; split
  · rw [gp, gL_softs, gL]; omega
  · rfl
theorem mkE_ok {g : SG} {n : Nd} (hg : okG g) (hn : okN n) (h9 : sg n ≠ 9) : okE (mkE g n) := by
  unfold mkE; split
  · rename_i h
    refine okL_softs hg ?_
    simp only [okL]; exact ⟨hn, h⟩
  · rename_i h; exact ⟨hg, hn, h, h9⟩
theorem tp_top {e : Ent} (h : okE e) : tp e = sg (top e) := by
  cases e with
  | nd g n => rfl
  | lf x => rw [tp, top, (okL_lnode h).2]
def gapE : Ent → SG
  | .nd g n => g
  | .lf x => .nil
def leE : Ent → LE
  | .nd g n => .base n
  | .lf x => x
theorem pre_nd (g : SG) (n : Nd) : pre (.nd g n) = pG g := rfl
theorem top_nd (g : SG) (n : Nd) : top (.nd g n) = n := rfl
theorem gp_nd (g : SG) (n : Nd) : gp (.nd g n) = tG g := rfl
theorem gap_nd (g : SG) (n : Nd) : gapE (.nd g n) = g := rfl
theorem tp_nd (g : SG) (n : Nd) : tp (.nd g n) = sg n := rfl
theorem nd_of {e : Ent} (h : tp e ≠ 10) : ∃ g n, e = .nd g n := by
  cases e with
  | nd g n => exact ⟨g, n, rfl⟩
  | lf x => exact absurd rfl h
theorem lf_of {e : Ent} (hk : okE e) (h : tp e = 10) : ∃ x, e = .lf x := by
  cases e with
  | nd g n => exact absurd h hk.2.2.1
  | lf x => exact ⟨x, rfl⟩
/-- one turn, upon the trees -/
def stepT2 (R : List Ent) : List Ent × SG × Bool := match R with
  | e3 :: e2 :: R0 =>
    if tp e2 = 32 ∧ tp e3 = 10 then (.lf (softs04 (gapE e2) (.blank (top e2) (leE e3))) :: R0, .nil, true)
    else if tp e2 = 61 ∧ tp e3 = 10 then (R0, snocG (gapE e2) (top e2) (leE e3), false)
    else (R, .nil, false)
  | _ => (R, .nil, false)
def stepT (R : List Ent) : List Ent × SG × Bool := match R with
  | e3 :: e2 :: e1 :: R0 =>
    if tp e1 = 61 ∧ tp e2 ∈ hexL ∧ tp e3 ∈ hexL then (mkE (gapE e1) (.esc (top e1) (gapE e2) (top e2) (gapE e3) (top e3)) :: R0, .nil, true)
    else stepT2 (e3 :: e2 :: e1 :: R0)
  | R => stepT2 R
abbrev enc (x : List Ent × SG × Bool) (Q : Lvs) : Lvs × Sk × Nat × Bool := (lvR x.1 ++ (pG x.2.1 ++ Q), skR x.1, tG x.2.1, x.2.2)
theorem two_enc {R : List Ent} (hk : ∀ e ∈ R, okE e) (Q : Lvs) : one2 (lvR R ++ Q) (skR R) = enc (stepT2 R) Q := by
  match R with
  | [] => simp only [skR, one2, stepT2, enc, pG, tG]; rfl
  | [e] => simp only [skR, one2, stepT2, enc, pG, tG]; rfl
  | e3 :: e2 :: R0 =>
    have k3 := hk e3 (.head _)
    have k2 := hk e2 (.tail _ (.head _))
    have t3 : topS (lvR (e3 :: e2 :: R0) ++ Q) (lvR (e2 :: R0) ++ pre e3).length = (sg (top e3), bn (top e3), -1) := by
      rw [show lvR (e3 :: e2 :: R0) ++ Q = (lvR (e2 :: R0) ++ pre e3) ++ (pN (top e3) (-1) ++ Q) by simp only [lvR, List.append_assoc]]
      exact topS_at rfl
    have t2 : topS (lvR (e3 :: e2 :: R0) ++ Q) (lvR R0 ++ pre e2).length = (sg (top e2), bn (top e2), -1) := by
      rw [show lvR (e3 :: e2 :: R0) ++ Q = (lvR R0 ++ pre e2) ++ (pN (top e2) (-1) ++ (pre e3 ++ (pN (top e3) (-1) ++ Q))) by simp only [lvR, List.append_assoc]]
      exact topS_at rfl
    simp only [skR, one2, t2, t3, ← tp_top k2, ← tp_top k3, stepT2]
    by_cases h1 : tp e2 = 32 ∧ tp e3 = 10
    · obtain ⟨g, n, rfl⟩ := nd_of (e := e2) (by omega)
      obtain ⟨x, rfl⟩ := lf_of k3 h1.2
      rw [if_pos h1, if_pos h1]
      have ht := tL_eq x
      simp only [gp, top, gapE, leE, enc, pG, tG, List.nil_append, skR, lvR, pre, preL_softs, preL_blank, gL_softs, gL, lnode_softs, lnode] at *
      refine Prod.ext ?_ (Prod.ext ?_ rfl)
      · show die _ _ _ = _
        rw [show (lvR R0 ++ (pG g ++ pN n (-1)) ++ (preL x ++ pN (lnode x) (-1)) ++ Q) = (lvR R0 ++ pG g) ++ (pN n (-1) ++ (preL x ++ (pN (lnode x) (-1) ++ Q))) by simp only [List.append_assoc], die_at rfl]
        rw [← ht, Nat.add_comm]
        simp only [List.append_assoc]
      · show (_, _) :: _ = _
        congr 1
        refine Prod.ext ?_ ?_
        · simp only [List.length_append]
          have := pN_len n (-1) (((1 + max (bn n) (tL x) : Nat) : Int))
          omega
        · show max (max (bn n) (max (bn (lnode x)) (gL x))) (tG g) = _
          rw [← ht, Nat.max_comm]
    · rw [if_neg h1, if_neg h1]
      by_cases h2 : tp e2 = 61 ∧ tp e3 = 10
      · obtain ⟨g, n, rfl⟩ := nd_of (e := e2) (by omega)
        obtain ⟨x, rfl⟩ := lf_of k3 h2.2
        rw [if_pos h2, if_pos h2]
        have ht := tL_eq x
        simp only [gp, top, gapE, leE, enc, skR, lvR, pre, pG_snoc, tG_snoc] at *
        refine Prod.ext ?_ (Prod.ext rfl (Prod.ext ?_ rfl))
        · show die (die _ _ _) _ _ = _
          rw [show (lvR R0 ++ (pG g ++ pN n (-1)) ++ (preL x ++ pN (lnode x) (-1)) ++ Q) = (lvR R0 ++ pG g) ++ (pN n (-1) ++ (preL x ++ (pN (lnode x) (-1) ++ Q))) by simp only [List.append_assoc], die_at rfl]
          rw [← ht]
          rw [show ((lvR R0 ++ pG g) ++ (pN n ((1 + max (bn n) (tL x) : Nat) : Int) ++ (preL x ++ (pN (lnode x) (-1) ++ Q)))) = (lvR R0 ++ pG g ++ (pN n ((1 + max (bn n) (tL x) : Nat) : Int) ++ preL x)) ++ (pN (lnode x) (-1) ++ Q) by simp only [List.append_assoc], die_at]
          · simp only [pL, List.append_assoc]
          · simp only [List.length_append]
            have := pN_len n (-1) (((1 + max (bn n) (tL x) : Nat) : Int))
            omega
        · show max (1 + max (bn n) (max (bn (lnode x)) (gL x))) (tG g) = max (1 + max (bn n) (tL x)) (tG g)
          rw [← ht]
      · rw [if_neg h2, if_neg h2]
        simp only [enc, skR, pG, tG, List.nil_append]
theorem one_enc {R : List Ent} (hk : ∀ e ∈ R, okE e) (Q : Lvs) : one (lvR R ++ Q) (skR R) = enc (stepT R) Q := by
  match R with
  | [] => exact two_enc hk Q
  | [e] => exact two_enc hk Q
  | [e, e'] => exact two_enc hk Q
  | e3 :: e2 :: e1 :: R0 =>
    have k3 := hk e3 (.head _)
    have k2 := hk e2 (.tail _ (.head _))
    have k1 := hk e1 (.tail _ (.tail _ (.head _)))
    have h2 := two_enc hk Q
    have t3 : topS (lvR (e3 :: e2 :: e1 :: R0) ++ Q) (lvR (e2 :: e1 :: R0) ++ pre e3).length = (sg (top e3), bn (top e3), -1) := by
      rw [show lvR (e3 :: e2 :: e1 :: R0) ++ Q = (lvR (e2 :: e1 :: R0) ++ pre e3) ++ (pN (top e3) (-1) ++ Q) by simp only [lvR, List.append_assoc]]
      exact topS_at rfl
    have t2 : topS (lvR (e3 :: e2 :: e1 :: R0) ++ Q) (lvR (e1 :: R0) ++ pre e2).length = (sg (top e2), bn (top e2), -1) := by
      rw [show lvR (e3 :: e2 :: e1 :: R0) ++ Q = (lvR (e1 :: R0) ++ pre e2) ++ (pN (top e2) (-1) ++ (pre e3 ++ (pN (top e3) (-1) ++ Q))) by simp only [lvR, List.append_assoc]]
      exact topS_at rfl
    have t1 : topS (lvR (e3 :: e2 :: e1 :: R0) ++ Q) (lvR R0 ++ pre e1).length = (sg (top e1), bn (top e1), -1) := by
      rw [show lvR (e3 :: e2 :: e1 :: R0) ++ Q = (lvR R0 ++ pre e1) ++ (pN (top e1) (-1) ++ (pre e2 ++ (pN (top e2) (-1) ++ (pre e3 ++ (pN (top e3) (-1) ++ Q))))) by simp only [lvR, List.append_assoc]]
      exact topS_at rfl
    simp only [skR] at h2
    simp only [skR, one, wh3, t1, t2, t3, ← tp_top k1, ← tp_top k2, ← tp_top k3, stepT]
    by_cases h1 : tp e1 = 61 ∧ tp e2 ∈ hexL ∧ tp e3 ∈ hexL
    · have hx : ∀ c ∈ hexL, c ≠ 10 := fun c hc => (hex_plain c hc).2.1
      obtain ⟨g1, n1, rfl⟩ := nd_of (e := e1) (by omega)
      obtain ⟨g2, n2, rfl⟩ := nd_of (e := e2) (hx _ h1.2.1)
      obtain ⟨g3, n3, rfl⟩ := nd_of (e := e3) (hx _ h1.2.2)
      rw [if_pos h1, if_pos h1]
      have hw : bn (.esc n1 g2 n2 g3 n3) = 1 + max (max (bn n1) (max (bn n2) (bn n3))) (max (tG g2) (tG g3)) := by rw [bn]
      have hs : hv (sg n2) * 16 + hv (sg n3) = sg (.esc n1 g2 n2 g3 n3) := by rw [sg]
      simp only [gp_nd, top_nd, gap_nd, enc, pG, tG, List.nil_append, skR, lvR, pre_nd, mkE_pre, mkE_gp, mkE_top, tp_nd] at *
      rw [← hw, hs]
      refine Prod.ext ?_ rfl
      show add (die (die (die _ _ _) _ _) _ _) _ _ = _
      generalize hW : bn (.esc n1 g2 n2 g3 n3) = W at *
      rw [show (lvR R0 ++ (pG g1 ++ pN n1 (-1)) ++ (pG g2 ++ pN n2 (-1)) ++ (pG g3 ++ pN n3 (-1)) ++ Q) = (lvR R0 ++ pG g1) ++ (pN n1 (-1) ++ (pG g2 ++ (pN n2 (-1) ++ (pG g3 ++ (pN n3 (-1) ++ Q))))) by simp only [List.append_assoc], die_at rfl]
      have p1 := pN_len n1 (-1) (W : Int)
      have p2 := pN_len n2 (-1) (W : Int)
      rw [show ((lvR R0 ++ pG g1) ++ (pN n1 (W : Int) ++ (pG g2 ++ (pN n2 (-1) ++ (pG g3 ++ (pN n3 (-1) ++ Q)))))) = (lvR R0 ++ pG g1 ++ (pN n1 (W : Int) ++ pG g2)) ++ (pN n2 (-1) ++ (pG g3 ++ (pN n3 (-1) ++ Q))) by simp only [List.append_assoc], die_at (by simp only [List.length_append]; omega)]
      rw [show ((lvR R0 ++ pG g1 ++ (pN n1 (W : Int) ++ pG g2)) ++ (pN n2 (W : Int) ++ (pG g3 ++ (pN n3 (-1) ++ Q)))) = (lvR R0 ++ pG g1 ++ (pN n1 (W : Int) ++ (pG g2 ++ (pN n2 (W : Int) ++ pG g3)))) ++ (pN n3 (-1) ++ Q) by simp only [List.append_assoc], die_at (by simp only [List.length_append]; omega)]
      rw [show ((lvR R0 ++ pG g1 ++ (pN n1 (W : Int) ++ (pG g2 ++ (pN n2 (W : Int) ++ pG g3)))) ++ (pN n3 (W : Int) ++ Q)) = (lvR R0 ++ pG g1) ++ ((ini n1 ++ [(sg n1, bn n1, (W : Int))]) :: (res n1 ++ (pG g2 ++ (pN n2 (W : Int) ++ (pG g3 ++ (pN n3 (W : Int) ++ Q)))))) by simp only [pN, List.append_assoc, List.cons_append], add_at rfl]
      rw [pN_esc, hW]
      simp only [List.append_assoc, List.cons_append]
    · rw [if_neg h1, if_neg h1]
      exact h2
end Mine
end

section
namespace Mine
/-- the figures that come by themselves: 3 4 5 C D E d -/
def dgL : List Nat := [51, 52, 53, 67, 68, 69, 100]
def cleanS (c : Nat) : Prop := fine c ∧ c ≠ 9 ∧ (c ∈ hexL → c ∈ dgL)
def cleanB (c : Nat) : Bool := (!Unicode.isSpace c || c == 32 || c == 10) && (!Unicode.isLineBreak c || c == 10) && c != 9 && (!hexL.contains c || dgL.contains c)
theorem clean_of {c : Nat} (h : cleanB c = true) : cleanS c := by
  simp only [cleanB, Bool.and_eq_true, Bool.or_eq_true, Bool.not_eq_true', beq_iff_eq, bne_iff_ne, ne_eq, List.contains_iff_mem] at h
  obtain ⟨⟨⟨h1, h2⟩, h3⟩, h4⟩ := h
  refine ⟨⟨fun q => ?_, fun q => ?_⟩, h3, fun q => ?_⟩
  · rcases h1 with (h1 | h1) | h1
    · rw [q] at h1; cases h1
    · left; subst h1; decide
    · exact .inr h1
  · rcases h2 with h2 | h2
    · rw [q] at h2; cases h2
    · exact h2
  · rcases h4 with h4 | h4
    · have : hexL.contains c = true := by simpa using q
      rw [this] at h4; cases h4
    · exact h4
theorem oct_clean : ∀ a ∈ dgL, ∀ b ∈ dgL, cleanS (hv a * 16 + hv b) := by
  have : ∀ a ∈ dgL, ∀ b ∈ dgL, cleanB (hv a * 16 + hv b) = true := by decide +kernel
  exact fun a ha b hb => clean_of (this a ha b hb)
structure Cl (e : Ent) : Prop where
  ok : okE e
  clean : cleanS (tp e)
def sgs (R : List Ent) : List Nat := (R.map tp).reverse
theorem sgs_cons (e : Ent) (R : List Ent) : sgs (e :: R) = sgs R ++ [tp e] := by simp [sgs]
theorem clean10 : cleanS 10 := clean_of (by decide +kernel)
theorem ok_top {e : Ent} (h : okE e) : okN (top e) := by
  cases e with
  | nd g n => exact h.2.1
  | lf x => exact (okL_lnode h).1
theorem ok_gap {e : Ent} (h : okE e) : okG (gapE e) := by
  cases e with
  | nd g n => exact h.1
  | lf x => simp [gapE, okG]
/-- three make a sign -/
theorem ok_esc {e1 e2 e3 : Ent} (k1 : okE e1) (k2 : okE e2) (k3 : okE e3) (h : tp e1 = 61 ∧ tp e2 ∈ hexL ∧ tp e3 ∈ hexL) (h9 : hv (tp e2) * 16 + hv (tp e3) ≠ 9) :
    okE (mkE (gapE e1) (.esc (top e1) (gapE e2) (top e2) (gapE e3) (top e3))) ∧ tp (mkE (gapE e1) (.esc (top e1) (gapE e2) (top e2) (gapE e3) (top e3))) = hv (tp e2) * 16 + hv (tp e3) := by
  have hs : sg (.esc (top e1) (gapE e2) (top e2) (gapE e3) (top e3)) = hv (tp e2) * 16 + hv (tp e3) := by rw [sg, tp_top k2, tp_top k3]
  refine ⟨mkE_ok (ok_gap k1) ?_ (by rw [hs]; exact h9), by rw [mkE_tp, hs]⟩
  simp only [okN]
  exact ⟨ok_top k1, ok_gap k2, ok_top k2, ok_gap k3, ok_top k3, (tp_top k1) ▸ h.1, (tp_top k2) ▸ h.2.1, (tp_top k3) ▸ h.2.2⟩
theorem step2_clean {R : List Ent} (h : ∀ e ∈ R, Cl e) : (∀ e ∈ (stepT2 R).1, Cl e) ∧ okG (stepT2 R).2.1 := by
  match R with
  | [] => exact ⟨h, by simp [stepT2, okG]⟩
  | [e] => exact ⟨h, by simp [stepT2, okG]⟩
  | e3 :: e2 :: R0 =>
    have k3 := h e3 (.head _)
    have k2 := h e2 (.tail _ (.head _))
    have k0 : ∀ e ∈ R0, Cl e := fun e he => h e (.tail _ (.tail _ he))
    simp only [stepT2]
    split
    · rename_i h1
      obtain ⟨g, n, rfl⟩ := nd_of (e := e2) (by omega)
      obtain ⟨x, rfl⟩ := lf_of k3.ok h1.2
      refine ⟨fun e he => ?_, by simp [okG]⟩
      rcases List.mem_cons.mp he with rfl | he
      · refine ⟨okL_softs k2.ok.1 ?_, clean10⟩
        simp only [okL]; exact ⟨k2.ok.2.1, h1.1, k3.ok⟩
      · exact k0 e he
    · split
      · rename_i h1 h2
        obtain ⟨g, n, rfl⟩ := nd_of (e := e2) (by omega)
        obtain ⟨x, rfl⟩ := lf_of k3.ok h2.2
        exact ⟨k0, okG_snoc k2.ok.1 k2.ok.2.1 h2.1 k3.ok⟩
      · exact ⟨h, by simp [okG]⟩
theorem step_clean {R : List Ent} (h : ∀ e ∈ R, Cl e) : (∀ e ∈ (stepT R).1, Cl e) ∧ okG (stepT R).2.1 := by
  match R with
  | [] => exact step2_clean h
  | [e] => exact step2_clean h
  | [e, e'] => exact step2_clean h
  | e3 :: e2 :: e1 :: R0 =>
    have k3 := h e3 (.head _)
    have k2 := h e2 (.tail _ (.head _))
    have k1 := h e1 (.tail _ (.tail _ (.head _)))
    simp only [stepT]
    split
    · rename_i h1
      have hc := oct_clean _ (k2.clean.2.2 h1.2.1) _ (k3.clean.2.2 h1.2.2)
      obtain ⟨q1, q2⟩ := ok_esc k1.ok k2.ok k3.ok h1 hc.2.1
      refine ⟨fun e he => ?_, by simp [okG]⟩
      rcases List.mem_cons.mp he with rfl | he
      · exact ⟨q1, by rw [q2]; exact hc⟩
      · exact h e (.tail _ (.tail _ (.tail _ he)))
    · exact step2_clean h
theorem step2_ss {e : Ent} {R : List Ent} (hs : SS (sgs R)) (h3 : ∀ e2 e1 R0, R = e2 :: e1 :: R0 → ¬ (tp e1 = 61 ∧ tp e2 ∈ hexL ∧ tp e ∈ hexL)) :
    if (stepT2 (e :: R)).2.2 = true then (∃ e' R', (stepT2 (e :: R)).1 = e' :: R' ∧ SS (sgs R') ∧ R'.length < R.length) ∧ (stepT2 (e :: R)).2.1 = .nil else SS (sgs (stepT2 (e :: R)).1) := by
  match R with
  | [] =>
    simp only [stepT2, Bool.false_eq_true, if_false, sgs_cons]
    refine hs.snoc (fun l' x q => ?_) (fun l' x y q => ?_) <;> simp [sgs] at q
  | e2 :: R0 =>
    have hs0 : SS (sgs R0) := by rw [sgs_cons] at hs; exact hs.init
    simp only [stepT2]
    split
    · simp only [if_true]
      exact ⟨⟨_, _, rfl, hs0, by simp⟩, trivial⟩
    · split
      · simp only [Bool.false_eq_true, if_false]; exact hs0
      · rename_i h1 h2
        simp only [Bool.false_eq_true, if_false]
        rw [sgs_cons]
        refine hs.snoc (fun l' x q => ?_) (fun l' x y q => ?_)
        · rw [sgs_cons] at q
          have := (List.append_inj' q rfl).2
          simp only [List.cons.injEq, and_true] at this
          rintro ⟨q1, q2 | q2⟩
          · exact h2 ⟨this.trans q2, q1⟩
          · exact h1 ⟨this.trans q2, q1⟩
        · cases R0 with
          | nil => have := congrArg List.length q; simp [sgs] at this
          | cons e1 R1 =>
            have e' : sgs R1 ++ [tp e1, tp e2] = l' ++ [x, y] := by rw [← q, sgs_cons, sgs_cons]; simp
            have := (List.append_inj' e' rfl).2
            simp only [List.cons.injEq, and_true] at this
            rw [← this.1, ← this.2]
            exact h3 e2 e1 R1 rfl
theorem step_ss {e : Ent} {R : List Ent} (hs : SS (sgs R)) :
    if (stepT (e :: R)).2.2 = true then (∃ e' R', (stepT (e :: R)).1 = e' :: R' ∧ SS (sgs R') ∧ R'.length < R.length) ∧ (stepT (e :: R)).2.1 = .nil else SS (sgs (stepT (e :: R)).1) := by
  match R with
  | [] => exact step2_ss hs (fun _ _ _ q => by simp at q)
  | [e2] => exact step2_ss hs (fun _ _ _ q => by simp at q)
  | e2 :: e1 :: R0 =>
    by_cases h1 : tp e1 = 61 ∧ tp e2 ∈ hexL ∧ tp e ∈ hexL
    · simp only [stepT, if_pos h1, if_true]
      refine ⟨⟨_, _, rfl, ?_, by simp only [List.length_cons]; omega⟩, trivial⟩
      rw [sgs_cons, sgs_cons] at hs
      exact hs.init.init
    · have : stepT (e :: e2 :: e1 :: R0) = stepT2 (e :: e2 :: e1 :: R0) := by simp only [stepT, if_neg h1]
      rw [this]
      refine step2_ss hs fun a b c q => ?_
      cases q
      exact h1
/-- what stood at first -/
def txt (R : List Ent) (p : SG) : List Nat := aEs 0 R.reverse ++ aG 0 p
theorem txt_cons (e : Ent) (R : List Ent) (p : SG) : txt (e :: R) p = aEs 0 R.reverse ++ (aE 0 e ++ aG 0 p) := by simp [txt, aEs]
theorem aL_softs0 : ∀ (g : SG) (y : LE), aL 0 (softs04 g y) = aG 0 g ++ aL 0 y
  | .nil, y => by rw [softs04, aG]; rfl
  | .cons e x r, y => by rw [softs04, aL, if_neg (by omega), aG, if_neg (by omega), aL_softs0 r y]; simp
theorem aG_snoc0 : ∀ (g : SG) (e : Nd) (x : LE), aG 0 (snocG g e x) = aG 0 g ++ (aN 0 e ++ aL 0 x)
  | .nil, e, x => by simp only [snocG, aG]; rw [if_neg (by omega)]; simp
  | .cons e x r, e', x' => by rw [snocG, aG, if_neg (by omega), aG_snoc0 r e' x', aG, if_neg (by omega)]; simp
theorem aE_mk0 (g : SG) (n : Nd) : aE 0 (mkE g n) = aG 0 g ++ aN 0 n := by
  unfold mkE; split
  · rw [aE, aL_softs0, aL]
  · rfl
theorem step2_txt {R : List Ent} (h : ∀ e ∈ R, okE e) : txt (stepT2 R).1 (stepT2 R).2.1 = txt R .nil := by
  match R with
  | [] => rfl
  | [e] => rfl
  | e3 :: e2 :: R0 =>
    have k3 := h e3 (.head _)
    simp only [stepT2]
    split
    · rename_i h1
      obtain ⟨g, n, rfl⟩ := nd_of (e := e2) (by omega)
      obtain ⟨x, rfl⟩ := lf_of k3 h1.2
      simp only [txt, List.reverse_cons, aEs, List.flatMap_append, List.flatMap_cons, List.flatMap_nil, aE, gapE, top, leE, aL_softs0]
      rw [aL, if_neg (by omega)]
      simp
    · split
      · rename_i h1 h2
        obtain ⟨g, n, rfl⟩ := nd_of (e := e2) (by omega)
        obtain ⟨x, rfl⟩ := lf_of k3 h2.2
        simp only [txt, List.reverse_cons, aEs, List.flatMap_append, List.flatMap_cons, List.flatMap_nil, aE, gapE, top, leE, aG_snoc0, aG]
        simp
      · rfl
theorem step_txt {R : List Ent} (h : ∀ e ∈ R, okE e) : txt (stepT R).1 (stepT R).2.1 = txt R .nil := by
  match R with
  | [] => exact step2_txt h
  | [e] => exact step2_txt h
  | [e, e'] => exact step2_txt h
  | e3 :: e2 :: e1 :: R0 =>
    simp only [stepT]
    split
    · rename_i h1
      have hx : ∀ c ∈ hexL, c ≠ 10 := fun c hc => (hex_plain c hc).2.1
      obtain ⟨g1, n1, rfl⟩ := nd_of (e := e1) (by omega)
      obtain ⟨g2, n2, rfl⟩ := nd_of (e := e2) (hx _ h1.2.1)
      obtain ⟨g3, n3, rfl⟩ := nd_of (e := e3) (hx _ h1.2.2)
      simp only [txt, List.reverse_cons, aEs, List.flatMap_append, List.flatMap_cons, List.flatMap_nil, aE_mk0, gapE, top]
      rw [aN, if_neg (by rw [bn]; omega)]
      simp [aE]
    · exact step2_txt h
end Mine
end

section
namespace Mine
theorem mod_len {α : Type} (l : List α) (i : Nat) (f : α → α) : (l.modify i f).length = l.length := by simp
theorem die_len (lv : Lvs) (i w : Nat) : (die lv i w).length = lv.length := mod_len _ _ _
theorem add_len (lv : Lvs) (i : Nat) (s : Stg) : (add lv i s).length = lv.length := mod_len _ _ _
theorem one2_len (lv : Lvs) (sk : Sk) : (one2 lv sk).1.length = lv.length := by
  unfold one2
  split
  · split
    · exact die_len _ _ _
    · split
      · rw [die_len, die_len]
      · rfl
  · rfl
theorem one_len (lv : Lvs) (sk : Sk) : (one lv sk).1.length = lv.length := by
  unfold one
  split
  · split
    · show (add _ _ _).length = _
      rw [add_len, die_len, die_len, die_len]
    · exact one2_len _ _
  · exact one2_len _ _
theorem settle_len : ∀ (n : Nat) (lv : Lvs) (sk : Sk), (settle n lv sk).1.length = lv.length
  | 0, lv, sk => rfl
  | n + 1, lv, sk => by
    rw [settle]
    split
    · rw [settle_len n, one_len]
    · exact one_len _ _
/-- how it ends, from a clean stack -/
structure End (lv : Lvs × Sk × Nat) (R : List Ent) (p : SG) (Q : Lvs) (t : List Nat) : Prop where
  eq : lv = (lvR R ++ (pG p ++ Q), skR R, tG p)
  okg : okG p
  txt : txt R p = t
theorem settle_clean : ∀ (n : Nat) (e : Ent) (R : List Ent) (Q : Lvs), (e :: R).length ≤ n → (∀ x ∈ e :: R, Cl x) → SS (sgs R) →
    ∃ R' p, End (settle n (lvR (e :: R) ++ Q) (skR (e :: R))) R' p Q (txt (e :: R) .nil) ∧ (∀ x ∈ R', Cl x) ∧ SS (sgs R')
  | 0, e, R, Q, h, _, _ => by simp at h
  | n + 1, e, R, Q, h, hc, hs => by
    have h1 := one_enc (fun x hx => (hc x hx).ok) Q
    have h2 := step_clean hc
    have h3 := step_ss (e := e) hs
    have h4 := step_txt fun x hx => (hc x hx).ok
    rw [settle, h1]
    simp only [enc]
    cases hb : (stepT (e :: R)).2.2 with
    | true =>
      rw [hb] at h3
      simp only [if_true] at h3 ⊢
      obtain ⟨⟨e', R', q1, q2, q3⟩, q4⟩ := h3
      rw [q4, q1] at h4
      rw [q1, q4] at h2 ⊢
      have := settle_clean n e' R' Q (by simp only [List.length_cons] at h ⊢; omega) h2.1 q2
      rw [h4] at this
      rw [pG, List.nil_append]
      exact this
    | false =>
      rw [hb] at h3
      simp only [Bool.false_eq_true, if_false] at h3 ⊢
      exact ⟨_, _, ⟨rfl, h2.2, h4⟩, h2.1, h3⟩
abbrev leafL (c : Nat) : List Stg := [(c, 0, -1)]
def pushF (st : Lvs × Sk × Nat) (i : Nat) : Lvs × Sk × Nat := settle (st.2.1.length + 1) st.1 ((i, st.2.2) :: st.2.1)
def runF (lv : Lvs) : Nat → Lvs × Sk × Nat
  | 0 => (lv, [], 0)
  | n + 1 => pushF (runF lv n) n
theorem runF_len (lv : Lvs) : ∀ n, (runF lv n).1.length = lv.length
  | 0 => rfl
  | n + 1 => by rw [runF, pushF, settle_len, runF_len lv n]
/-- so many signs read -/
structure At (T : List Nat) (k : Nat) (R : List Ent) (p : SG) : Prop where
  eq : runF (T.map leafL) k = (lvR R ++ (pG p ++ (T.drop k).map leafL), skR R, tG p)
  okg : okG p
  txt : txt R p = T.take k
  le : k ≤ T.length
theorem At.len {T : List Nat} {k : Nat} {R : List Ent} {p : SG} (h : At T k R p) : (lvR R ++ pG p).length = k := by
  have h1 := runF_len (T.map leafL) k
  rw [h.eq] at h1
  have := h.le
  simp only [List.length_append, List.length_map, List.length_drop] at h1 ⊢
  omega
theorem skR_len : ∀ R : List Ent, (skR R).length = R.length
  | [] => rfl
  | e :: R => by rw [skR, List.length_cons, skR_len R, List.length_cons]
theorem pN_leaf (c : Nat) : pN (.leaf c) (-1) = [leafL c] := by simp [pN, ini, res, sg, bn, leafL]
theorem drop_step {T : List Nat} {k c : Nat} (h : T[k]? = some c) : T.drop k = c :: T.drop (k + 1) := by
  obtain ⟨h1, h2⟩ := List.getElem?_eq_some_iff.mp h
  rw [List.drop_eq_getElem_cons h1, h2]
/-- the next sign, ahead of the turns -/
theorem At.push {T : List Nat} {k c : Nat} {R : List Ent} {p : SG} (h : At T k R p) (hc : T[k]? = some c) :
    runF (T.map leafL) (k + 1) = settle ((mkE p (.leaf c) :: R).length) (lvR (mkE p (.leaf c) :: R) ++ (T.drop (k + 1)).map leafL) (skR (mkE p (.leaf c) :: R)) ∧ Mine.txt (mkE p (.leaf c) :: R) .nil = T.take (k + 1) ∧ k + 1 ≤ T.length := by
  have hl := h.len
  obtain ⟨h1, _⟩ := List.getElem?_eq_some_iff.mp hc
  refine ⟨?_, ?_, h1⟩
  · rw [runF, pushF, h.eq]
    simp only [skR, lvR, mkE_pre, mkE_gp, mkE_top, pN_leaf, hl, drop_step hc, List.map_cons, skR_len, List.length_cons, List.append_assoc, List.cons_append, List.nil_append]
  · rw [txt_cons, aE_mk0, aN, List.take_add_one, hc, ← h.txt, Mine.txt]
    simp [aG]
theorem leaf_ok {p : SG} {c : Nat} (h : okG p) (h9 : c ≠ 9) : okE (mkE p (.leaf c)) := mkE_ok h (by simp [okN]) h9
theorem leaf_tp (p : SG) (c : Nat) : tp (mkE p (.leaf c)) = c := by rw [mkE_tp, sg]
/-- a clean state -/
def ClAt (T : List Nat) (k : Nat) : Prop := ∃ R p, At T k R p ∧ (∀ x ∈ R, Cl x) ∧ SS (sgs R)
theorem ClAt.next {T : List Nat} {k c : Nat} (h : ClAt T k) (hc : T[k]? = some c) (hs : cleanS c) : ClAt T (k + 1) := by
  obtain ⟨R, p, ha, hr, hS⟩ := h
  obtain ⟨h1, h2, h3⟩ := ha.push hc
  obtain ⟨R', p', ⟨q1, q2, q3⟩, q4, q5⟩ := settle_clean _ (mkE p (.leaf c)) R ((T.drop (k + 1)).map leafL) (Nat.le_refl _) (fun x hx => by
    rcases List.mem_cons.mp hx with rfl | hx
    · exact ⟨leaf_ok ha.okg hs.2.1, by rw [leaf_tp]; exact hs⟩
    · exact hr x hx) hS
  exact ⟨R', p', ⟨h1.trans q1, q2, q3.trans h2, h3⟩, q4, q5⟩
/-- nothing to do for a sign that is no figure and no line's end -/
theorem idle1 {e : Ent} {R : List Ent} (h1 : tp e ∉ hexL) (h2 : tp e ≠ 10) : stepT (e :: R) = (e :: R, .nil, false) := by
  have h3 : stepT2 (e :: R) = (e :: R, .nil, false) := by
    cases R with
    | nil => rfl
    | cons e2 R => simp only [stepT2, h2, and_false, if_false]
  match R with
  | [] => exact h3
  | [e2] => exact h3
  | e2 :: e1 :: R => simp only [stepT, h1, and_false, if_false]; exact h3
theorem idle2 {e e2 : Ent} {R : List Ent} (h1 : tp e2 ∉ hexL) (h2 : tp e ≠ 10) : stepT (e :: e2 :: R) = (e :: e2 :: R, .nil, false) := by
  have h3 : stepT2 (e :: e2 :: R) = (e :: e2 :: R, .nil, false) := by simp only [stepT2, h2, and_false, if_false]
  match R with
  | [] => exact h3
  | e1 :: R => simp only [stepT, h1, false_and, and_false, if_false]; exact h3
theorem settle_idle {n : Nat} {R : List Ent} {Q : Lvs} (hk : ∀ e ∈ R, okE e) (h : stepT R = (R, .nil, false)) : settle (n + 1) (lvR R ++ Q) (skR R) = (lvR R ++ (pG .nil ++ Q), skR R, tG .nil) := by
  rw [settle, one_enc hk Q, h]
  simp only [enc, Bool.false_eq_true, if_false]
theorem At.idle {T : List Nat} {k c : Nat} {R : List Ent} {p : SG} (h : At T k R p) (hk : ∀ e ∈ R, okE e) (hc : T[k]? = some c) (h9 : c ≠ 9) (hi : stepT (mkE p (.leaf c) :: R) = (mkE p (.leaf c) :: R, .nil, false)) : At T (k + 1) (mkE p (.leaf c) :: R) .nil := by
  obtain ⟨h1, h2, h3⟩ := h.push hc
  refine ⟨?_, by simp [okG], h2, h3⟩
  rw [h1, List.length_cons]
  refine settle_idle (fun e he => ?_) hi
  rcases List.mem_cons.mp he with rfl | he
  · exact leaf_ok h.okg h9
  · exact hk e he
/-- a = stands on top -/
def EqAt04 (T : List Nat) (k : Nat) : Prop := ∃ e R, At T k (e :: R) .nil ∧ tp e = 61 ∧ (∀ x ∈ e :: R, Cl x) ∧ SS (sgs R) ∧ SS (sgs (e :: R))
theorem clean61 : cleanS 61 := clean_of (by decide +kernel)
theorem eq_ss {e : Ent} {R : List Ent} (h : SS (sgs R)) (he : tp e ∉ hexL) (he2 : tp e ≠ 10) : SS (sgs (e :: R)) := by
  have := step_ss (e := e) h
  rw [idle1 he he2] at this
  simpa using this
theorem ClAt.eq {T : List Nat} {k : Nat} (h : ClAt T k) (hc : T[k]? = some 61) : EqAt04 T (k + 1) := by
  obtain ⟨R, p, ha, hr, hS⟩ := h
  have ht := leaf_tp p 61
  have hi := ha.idle (fun e he => (hr e he).ok) hc (by decide) (idle1 (by rw [ht]; exact eq_out) (by rw [ht]; decide))
  exact ⟨_, _, hi, ht, fun x hx => by
    rcases List.mem_cons.mp hx with rfl | hx
    · exact ⟨leaf_ok ha.okg (by decide), by rw [ht]; exact clean61⟩
    · exact hr x hx, hS, eq_ss hS (by rw [ht]; exact eq_out) (by rw [ht]; decide)⟩
/-- = and two figures -/
theorem EqAt04.esc {T : List Nat} {k a b : Nat} (h : EqAt04 T k) (ha : T[k]? = some a) (hb : T[k + 1]? = some b) (ha' : a ∈ hexL) (hb' : b ∈ hexL) (hs : cleanS (hv a * 16 + hv b)) :
    ClAt T (k + 2) ∧ (hv a * 16 + hv b = 61 → EqAt04 T (k + 2)) := by
  obtain ⟨e, R, h1, ht, hr, hS, _⟩ := h
  have pa := hex_plain a ha'
  have pb := hex_plain b hb'
  have ta := leaf_tp .nil a
  have tb := leaf_tp .nil b
  have a9 : a ≠ 9 := by omega
  have b9 : b ≠ 9 := by omega
  have hok : ∀ x ∈ e :: R, okE x := fun x hx => (hr x hx).ok
  have i1 := h1.idle hok ha a9 (idle2 (by rw [ht]; exact eq_out) (by rw [ta]; exact pa.2.1))
  obtain ⟨j1, j2, j3⟩ := i1.push hb
  have ka : okE (mkE .nil (.leaf a)) := leaf_ok (by simp [okG]) a9
  have kb : okE (mkE .nil (.leaf b)) := leaf_ok (by simp [okG]) b9
  have ke : okE e := hok e (.head _)
  have hall : ∀ x ∈ mkE .nil (.leaf b) :: mkE .nil (.leaf a) :: e :: R, okE x := fun x hx => by
    rcases List.mem_cons.mp hx with rfl | hx
    · exact kb
    · rcases List.mem_cons.mp hx with rfl | hx
      · exact ka
      · exact hok x hx
  have hcond : tp e = 61 ∧ tp (mkE .nil (.leaf a)) ∈ hexL ∧ tp (mkE .nil (.leaf b)) ∈ hexL := ⟨ht, by rw [ta]; exact ha', by rw [tb]; exact hb'⟩
  obtain ⟨m1, m2⟩ := ok_esc ke ka kb hcond (by rw [ta, tb]; exact hs.2.1)
  rw [ta, tb] at m2
  have hst : stepT (mkE .nil (.leaf b) :: mkE .nil (.leaf a) :: e :: R) = (mkE (gapE e) (.esc (top e) (gapE (mkE .nil (.leaf a))) (top (mkE .nil (.leaf a))) (gapE (mkE .nil (.leaf b))) (top (mkE .nil (.leaf b)))) :: R, .nil, true) := by
    simp only [stepT, if_pos hcond]
  have htx := step_txt hall
  rw [hst] at htx
  generalize mkE (gapE e) (.esc (top e) (gapE (mkE .nil (.leaf a))) (top (mkE .nil (.leaf a))) (gapE (mkE .nil (.leaf b))) (top (mkE .nil (.leaf b)))) = w at *
  have hcl : ∀ x ∈ w :: R, Cl x := fun x hx => by
    rcases List.mem_cons.mp hx with rfl | hx
    · exact ⟨m1, by rw [m2]; exact hs⟩
    · exact hr x (.tail _ hx)
  have hrun : runF (T.map leafL) (k + 1 + 1) = settle (R.length + 2) (lvR (w :: R) ++ (T.drop (k + 1 + 1)).map leafL) (skR (w :: R)) := by
    rw [j1, show (mkE SG.nil (Nd.leaf b) :: mkE SG.nil (Nd.leaf a) :: e :: R).length = (R.length + 2) + 1 by simp, settle, one_enc hall, hst]
    simp only [enc, if_true, pG, List.nil_append]
  constructor
  · obtain ⟨R', p', ⟨q1, q2, q3⟩, q4, q5⟩ := settle_clean (R.length + 2) w R ((T.drop (k + 1 + 1)).map leafL) (by simp) hcl hS
    exact ⟨R', p', ⟨hrun.trans q1, q2, q3.trans (htx.trans j2), j3⟩, q4, q5⟩
  · intro h61
    have tw : tp w = 61 := m2.trans h61
    have := settle_idle (n := R.length + 1) (Q := (T.drop (k + 1 + 1)).map leafL) (fun x hx => (hcl x hx).ok) (idle1 (e := w) (R := R) (by rw [tw]; exact eq_out) (by rw [tw]; decide))
    exact ⟨w, R, ⟨hrun.trans this, by simp [okG], htx.trans j2, j3⟩, tw, hcl, hS, eq_ss hS (by rw [tw]; exact eq_out) (by rw [tw]; decide)⟩
/-- the pieces -/
def pieces04 : List (List Nat) := [[61], [10], [51], [68], [32], [61], [52], [100], [53], [69], [61, 48, 65], [61, 50, 48], [61, 51, 68, 48, 65], [107], [61, 51, 68]]
theorem get_mid {T A B : List Nat} {c : Nat} (h : T = A ++ c :: B) : T[A.length]? = some c := by subst h; simp
theorem piece04 {T A p B : List Nat} (hp : p ∈ pieces04) (hT : T = A ++ p ++ B) (h : ClAt T A.length) : ClAt T (A ++ p).length := by
  have one : ∀ c, p = [c] → cleanS c → ClAt T (A ++ p).length := by
    rintro c rfl hc
    have := h.next (get_mid (c := c) (B := B) (by rw [hT]; simp)) hc
    simpa using this
  have eq0 : ∀ r, p = 61 :: r → EqAt04 T (A.length + 1) := fun r e => h.eq (get_mid (c := 61) (B := r ++ B) (by rw [hT, e]; simp))
  have g : ∀ (i : Nat), (hi : i < p.length) → T[A.length + i]? = some p[i] := by
    intro i hi
    rw [hT, List.append_assoc, List.getElem?_append_right (by omega), show A.length + i - A.length = i by omega, List.getElem?_append_left hi, List.getElem?_eq_getElem hi]
  simp only [pieces04, List.mem_cons, List.not_mem_nil, or_false] at hp
  rcases hp with rfl | rfl | rfl | rfl | rfl | rfl | rfl | rfl | rfl | rfl | rfl | rfl | rfl | rfl | rfl
  · exact one _ rfl (clean_of (by decide +kernel))
  · exact one _ rfl (clean_of (by decide +kernel))
  · exact one _ rfl (clean_of (by decide +kernel))
  · exact one _ rfl (clean_of (by decide +kernel))
  · exact one _ rfl (clean_of (by decide +kernel))
  · exact one _ rfl (clean_of (by decide +kernel))
  · exact one _ rfl (clean_of (by decide +kernel))
  · exact one _ rfl (clean_of (by decide +kernel))
  · exact one _ rfl (clean_of (by decide +kernel))
  · exact one _ rfl (clean_of (by decide +kernel))
  · have := ((eq0 _ rfl).esc (g 1 (by decide)) (g 2 (by decide)) (by decide) (by decide) (clean_of (by decide +kernel))).1
    simpa using this
  · have := ((eq0 _ rfl).esc (g 1 (by decide)) (g 2 (by decide)) (by decide) (by decide) (clean_of (by decide +kernel))).1
    simpa using this
  · have := ((eq0 _ rfl).esc (g 1 (by decide)) (g 2 (by decide)) (by decide) (by decide) (clean_of (by decide +kernel))).2 (by decide)
    have := (this.esc (g 3 (by decide)) (g 4 (by decide)) (by decide) (by decide) (clean_of (by decide +kernel))).1
    simpa using this
  · exact one _ rfl (clean_of (by decide +kernel))
  · have := ((eq0 _ rfl).esc (g 1 (by decide)) (g 2 (by decide)) (by decide) (by decide) (clean_of (by decide +kernel))).1
    simpa using this
theorem pieces_run : ∀ (ps : List (List Nat)) {T A B : List Nat}, (∀ p ∈ ps, p ∈ pieces04) → T = A ++ ps.flatten ++ B → ClAt T A.length → ClAt T (A ++ ps.flatten).length
  | [], T, A, B, _, _, h => by simpa using h
  | p :: ps, T, A, B, hp, hT, h => by
    have h1 := piece04 (B := ps.flatten ++ B) (hp p (.head _)) (by rw [hT]; simp) h
    have := pieces_run ps (A := A ++ p) (B := B) (fun q hq => hp q (.tail _ hq)) (by rw [hT]; simp) h1
    simpa using this
/-- the plain law -/
theorem plain04 {ps : List (List Nat)} (hp : ∀ p ∈ ps, p ∈ pieces04) {T : List Nat} (hT : T = ps.flatten ++ [46]) :
    after 0 (runF (T.map leafL) T.length).1 = T ∧ ∀ r, decF [10] (after r (runF (T.map leafL) T.length).1) = after (r + 1) (runF (T.map leafL) T.length).1 := by
  have h0 : ClAt T 0 := ⟨[], .nil, ⟨by simp only [runF, lvR, pG, skR, tG, List.nil_append, List.drop_zero], by simp [okG], by simp [txt, aEs, aG], Nat.zero_le _⟩, (fun x hx => by cases hx), SS.nil⟩
  obtain ⟨R, p, ha, hr, hS⟩ := pieces_run ps (A := []) (B := [46]) hp (by rw [hT]; rfl) h0
  have ht := leaf_tp p 46
  have h46 : (46 : Nat) ∉ hexL := by decide
  have hc : T[ps.flatten.length]? = some 46 := get_mid (B := []) hT
  have hi := ha.idle (fun e he => (hr e he).ok) hc (by decide) (idle1 (by rw [ht]; exact h46) (by rw [ht]; decide))
  have hl : ps.flatten.length + 1 = T.length := by rw [hT]; simp
  rw [List.nil_append] at hi
  rw [hl] at hi
  have e1 : mkE p (.leaf 46) = .nd p (.leaf 46) := by simp [mkE, sg]
  have e2 : (runF (T.map leafL) T.length).1 = lvR (.nd p (.leaf 46) :: R) := by
    rw [hi.eq, e1]; simp [pG]
  have e3 : ∀ r, after r (runF (T.map leafL) T.length).1 = aEs r (R.reverse ++ [.nd p (.leaf 46)]) := fun r => by rw [e2, after_lv, List.reverse_cons]
  have hok : ∀ e ∈ R.reverse ++ [Ent.nd p (.leaf 46)], okE e := fun e he => by
    rcases List.mem_append.mp he with he | he
    · exact (hr e (List.mem_reverse.mp he)).ok
    · rw [List.mem_singleton.mp he, ← e1]; exact leaf_ok ha.okg (by decide)
  have hss : SS ((R.reverse ++ [Ent.nd p (.leaf 46)]).map tp) := by
    have := eq_ss (e := .nd p (.leaf 46)) hS (by rw [← e1, ht]; exact h46) (by rw [← e1, ht]; decide)
    rw [sgs_cons] at this
    rw [List.map_append, List.map_reverse]
    exact this
  constructor
  · rw [e3]
    have := hi.txt
    rw [txt, e1, List.reverse_cons, aG, List.append_nil, List.take_length] at this
    exact this
  · intro r
    rw [e3, e3]
    exact dec04 hok (fun e he => (hr e (List.mem_reverse.mp he)).clean.1) hss
end Mine
end

section
namespace Mine
theorem mem_mod {α : Type} {f : α → α} {x : α} : ∀ {l : List α} {i : Nat}, x ∈ l.modify i f → x ∈ l ∨ ∃ y ∈ l, x = f y
  | [], i, h => by simp at h
  | a :: l, 0, h => by
    simp only [List.modify_zero_cons, List.mem_cons] at h
    rcases h with rfl | h
    · exact .inr ⟨a, .head _, rfl⟩
    · exact .inl (.tail _ h)
  | a :: l, i + 1, h => by
    simp only [List.modify_succ_cons, List.mem_cons] at h
    rcases h with rfl | h
    · exact .inl (.head _)
    · rcases mem_mod h with h | ⟨y, hy, e⟩
      · exact .inl (.tail _ h)
      · exact .inr ⟨y, .tail _ hy, e⟩
theorem sum_mod {lv : Lvs} {f : List Stg → List Stg} {k : Nat} (hf : ∀ ss ∈ lv, (f ss).length ≤ ss.length + k) : ∀ {i : Nat}, ((lv.modify i f).map List.length).sum ≤ (lv.map List.length).sum + k := by
  induction lv with
  | nil => intro i; simp
  | cons ss lv ih =>
    intro i
    cases i with
    | zero => have := hf ss (.head _); simp only [List.modify_zero_cons, List.map_cons, List.sum_cons]; omega
    | succ i =>
      have := ih (fun x hx => hf x (.tail _ hx)) (i := i)
      simp only [List.modify_succ_cons, List.map_cons, List.sum_cons]; omega
/-- bounds -/
structure FI (b t : Nat) (lv : Lvs) (sk : Sk) : Prop where
  pl : ∀ ss ∈ lv, ss ≠ [] ∧ ∀ s ∈ ss, s.1 < 256 ∧ s.2.1 ≤ b ∧ s.2.2 ≤ b ∧ -1 ≤ s.2.2
  sk : ∀ e ∈ sk, e.1 < lv.length ∧ e.2 ≤ b
  tot : (lv.map List.length).sum ≤ t + lv.length
theorem FI.mono {b b' t t' : Nat} {lv : Lvs} {sk : Sk} (h : FI b t lv sk) (hb : b ≤ b') (ht : t ≤ t') : FI b' t' lv sk :=
  ⟨fun ss hs => ⟨(h.pl ss hs).1, fun s q => by have := (h.pl ss hs).2 s q; omega⟩, fun e he => by have := h.sk e he; omega, by have := h.tot; omega⟩
theorem FI.sub {b t : Nat} {lv : Lvs} {sk sk' : Sk} (h : FI b t lv sk) (hs : ∀ e ∈ sk', e ∈ sk) : FI b t lv sk' := ⟨h.pl, fun e he => h.sk e (hs e he), h.tot⟩
theorem FI.last {b t : Nat} {lv : Lvs} {sk : Sk} (h : FI b t lv sk) {ss : List Stg} (hs : ss ∈ lv) : ∃ r s, ss = r ++ [s] := by
  have := (h.pl ss hs).1
  exact ⟨_, _, (List.dropLast_concat_getLast this).symm⟩
theorem FI.top {b t : Nat} {lv : Lvs} {sk : Sk} (h : FI b t lv sk) (i : Nat) : (topS lv i).1 < 256 ∧ (topS lv i).2.1 ≤ b := by
  unfold topS
  cases e : lv[i]? with
  | none => simp [e]
  | some ss =>
    have hm := List.mem_of_getElem? e
    obtain ⟨r, s, rfl⟩ := h.last hm
    have := (h.pl _ hm).2 s (by simp)
    simp only [List.getD_eq_getElem?_getD, e, Option.getD_some, List.getLast?_concat]
    exact ⟨this.1, this.2.1⟩
theorem FI.die {b t : Nat} {lv : Lvs} {sk : Sk} (h : FI b t lv sk) (i : Nat) {w : Nat} (hw : w ≤ b) : FI b t (die lv i w) sk := by
  unfold Mine.die
  refine ⟨fun ss hs => ?_, fun e he => by rw [mod_len]; exact h.sk e he, ?_⟩
  · rcases mem_mod hs with hs | ⟨y, hy, rfl⟩
    · exact h.pl ss hs
    · obtain ⟨r, s, rfl⟩ := h.last hy
      refine ⟨by simp, fun q hq => ?_⟩
      simp only [List.dropLast_concat, List.getLast?_concat, Option.getD_some, List.mem_append, List.mem_singleton] at hq
      rcases hq with hq | rfl
      · exact (h.pl _ hy).2 q (by simp [hq])
      · have := (h.pl _ hy).2 s (by simp)
        exact ⟨this.1, this.2.1, by simp only; omega, by simp only; omega⟩
  · rw [mod_len]
    refine Nat.le_trans (sum_mod (k := 0) fun ss hs => ?_) h.tot
    obtain ⟨r, s, rfl⟩ := h.last hs
    simp
theorem FI.add {b t : Nat} {lv : Lvs} {sk : Sk} (h : FI b t lv sk) (i : Nat) {c w : Nat} (hc : c < 256) (hw : w ≤ b) : FI b (t + 1) (add lv i (c, w, -1)) sk := by
  unfold Mine.add
  refine ⟨fun ss hs => ?_, fun e he => by rw [mod_len]; exact h.sk e he, ?_⟩
  · rcases mem_mod hs with hs | ⟨y, hy, rfl⟩
    · exact h.pl ss hs
    · refine ⟨by simp, fun q hq => ?_⟩
      rcases List.mem_append.mp hq with hq | hq
      · exact (h.pl _ hy).2 q hq
      · rw [List.mem_singleton.mp hq]; exact ⟨hc, hw, by simp only; omega, by simp⟩
  · rw [mod_len]
    have := sum_mod (lv := lv) (f := fun ss => ss ++ [(c, w, -1)]) (k := 1) (fun ss hs => by simp) (i := i)
    have := h.tot
    omega
theorem wh3_le {lv : Lvs} {e1 e2 e3 : Nat × Nat} {b : Nat} (h1 : (topS lv e1.1).2.1 ≤ b) (h2 : (topS lv e2.1).2.1 ≤ b) (h3 : (topS lv e3.1).2.1 ≤ b) (h4 : e2.2 ≤ b) (h5 : e3.2 ≤ b) : wh3 lv e1 e2 e3 ≤ b + 1 := by
  unfold wh3
  rw [Nat.add_comm]
  exact Nat.succ_le_succ (Nat.max_le.mpr ⟨Nat.max_le.mpr ⟨h1, Nat.max_le.mpr ⟨h2, h3⟩⟩, Nat.max_le.mpr ⟨h4, h5⟩⟩)
theorem wh3_max {lv : Lvs} {e1 e2 e3 : Nat × Nat} {M : Int} (hm : M ∈ [((topS lv e1.1).2.1 : Int), ((topS lv e2.1).2.1 : Int), ((topS lv e3.1).2.1 : Int), (e2.2 : Int), (e3.2 : Int)]) (hM : ∀ a ∈ [((topS lv e1.1).2.1 : Int), ((topS lv e2.1).2.1 : Int), ((topS lv e3.1).2.1 : Int), (e2.2 : Int), (e3.2 : Int)], a ≤ M) : ((wh3 lv e1 e2 e3 : Nat) : Int) = 1 + M := by
  have g1 := hM _ (.head _)
  have g2 := hM _ (.tail _ (.head _))
  have g3 := hM _ (.tail _ (.tail _ (.head _)))
  have g4 := hM _ (.tail _ (.tail _ (.tail _ (.head _))))
  have g5 := hM _ (.tail _ (.tail _ (.tail _ (.tail _ (.head _)))))
  obtain ⟨m, rfl⟩ : ∃ m : Nat, M = m := ⟨M.toNat, by clear hm hM; omega⟩
  have h1 := wh3_le (Int.ofNat_le.mp g1) (Int.ofNat_le.mp g2) (Int.ofNat_le.mp g3) (Int.ofNat_le.mp g4) (Int.ofNat_le.mp g5)
  have h2 : m ≤ max (max (topS lv e1.1).2.1 (max (topS lv e2.1).2.1 (topS lv e3.1).2.1)) (max e2.2 e3.2) := by
    simp only [List.mem_cons, List.not_mem_nil, or_false, Int.ofNat_inj] at hm
    rcases hm with h | h | h | h | h <;> rw [h]
    · exact Nat.le_trans (Nat.le_max_left _ _) (Nat.le_max_left _ _)
    · exact Nat.le_trans (Nat.le_trans (Nat.le_max_left _ _) (Nat.le_max_right _ _)) (Nat.le_max_left _ _)
    · exact Nat.le_trans (Nat.le_trans (Nat.le_max_right _ _) (Nat.le_max_right _ _)) (Nat.le_max_left _ _)
    · exact Nat.le_trans (Nat.le_max_left _ _) (Nat.le_max_right _ _)
    · exact Nat.le_trans (Nat.le_max_right _ _) (Nat.le_max_right _ _)
  have e : wh3 lv e1 e2 e3 = 1 + m := Nat.le_antisymm (by rw [Nat.add_comm]; exact h1) (by unfold wh3; exact Nat.add_le_add_left h2 1)
  rw [e]; rfl
theorem hv16 : ∀ c ∈ hexL, hv c < 16 := fun c hc => (hex_plain c hc).2.2.2.1
theorem FI.one2 {b t : Nat} {lv : Lvs} {sk : Sk} (h : FI b t lv sk) : FI (b + 1) (t + 1) (one2 lv sk).1 (one2 lv sk).2.1 ∧ (one2 lv sk).2.2.1 ≤ b + 1 ∧ (one2 lv sk).2.1.length ≤ sk.length ∧ ((one2 lv sk).2.2.2 = true → (one2 lv sk).2.1.length < sk.length ∧ (one2 lv sk).2.1 ≠ []) := by
  have h' := h.mono (Nat.le_succ b) (Nat.le_succ t)
  unfold Mine.one2
  split
  · rename_i e3 e2 r
    have t2 := h.top e2.1
    have t3 := h.top e3.1
    have s2 := h.sk e2 (.tail _ (.head _))
    have s3 := h.sk e3 (.head _)
    have hmx : max (topS lv e2.1).2.1 (max (topS lv e3.1).2.1 e3.2) ≤ b := Nat.max_le.mpr ⟨t2.2, Nat.max_le.mpr ⟨t3.2, s3.2⟩⟩
    split
    · have hd := h'.die e2.1 (Nat.succ_le_succ hmx)
      refine ⟨⟨hd.pl, fun e he => ?_, hd.tot⟩, Nat.zero_le _, by simp, fun _ => ⟨by simp, by simp⟩⟩
      rw [die_len]
      rcases List.mem_cons.mp he with rfl | he
      · exact ⟨s3.1, Nat.le_succ_of_le (Nat.max_le.mpr ⟨hmx, s2.2⟩)⟩
      · have := h.sk e (.tail _ (.tail _ he)); omega
    · split
      · have hw : 1 + max (topS lv e2.1).2.1 (max (topS lv e3.1).2.1 e3.2) ≤ b + 1 := by rw [Nat.add_comm]; exact Nat.succ_le_succ hmx
        refine ⟨((h'.die _ hw).die _ hw).sub fun e he => .tail _ (.tail _ he), Nat.max_le.mpr ⟨hw, Nat.le_succ_of_le s2.2⟩, by simp only [List.length_cons]; omega, fun q => by cases q⟩
      · exact ⟨h', Nat.zero_le _, Nat.le_refl _, fun q => by cases q⟩
  · exact ⟨h', Nat.zero_le _, Nat.le_refl _, fun q => by cases q⟩
theorem FI.one {b t : Nat} {lv : Lvs} {sk : Sk} (h : FI b t lv sk) : FI (b + 1) (t + 1) (one lv sk).1 (one lv sk).2.1 ∧ (one lv sk).2.2.1 ≤ b + 1 ∧ (one lv sk).2.1.length ≤ sk.length ∧ ((one lv sk).2.2.2 = true → (one lv sk).2.1.length < sk.length ∧ (one lv sk).2.1 ≠ []) := by
  unfold Mine.one
  split
  · rename_i e3 e2 e1 r
    have t1 := h.top e1.1
    have t2 := h.top e2.1
    have t3 := h.top e3.1
    have s2 := h.sk e2 (.tail _ (.head _))
    have s3 := h.sk e3 (.head _)
    split
    · rename_i hc
      have hw : wh3 lv e1 e2 e3 ≤ b + 1 := wh3_le t1.2 t2.2 t3.2 s2.2 s3.2
      have v2 := hv16 _ hc.2.1
      have v3 := hv16 _ hc.2.2
      have hd := (((h.mono (Nat.le_succ b) (Nat.le_refl t)).die e1.1 hw).die e2.1 hw).die e3.1 hw
      refine ⟨(hd.add e1.1 (show hv (topS lv e2.1).1 * 16 + hv (topS lv e3.1).1 < 256 by omega) hw).sub fun e he => ?_, Nat.zero_le _, by simp only [List.length_cons]; omega, fun _ => ⟨by simp only [List.length_cons]; omega, by simp⟩⟩
      rcases List.mem_cons.mp he with rfl | he
      · exact .tail _ (.tail _ (.head _))
      · exact .tail _ (.tail _ (.tail _ he))
    · exact h.one2
  · exact h.one2
theorem FI.settle : ∀ (n : Nat) {b t : Nat} {lv : Lvs} {sk : Sk}, FI b t lv sk → FI (b + n) (t + n) (settle n lv sk).1 (settle n lv sk).2.1 ∧ (settle n lv sk).2.2 ≤ b + n ∧ (settle n lv sk).2.1.length ≤ sk.length
  | 0, b, t, lv, sk, h => ⟨h, Nat.zero_le _, Nat.le_refl _⟩
  | n + 1, b, t, lv, sk, h => by
    obtain ⟨h1, h2, h3, _⟩ := h.one
    rw [Mine.settle]
    split
    · obtain ⟨q1, q2, q3⟩ := FI.settle n h1
      exact ⟨q1.mono (by omega) (by omega), by omega, by omega⟩
    · exact ⟨h1.mono (by omega) (by omega), by simp only; omega, h3⟩
/-- bounds of the whole run -/
theorem run_FI {T : List Nat} (hT : ∀ c ∈ T, c < 256) : ∀ k, k ≤ T.length → FI (k * (k + 1)) (k * (k + 1)) (runF (T.map leafL) k).1 (runF (T.map leafL) k).2.1 ∧ (runF (T.map leafL) k).2.2 ≤ k * (k + 1) ∧ (runF (T.map leafL) k).2.1.length ≤ k
  | 0, _ => by
    refine ⟨⟨fun ss hs => ?_, fun e he => by simp [runF] at he, ?_⟩, Nat.zero_le _, Nat.zero_le _⟩
    · obtain ⟨c, hc, rfl⟩ := List.mem_map.mp hs
      refine ⟨by simp [leafL], fun s q => ?_⟩
      rw [List.mem_singleton.mp q]
      exact ⟨hT c hc, Nat.zero_le _, by simp, by simp⟩
    · show (((T.map leafL)).map List.length).sum ≤ 0 * (0 + 1) + (T.map leafL).length
      clear hT
      induction T with
      | nil => simp
      | cons c T ih => simp only [List.map_cons, List.sum_cons, List.length_cons, List.length_nil] at ih ⊢; omega
  | k + 1, hk => by
    obtain ⟨h1, h2, h3⟩ := run_FI hT k (by omega)
    have hl := runF_len (T.map leafL) k
    rw [List.length_map] at hl
    have hp : FI (k * (k + 1)) (k * (k + 1)) (runF (T.map leafL) k).1 ((k, (runF (T.map leafL) k).2.2) :: (runF (T.map leafL) k).2.1) := ⟨h1.pl, fun e he => by
      rcases List.mem_cons.mp he with rfl | he
      · exact ⟨by simp only; omega, h2⟩
      · exact h1.sk e he, h1.tot⟩
    rw [runF, pushF]
    obtain ⟨q1, q2, q3⟩ := hp.settle ((runF (T.map leafL) k).2.1.length + 1)
    have e : (k + 1) * (k + 1 + 1) = k * (k + 1) + (2 * k + 2) := by
      simp only [Nat.add_mul, Nat.mul_add]; omega
    refine ⟨q1.mono (by omega) (by omega), by omega, ?_⟩
    simp only [List.length_cons] at q3; omega
end Mine
end

section
namespace Mine
/-- stages as data -/
def stD (s : Stg) : List D := [.str [s.1], .int s.2.1, .int s.2.2]
abbrev refD (a : Addr) : D := .val (.ref a)
def entD (e : Nat × Nat) : D := .list [.int e.1, .int e.2]
/-- places with addresses -/
abbrev AL := List (Addr × List (Addr × Stg))
def lvA (A : AL) : Lvs := A.map fun p => p.2.map (·.2)
def bodyA (A : AL) : Own := A.flatMap fun p => (p.1, p.2.map fun q => refD q.1) :: p.2.map fun q => (q.1, stD q.2)
/-- the own lists -/
def om (SK L : Addr) (sk : Sk) (A : AL) : Own := (SK, (sk.map entD).reverse) :: (L, A.map fun p => refD p.1) :: bodyA A
theorem getO_of_mem : ∀ {ω : Own} {a : Addr} {ds : List D}, (ω.map (·.1)).Nodup → (a, ds) ∈ ω → getO ω a = some ds
  | [], a, ds, _, h => by cases h
  | (b, es) :: ω, a, ds, nd, h => by
    simp only [List.map_cons, List.nodup_cons] at nd
    simp only [getO]
    rcases List.mem_cons.mp h with h | h
    · cases h; rw [if_pos rfl]
    · rw [if_neg, getO_of_mem nd.2 h]
      intro e
      exact nd.1 (List.mem_map.mpr ⟨_, h, e⟩)
theorem setO_split : ∀ {X Y : Own} {a : Addr} {ds es : List D}, ((X ++ (a, ds) :: Y).map (·.1)).Nodup → setO (X ++ (a, ds) :: Y) a es = X ++ (a, es) :: Y
  | [], Y, a, ds, es, _ => by simp [setO]
  | (b, bs) :: X, Y, a, ds, es, nd => by
    simp only [List.cons_append, List.map_cons, List.nodup_cons] at nd
    simp only [List.cons_append, setO]
    rw [if_neg, setO_split nd.2]
    rintro rfl
    exact nd.1 (by simp)
theorem body_app (A B : AL) : bodyA (A ++ B) = bodyA A ++ bodyA B := by simp [bodyA]
theorem body_cons (p : Addr × List (Addr × Stg)) (B : AL) : bodyA (p :: B) = (p.1, p.2.map fun q => refD q.1) :: (p.2.map (fun q => (q.1, stD q.2)) ++ bodyA B) := by simp [bodyA]
/-- a place and its last stage -/
structure Spl (A : AL) (i : Nat) (X : AL) (p : Addr) (r : List (Addr × Stg)) (q : Addr) (s : Stg) (Y : AL) : Prop where
  eq : A = X ++ (p, r ++ [(q, s)]) :: Y
  len : X.length = i
theorem spl {A : AL} {b t : Nat} {sk : Sk} (h : FI b t (lvA A) sk) {i : Nat} (hi : i < A.length) : ∃ X p r q s Y, Spl A i X p r q s Y := by
  have hm : (A[i].2.map (·.2)) ∈ lvA A := List.mem_map.mpr ⟨A[i], List.getElem_mem hi, rfl⟩
  have hne : A[i].2 ≠ [] := fun e => (h.pl _ hm).1 (by rw [e]; rfl)
  obtain ⟨p, ss, e⟩ : ∃ p ss, A[i] = (p, ss) := ⟨_, _, rfl⟩
  rw [e] at hne
  refine ⟨A.take i, p, ss.dropLast, (ss.getLast hne).1, (ss.getLast hne).2, A.drop (i + 1), ?_, by rw [List.length_take]; omega⟩
  have e2 : ss.dropLast ++ [((ss.getLast hne).1, (ss.getLast hne).2)] = ss := List.dropLast_concat_getLast hne
  rw [e2, ← e]
  conv => lhs; rw [← List.take_append_drop i A, List.drop_eq_getElem_cons hi]
def topA (A : AL) (i : Nat) : Addr := (((A.getD i (0, [])).2.getLast?).getD (0, (0, 0, 0))).1
theorem lvA_app (A B : AL) : lvA (A ++ B) = lvA A ++ lvA B := by simp [lvA]
theorem lvA_cons (p : Addr × List (Addr × Stg)) (B : AL) : lvA (p :: B) = p.2.map (·.2) :: lvA B := rfl
theorem lvA_len (A : AL) : (lvA A).length = A.length := by simp [lvA]
section
variable {A X Y : AL} {i : Nat} {p q : Addr} {r : List (Addr × Stg)} {s : Stg} {SK L : Addr} {sk : Sk}
theorem Spl.lv (h : Spl A i X p r q s Y) : lvA A = lvA X ++ (r.map (·.2) ++ [s]) :: lvA Y := by rw [h.eq, lvA_app, lvA_cons]; simp
theorem Spl.topS (h : Spl A i X p r q s Y) : Mine.topS (lvA A) i = s := by
  rw [h.lv, Mine.topS, ← h.len, ← lvA_len X]
  simp
theorem Spl.topA (h : Spl A i X p r q s Y) : Mine.topA A i = q := by
  rw [h.eq, Mine.topA, ← h.len]
  simp
theorem Spl.omE (h : Spl A i X p r q s Y) : om SK L sk A = ((SK, (sk.map entD).reverse) :: (L, A.map fun p => refD p.1) :: (bodyA X ++ (p, (r ++ [(q, s)]).map fun q => refD q.1) :: r.map (fun q => (q.1, stD q.2)))) ++ (q, stD s) :: bodyA Y := by
  rw [Mine.om]
  conv => lhs; rw [show bodyA A = bodyA X ++ ((p, (r ++ [(q, s)]).map fun q => refD q.1) :: ((r ++ [(q, s)]).map (fun q => (q.1, stD q.2)) ++ bodyA Y)) by rw [h.eq, body_app, body_cons]]
  simp
theorem Spl.om2 (h : Spl A i X p r q s Y) : om SK L sk A = ((SK, (sk.map entD).reverse) :: (L, A.map fun p => refD p.1) :: bodyA X) ++ (p, (r ++ [(q, s)]).map fun q => refD q.1) :: ((r ++ [(q, s)]).map (fun q => (q.1, stD q.2)) ++ bodyA Y) := by
  rw [Mine.om]
  conv => lhs; rw [show bodyA A = bodyA X ++ ((p, (r ++ [(q, s)]).map fun q => refD q.1) :: ((r ++ [(q, s)]).map (fun q => (q.1, stD q.2)) ++ bodyA Y)) by rw [h.eq, body_app, body_cons]]
  simp
theorem Spl.getS (h : Spl A i X p r q s Y) (nd : ((om SK L sk A).map (·.1)).Nodup) : getO (om SK L sk A) q = some (stD s) :=
  getO_of_mem nd (by rw [h.omE]; simp)
theorem Spl.getP (h : Spl A i X p r q s Y) (nd : ((om SK L sk A).map (·.1)).Nodup) : getO (om SK L sk A) p = some ((r ++ [(q, s)]).map fun q => refD q.1) :=
  getO_of_mem nd (by rw [h.om2]; simp)
theorem Spl.idx (h : Spl A i X p r q s Y) : (A.map fun p => refD p.1)[i]? = some (refD p) := by
  rw [List.getElem?_map, h.eq, ← h.len]; simp
end
theorem get_SK {A : AL} {SK L : Addr} {sk : Sk} : getO (om SK L sk A) SK = some ((sk.map entD).reverse) := by simp [om, getO]
theorem get_L {A : AL} {SK L : Addr} {sk : Sk} (nd : ((om SK L sk A).map (·.1)).Nodup) : getO (om SK L sk A) L = some (A.map fun p => refD p.1) := getO_of_mem nd (by simp [om])
theorem set_SK {A : AL} {SK L : Addr} {sk sk' : Sk} {ds : List D} (h : ds = (sk'.map entD).reverse) : setO (om SK L sk A) SK ds = om SK L sk' A := by rw [h]; simp [om, setO]
/-- the top stage at a place gets its end -/
def dieA (A : AL) (i w : Nat) : AL := A.modify i fun p => (p.1, p.2.dropLast ++ [((p.2.getLast?.getD (0, (0, 0, 0))).1, ((p.2.getLast?.getD (0, (0, 0, 0))).2.1, (p.2.getLast?.getD (0, (0, 0, 0))).2.2.1, (w : Int)))])
theorem Spl.dieA {A X Y : AL} {i w : Nat} {p q : Addr} {r : List (Addr × Stg)} {s : Stg} (h : Spl A i X p r q s Y) : Mine.dieA A i w = X ++ (p, r ++ [(q, (s.1, s.2.1, (w : Int)))]) :: Y := by
  unfold Mine.dieA
  rw [h.eq, ← h.len, mod_at]
  simp
theorem lv_dieA {A : AL} {i w : Nat} {X Y : AL} {p q : Addr} {r : List (Addr × Stg)} {s : Stg} (h : Spl A i X p r q s Y) : lvA (dieA A i w) = die (lvA A) i w := by
  rw [h.dieA, h.lv, lvA_app, lvA_cons, die]
  rw [← h.len, ← lvA_len X, mod_at]
  simp
theorem top_dieA {A : AL} {i w j : Nat} {X Y : AL} {p q : Addr} {r : List (Addr × Stg)} {s : Stg} (h : Spl A i X p r q s Y) : topA (dieA A i w) j = topA A j := by
  rw [h.dieA, h.eq]
  unfold topA
  by_cases hj : j < X.length
  · simp only [List.getD_eq_getElem?_getD, List.getElem?_append_left hj]
  · obtain ⟨k, rfl⟩ : ∃ k, j = X.length + k := ⟨j - X.length, by omega⟩
    simp only [List.getD_eq_getElem?_getD, List.getElem?_append_right (Nat.le_add_right _ _), Nat.add_sub_cancel_left]
    cases k with
    | zero => simp
    | succ k => simp
theorem len_dieA (A : AL) (i w : Nat) : (dieA A i w).length = A.length := mod_len _ _ _
theorem set_die {A : AL} {i w : Nat} {X Y : AL} {p q : Addr} {r : List (Addr × Stg)} {s : Stg} {SK L : Addr} {sk : Sk} (h : Spl A i X p r q s Y) (nd : ((om SK L sk A).map (·.1)).Nodup) :
    setO (om SK L sk A) q ((stD s).set 2 (.int (w : Int))) = om SK L sk (dieA A i w) := by
  have h' : Spl (dieA A i w) i X p r q (s.1, s.2.1, (w : Int)) Y := ⟨h.dieA, h.len⟩
  rw [h'.omE, h.omE]
  rw [h.omE] at nd
  rw [setO_split nd]
  have e : (dieA A i w).map (fun p => refD p.1) = A.map fun p => refD p.1 := by rw [h.dieA, h.eq]; simp
  rw [e]
  have e2 : (r ++ [(q, ((s.1, s.2.1, (w : Int)) : Stg))]).map (fun q => refD q.1) = (r ++ [(q, s)]).map fun q => refD q.1 := by simp
  rw [e2]
  rfl
/-- a new stage -/
def addA (A : AL) (i : Nat) (b : Addr) (s : Stg) : AL := A.modify i fun p => (p.1, p.2 ++ [(b, s)])
theorem Spl.addA {A X Y : AL} {i : Nat} {p q b : Addr} {r : List (Addr × Stg)} {s s' : Stg} (h : Spl A i X p r q s Y) : Mine.addA A i b s' = X ++ (p, r ++ [(q, s)] ++ [(b, s')]) :: Y := by
  unfold Mine.addA
  rw [h.eq, ← h.len, mod_at]
theorem lv_addA {A : AL} {i : Nat} {X Y : AL} {p q b : Addr} {r : List (Addr × Stg)} {s s' : Stg} (h : Spl A i X p r q s Y) : lvA (addA A i b s') = add (lvA A) i s' := by
  rw [h.addA, h.lv, lvA_app, lvA_cons, add]
  rw [← h.len, ← lvA_len X, mod_at]
  simp
theorem len_addA (A : AL) (i : Nat) (b : Addr) (s : Stg) : (addA A i b s).length = A.length := mod_len _ _ _
theorem set_add {A : AL} {i : Nat} {X Y : AL} {p q b : Addr} {r : List (Addr × Stg)} {s s' : Stg} {SK L : Addr} {sk : Sk} (h : Spl A i X p r q s Y) (nd : ((om SK L sk A).map (·.1)).Nodup) (hb : b ∉ (om SK L sk A).map (·.1)) :
    (setO ((b, stD s') :: om SK L sk A) p (((r ++ [(q, s)]).map fun q => refD q.1) ++ [refD b])).Perm (om SK L sk (addA A i b s')) := by
  have e1 : om SK L sk (addA A i b s') = ((SK, (sk.map entD).reverse) :: (L, A.map fun p => refD p.1) :: bodyA X) ++ (p, ((r ++ [(q, s)]).map fun q => refD q.1) ++ [refD b]) :: ((r ++ [(q, s)]).map (fun q => (q.1, stD q.2)) ++ (b, stD s') :: bodyA Y) := by
    rw [om]
    have e : (addA A i b s').map (fun p => refD p.1) = A.map fun p => refD p.1 := by rw [h.addA, h.eq]; simp
    rw [e, h.addA, body_app, body_cons]
    simp
  have e2 : setO ((b, stD s') :: om SK L sk A) p (((r ++ [(q, s)]).map fun q => refD q.1) ++ [refD b]) = (b, stD s') :: (((SK, (sk.map entD).reverse) :: (L, A.map fun p => refD p.1) :: bodyA X) ++ (p, ((r ++ [(q, s)]).map fun q => refD q.1) ++ [refD b]) :: ((r ++ [(q, s)]).map (fun q => (q.1, stD q.2)) ++ bodyA Y)) := by
    have hpb : p ≠ b := by
      rintro rfl
      exact hb (by rw [h.om2]; simp)
    rw [setO, if_neg hpb]
    rw [h.om2] at nd ⊢
    rw [setO_split nd]
  rw [e1, e2]
  have e3 : ∀ (U V W : Own) (x y : Addr × List D), (x :: (U ++ y :: (V ++ W))).Perm (U ++ y :: (V ++ x :: W)) := by
    intro U V W x y
    have := (List.perm_middle (a := x) (l₁ := U ++ y :: V) (l₂ := W)).symm
    simpa using this
  exact e3 _ _ _ _ _
/-- the beginning -/
def AL0 : List (Addr × Addr) → List Nat → AL
  | a :: ad, c :: T => (a.1, [(a.2, (c, 0, -1))]) :: AL0 ad T
  | _, _ => []
theorem AL0_lv : ∀ {ad : List (Addr × Addr)} {T : List Nat}, ad.length = T.length → lvA (AL0 ad T) = T.map leafL
  | [], [], _ => rfl
  | a :: ad, c :: T, h => by
    rw [AL0, lvA_cons, AL0_lv (by simpa using h)]; rfl
  | [], c :: T, h => by simp at h
  | a :: ad, [], h => by simp at h
def leafD : D → List D
  | .str x => [.str x, .int 0, .int (-1)]
  | _ => []
theorem AL0_om : ∀ {ad : List (Addr × Addr)} {T : List Nat}, ad.length = T.length → own3 leafD ad (T.map fun c => .str [c]) = bodyA (AL0 ad T) ∧ (ad.map fun a => refD a.1) = (AL0 ad T).map fun p => refD p.1
  | [], [], _ => ⟨rfl, rfl⟩
  | a :: ad, c :: T, h => by
    obtain ⟨h1, h2⟩ := AL0_om (ad := ad) (T := T) (by simpa using h)
    constructor
    · rw [List.map_cons, own3, h1, AL0, body_cons]; rfl
    · rw [List.map_cons, h2, AL0]; rfl
  | [], c :: T, h => by simp at h
  | a :: ad, [], h => by simp at h
/-- let go -/
theorem deep_om {A : AL} {SK L : Addr} {sk : Sk} (nd : ((om SK L sk A).map (·.1)).Nodup) : Deep (om SK L sk A) (refD L) (.list ((lvA A).map fun ss => .list (ss.map fun s => .list (stD s)))) := by
  refine .list (get_L nd) ?_
  have all : ∀ ds : List D, DeepAll (om SK L sk A) ds ds := by
    intro ds; induction ds with
    | nil => exact .nil
    | cons d ds ih => exact .cons (.same d) ih
  have stg : ∀ q ∈ A.flatMap (·.2), Deep (om SK L sk A) (refD q.1) (.list (stD q.2)) := by
    intro q hq
    obtain ⟨p, hp, hq⟩ := List.mem_flatMap.mp hq
    refine .list (getO_of_mem nd ?_) (all _)
    simp only [om, List.mem_cons]
    refine .inr (.inr (List.mem_flatMap.mpr ⟨p, hp, ?_⟩))
    simp only [List.mem_cons]
    exact .inr (List.mem_map.mpr ⟨q, hq, rfl⟩)
  have plc : ∀ p ∈ A, Deep (om SK L sk A) (refD p.1) (.list ((p.2.map (·.2)).map fun s => .list (stD s))) := by
    intro p hp
    refine .list (getO_of_mem nd (ds := p.2.map fun q => refD q.1) ?_) ?_
    · simp only [om, List.mem_cons]
      refine .inr (.inr (List.mem_flatMap.mpr ⟨p, hp, ?_⟩))
      simp only [List.mem_cons]
      exact .inl trivial
    · have gen : ∀ qs : List (Addr × Stg), (∀ q ∈ qs, Deep (om SK L sk A) (refD q.1) (.list (stD q.2))) → DeepAll (om SK L sk A) (qs.map fun q => refD q.1) ((qs.map (·.2)).map fun s => .list (stD s)) := by
        intro qs
        induction qs with
        | nil => intro _; exact .nil
        | cons q qs ih => intro h; exact .cons (h q (.head _)) (ih fun x hx => h x (.tail _ hx))
      exact gen p.2 fun q hq => stg q (List.mem_flatMap.mpr ⟨p, hp, hq⟩)
  have gen : ∀ B : AL, (∀ p ∈ B, Deep (om SK L sk A) (refD p.1) (.list ((p.2.map (·.2)).map fun s => .list (stD s)))) → DeepAll (om SK L sk A) (B.map fun p => refD p.1) ((lvA B).map fun ss => .list (ss.map fun s => .list (stD s))) := by
    intro B
    induction B with
    | nil => intro _; exact .nil
    | cons p B ih => intro h; exact .cons (h p (.head _)) (ih fun x hx => h x (.tail _ hx))
  exact gen A plc
/-- a sign written small -/
def lw (c : Nat) : Nat := if (65 ≤ c ∧ c ≤ 90) ∨ (192 ≤ c ∧ c ≤ 222 ∧ c ≠ 215) then c + 32 else c
theorem lower_256 : ∀ c : _root_.Fin 256, (Txt.lower (mkS [c.1])).cps.toList = [lw c.1] := by decide +kernel
theorem lw_fig : ∀ c : _root_.Fin 256, (lw c.1 ∈ figL ↔ c.1 ∈ hexL) ∧ (c.1 ∈ hexL → lw c.1 = lc c.1) := by decide +kernel
theorem doc_lower {C : Cx} {K : D → Prop} {x : Nat} (hx : x < 256) (h : K (.str [lw x])) : DoC C (.builtin "str.lower") [.str [x]] K := .mk fun s vs U i => by
  cases i with
  | cons i j =>
    cases j; cases i
    exact wpAny_free (SCL.lower (by simp [Str.length]) fun _ htk => ⟨Kp.tok _ _ htk, _, is_lit (lower_256 ⟨x, hx⟩), h⟩)
end Mine
end

section
namespace Mine
local macro_rules | `(tactic| walk_at "m_ne") => `(tactic| first | with_reducible assumption | decide +kernel)
local macro_rules | `(tactic| walk_at "m_get") => `(tactic| first | with_reducible exact get_put_same | with_reducible exact get_cons_same | with_reducible assumption | ((with_reducible refine get_put_eq ?_); rfl) | ((with_reducible refine get_cons_eq ?_); rfl) | ((with_reducible refine get_put_ne ?_ ?_); (walk_at "m_ne"); walk_at "m_get") | ((with_reducible refine get_cons_ne ?_ ?_); (walk_at "m_ne"); walk_at "m_get") | ((with_reducible refine cap_get1 ?_); walk_at "m_get") | ((with_reducible refine cap_get3 ?_); walk_at "m_get") | ((with_reducible refine cap_get2 ?_); walk_at "m_get"))
local macro_rules | `(tactic| walk_at "m_kind") => `(tactic| with_reducible assumption)
local macro_rules | `(tactic| walk_at "m_dbg") => `(tactic| decide +kernel)
local macro_rules | `(tactic| walk_at "m_stor") => `(tactic| first | exact Or.inl (by with_reducible assumption) | exact Or.inr ⟨by with_reducible assumption, cells_of (by with_reducible assumption) rfl⟩)
local macro_rules | `(tactic| walk_at "m_name") => `(tactic| first
  | (apply pe_loc; (with_reducible assumption); walk_at "m_get"; walk_at "m_kind"; rotate_left; walk_at "m_dbg")
  | (apply pe_cell; (with_reducible assumption); walk_at "m_get"; walk_at "m_kind"; rotate_left; walk_at "m_dbg")
  | (apply pe_blt; (with_reducible assumption); exact And.left (by with_reducible assumption); exact And.right (by with_reducible assumption); walk_at "m_kind"; rotate_left; walk_at "m_dbg")
  | (apply pe_glob; (with_reducible assumption); (with_reducible assumption); (first | exact is_lit (by with_reducible assumption) | (with_reducible assumption) | (with_reducible exact Is.val)); walk_at "m_kind"; rotate_left; walk_at "m_dbg"))
local macro_rules | `(tactic| walk_at "m_meth") => `(tactic| first
  | (refine pe_meth0 F.slot_str_rstrip F.type_str_rstrip ?_ ?_ ?_; rotate_left; rfl; rfl)
  | (refine pe_meth0 F.slot_str_lower F.type_str_lower ?_ ?_ ?_; rotate_left; rfl; rfl)
  | (refine pe_meth0 F.slot_str_splitlines F.type_str_splitlines ?_ ?_ ?_; rotate_left; rfl; rfl)
  | (refine pe_meth F.slot_str_endswith F.type_str_endswith ?_ ?_ ?_ ?_ ?_ ?_; rotate_left; rfl; rfl; rfl; rfl; rfl)
  | (refine pe_meth F.slot_str_index F.type_str_index ?_ ?_ ?_ ?_ ?_ ?_; rotate_left; rfl; rfl; rfl; rfl; rfl)
  | (refine pe_meth F.slot_str_join F.type_str_join ?_ ?_ ?_ ?_ ?_ ?_; rotate_left; rfl; rfl; rfl; rfl; rfl))
local macro_rules | `(tactic| walk_at "m_pe") => `(tactic| first
  | (guard_target =~ Pe _ _ _ (Expr.Name _ _) _; walk_at "m_name")
  | refine pe_int ?_
  | ((apply pe_strL); (with_reducible assumption))
  | refine pe_str ?_
  | refine pe_bool ?_
  | refine pe_bin ?_
  | refine pe_un ?_
  | refine pe_slice ?_
  | (refine pe_cmp ?_ ?_; rotate_left; rfl)
  | (refine pe_sub ?_ ?_; rotate_left; (intros; rfl))
  | (refine pe_call ?_ ?_ ?_; rotate_left; rfl; rfl)
  | walk_at "m_meth")
local macro_rules | `(tactic| walk_at "m_asg") => `(tactic| (apply ex_assign; (with_reducible assumption); walk_at "m_stor"; rotate_left; rfl))
local macro_rules | `(tactic| walk_at "m_new") => `(tactic| (apply ex_new; (with_reducible assumption); walk_at "m_stor"; rotate_left; rfl))
local macro_rules | `(tactic| walk_at "m_ex") => `(tactic| first
  | refine ex_ret ?_
  | refine ex_if ?_
  | refine ex_cont ?_
  | refine ex_brk ?_
  | (refine ex_append ?_ ?_ ?_ ?_ ?_ ?_ ?_ ?_; rotate_left; rfl; rfl; rfl; rfl; rfl; exact inter (by assumption); rfl)
  | (refine ex_pop ?_ ?_ ?_ ?_ ?_; rotate_left; rfl; rfl; exact inter (by assumption); rfl)
  | ((fail_if_success (guard_target =~ Ex _ _ _ (Stmt.Assign _ (Expr.List _ _) _) _)); (fail_if_success (guard_target =~ Ex _ _ _ (Stmt.Assign _ (Expr.ListComp _ _ _ _) _) _)); walk_at "m_asg")
  | (apply ex_aug; (with_reducible assumption); walk_at "m_stor"; walk_at "m_get"))
local macro_rules | `(tactic| walk_at "m_do") => `(tactic| first
  | refine do_add_int ?_ | refine do_sub_int ?_ | refine do_iadd_int ?_ | refine do_isub_int ?_
  | refine do_eq_int ?_ | refine do_ne_int ?_ | refine do_lt_int ?_ | refine do_le_int ?_ | refine do_gt_int ?_ | refine do_ge_int ?_
  | refine do_eq_str ?_ | refine do_ne_str ?_ | refine do_in_str ?_ | refine do_notin_str ?_
  | refine do_mod_int (by decide) (by decide) ?_ | refine do_fdiv_int (by decide) (by decide) ?_)
local macro_rules | `(tactic| walk_at "m") => `(tactic| first
  | (guard_target =~ Pe _ _ _ _ _; walk_at "m_pe")
  | (guard_target =~ Exs _ _ _ _ _; (fail_if_success (guard_target =~ Exs _ _ _ (Stmt.If (Expr.BoolOp _ _ _) _ _ _ :: _) _)); first | refine exs_cons ?_ | refine exs_nil ?_)
  | (guard_target =~ Ex _ _ _ _ _; walk_at "m_ex")
  | (guard_target =~ Do2 _ _ _ _ _; walk_at "m_do")
  | (guard_target =~ Do1 _ _ _ _; first | refine do_neg_int ?_ | refine do_not ?_)
  | (guard_target =~ Pl _ _ _ _ _; first | refine pl_nil ?_ | (refine pl_cons ?_ ?_; rotate_left; rfl))
  | (guard_target =~ Po _ _ _ _ _; first | refine po_none ?_ | refine po_some ?_)
  | (guard_target =~ Pt _ _ _ _ _; first | (refine pt_cmp ?_ ?_; rotate_left; rfl) | (refine pt_cmp2 ?_ ?_; rotate_left; rfl) | refine pt_not ?_ | refine pt_bool ?_ | (refine pt_val ?_ ?_; rotate_left; (intro _; rfl)))
  | (guard_target =~ Pi _ _ _ _ _ _; first | refine pi_nil ?_ | refine pi_one ?_)
  | (guard_target =~ Pb _ _ _ _ _ _; first | refine pb_and ?_ | refine pb_and_nil ?_ | refine pb_or ?_ | refine pb_or_nil ?_)
  | (guard_target =~ Tr1 _ _ _; first | refine tr_bool ?_ | refine tr_int ?_)
  | (guard_target =~ ite _ _ _; first | with_reducible refine ite_t ?_ | with_reducible refine ite_f ?_ | with_reducible refine ite_nt ?_ | with_reducible refine ite_nf ?_)
  | (guard_target =~ Exists _; first | refine ⟨_, rfl, .blt, ?_⟩ | refine ⟨_, rfl, .typ, ?_⟩ | refine ⟨_, rfl, ?_⟩))

theorem unquote04 {C : Cx} {K : D → Prop} (B : B04 C) (room : Room C.A 1) {c d : Nat} (hc : c ∈ hexL) (hd : d ∈ hexL) (h : K (.str [hv c * 16 + hv d])) : DoC C (.ref 21) [.str [61, c, d]] K := by
  refine enter' (l := 0) B.G room [(Str.ofString "s", .str [61, c, d])] ⟨⟨_, B.X 21 _ rfl, rfl⟩, codeRec_of B.X rfl, rfl, rfl, rfl, rfl, rfl, rfl, rfl⟩ ?_ ?_ ?_
  · intro Z s vs U ia
    cases ia with | cons i0 r0 => cases r0; exact ⟨[(Str.ofString "s", _)], BindsTo.of_eq rfl, rfl, .cons i0 .nil, by simp only [List.map_cons, List.map_nil]; decide +kernel⟩
  · intro n x hx
    simp only [List.map_cons, List.map_nil, List.mem_cons, List.not_mem_nil, or_false] at hx
    subst hx; exact Or.inl rfl
  intro C' ok kin hN hcl
  dsimp only at hN
  have B := B.kin kin
  replace hcl := hcl _ rfl
  replace hcl : C'.env.cells = [] := hcl
  have mg_chr := B.g_chr
  have mg_int := B.g_int
  have k_s : C'.env.kindOf (Str.ofString "s") = some .local := kind_of hN rfl
  have k_chr : C'.env.kindOf (Str.ofString "chr") = some .globalImplicit := kind_of hN rfl
  have k_int : C'.env.kindOf (Str.ofString "int") = some .globalImplicit := kind_of hN rfl
  clear kin hN
  repeat (walk_at "m")
  refine ⟨by simp [lim], ?_⟩
  repeat (walk_at "m")
  refine doc_int16 (c := c) (d := d) hc hd ?_
  repeat (walk_at "m")
  refine doc_chr (by omega) ?_ ?_
  · have h1 : ∀ c ∈ hexL, hv c < 16 := by decide
    have := h1 c hc; have := h1 d hd; omega
  · rw [Int.toNat_natCast]; exact h
theorem decode04 {C : Cx} {K : D → Prop} (B : B04 C) (room : Room C.A 2) {x eol : List Nat} {as : List D} (has : as = [.str x, .str eol] ∨ (as = [.str x] ∧ eol = [10])) (hx : (x.length + 1) * (eol.length + 1) ≤ lim) (h : K (.str (decF eol x))) : DoC C (.ref 29) as K := by
  refine enter' (l := 1) B.G room [(Str.ofString "encoded", .str x), (Str.ofString "eol", .str eol)] ⟨⟨_, B.X 29 _ rfl, rfl⟩, codeRec_of B.X rfl, rfl, rfl, rfl, rfl, rfl, rfl, rfl⟩ ?_ ?_ ?_
  · intro Z s vs U ia
    rcases has with rfl | ⟨rfl, rfl⟩
    · cases ia with | cons i0 r0 => cases r0 with | cons i1 r1 => cases r1; exact ⟨[(Str.ofString "encoded", _), (Str.ofString "eol", _)], BindsTo.of_defaults rfl (U.base _ _ (B.X 22 _ rfl)) rfl rfl rfl, rfl, .cons i0 (.cons i1 .nil), by simp only [List.map_cons, List.map_nil]; decide +kernel⟩
    · cases ia with | cons i0 r0 => cases r0; exact ⟨[(Str.ofString "encoded", _), (Str.ofString "eol", _)], BindsTo.of_defaults rfl (U.base _ _ (B.X 22 _ rfl)) rfl rfl rfl, rfl, .cons i0 (.cons .str .nil), by simp only [List.map_cons, List.map_nil]; decide +kernel⟩
  · intro n x hx
    simp only [List.map_cons, List.map_nil, List.mem_cons, List.not_mem_nil, or_false] at hx
    rcases hx with rfl | rfl
    · exact Or.inl rfl
    · exact Or.inl rfl
  intro C' ok kin hN hcl
  dsimp only at hN
  have B := B.kin kin
  replace hcl := hcl _ rfl
  replace hcl : C'.env.cells = [] := hcl
  have mg_hexdigits := B.g_hexdigits
  have mg_len := B.g_len
  have mg_unquote := B.g_unquote
  have k_encoded : C'.env.kindOf (Str.ofString "encoded") = some .local := kind_of hN rfl
  have k_eol : C'.env.kindOf (Str.ofString "eol") = some .local := kind_of hN rfl
  have k_decoded : C'.env.kindOf (Str.ofString "decoded") = some .local := kind_of hN rfl
  have k_line : C'.env.kindOf (Str.ofString "line") = some .local := kind_of hN rfl
  have k_i : C'.env.kindOf (Str.ofString "i") = some .local := kind_of hN rfl
  have k_n : C'.env.kindOf (Str.ofString "n") = some .local := kind_of hN rfl
  have k_len : C'.env.kindOf (Str.ofString "len") = some .globalImplicit := kind_of hN rfl
  have k_c : C'.env.kindOf (Str.ofString "c") = some .local := kind_of hN rfl
  have k_hexdigits : C'.env.kindOf (Str.ofString "hexdigits") = some .globalImplicit := kind_of hN rfl
  have k_unquote : C'.env.kindOf (Str.ofString "unquote") = some .globalImplicit := kind_of hN rfl
  clear kin hN
  obtain ⟨P, hP⟩ : ∃ P, (x.length + 1) * (eol.length + 1) = P := ⟨_, rfl⟩
  have hP1 : x.length + 1 ≤ P := by rw [← hP]; exact Nat.le_mul_of_pos_right _ (Nat.succ_pos _)
  have hP2 : eol.length + 1 ≤ P := by rw [← hP]; exact Nat.le_mul_of_pos_left _ (Nat.succ_pos _)
  rw [hP] at hx
  have hxl : x.length ≤ lim := by omega
  have lit2 : (Str.ofString "0123456789abcdefABCDEF").cps.toList = hexL := by decide +kernel
  have lit1 : (Str.ofString "=").cps.toList = [61] := by decide +kernel
  repeat (walk_at "m")
  refine tr_str hxl ?_
  refine ite_ndec (fun h0 => ?_) (fun h0 => ?_)
  · have h0 : x = [] := by simpa using h0
    subst h0
    repeat (walk_at "m")
    exact h
  repeat (walk_at "m")
  refine ex_for ok (by walk_at "m_stor") ?_ (by intro _; rfl)
  repeat (walk_at "m")
  refine doc_splitlines (by simp only [lim] at hx ⊢; omega) ?_
  refine ⟨_, rfl, (fun k ρ' ω' => ω' = [] ∧ get ρ' (Str.ofString "encoded") = some (.str x) ∧ get ρ' (Str.ofString "eol") = some (.str eol) ∧ get ρ' (Str.ofString "decoded") = some (.str ((((linesL x).take k).map (lineF eol)).flatten))), ?_, ?_, ?_⟩
  · exact ⟨rfl, by walk_at "m_get", by walk_at "m_get", by walk_at "m_get"⟩
  · rintro k d ρ' ω' hk ⟨rfl, g1, g2, g3⟩
    obtain ⟨line, hline, rfl⟩ : ∃ line, (linesL x)[k]? = some line ∧ d = .str line := by
      rw [List.getElem?_map] at hk
      cases hq : (linesL x)[k]? with
      | none => rw [hq] at hk; cases hk
      | some line => rw [hq] at hk; exact ⟨line, rfl, by simpa using hk.symm⟩
    have hll := line_len x hline
    have hstep := raw_step eol x hline
    have hle := raw_le eol x (k + 1)
    rw [hP] at hle
    generalize (((linesL x).take k).map (lineF eol)).flatten = D0 at *
    repeat (walk_at "m")
    refine doc_rstrip (by simp only [lim] at hx ⊢; omega) ?_
    have hrl := rstripL_len line
    have hF : lineF eol line = if rstripL line = [] then eol else lineGo eol (rstripL line) := rfl
    generalize rstripL line = ln at *
    repeat (walk_at "m")
    refine tr_str (by simp only [lim] at hx ⊢; omega) ?_
    refine ite_ndec (fun h1 => ?_) (fun h1 => ?_)
    · have h1 : ln = [] := by simpa using h1
      rw [if_pos h1] at hF
      rw [hF] at hstep
      rw [hstep] at hle
      repeat (walk_at "m")
      refine do_iadd_str (by simp only [lim, List.length_append, List.length_cons, List.length_nil] at hx hle ⊢; omega) ?_
      repeat (walk_at "m")
      refine ⟨rfl, by walk_at "m_get", by walk_at "m_get", ?_⟩
      rw [hstep]; walk_at "m_get"
    · rw [if_neg h1] at hF
      rw [hF] at hstep
      rw [hstep] at hle
      repeat (walk_at "m")
      refine doc_len_str (by simp only [lim] at hx ⊢; omega) ?_
      repeat (walk_at "m")
      refine ex_while (fun m ρ'' ω'' => ω'' = [] ∧ ∃ (i : Nat) (dec : List Nat), i ≤ ln.length ∧ m = ln.length - i ∧ dec ++ lineGo eol (ln.drop i) = D0 ++ lineGo eol ln ∧
        get ρ'' (Str.ofString "encoded") = some (.str x) ∧ get ρ'' (Str.ofString "eol") = some (.str eol) ∧ get ρ'' (Str.ofString "decoded") = some (.str dec) ∧
        get ρ'' (Str.ofString "line") = some (.str ln) ∧ get ρ'' (Str.ofString "i") = some (.int i) ∧ get ρ'' (Str.ofString "n") = some (.int ln.length)) ln.length ?_ ?_
      · exact ⟨rfl, 0, D0, Nat.zero_le _, by omega, rfl, by walk_at "m_get", by walk_at "m_get", by walk_at "m_get", by walk_at "m_get", by walk_at "m_get", by walk_at "m_get"⟩
      rintro m ρ'' ω'' ⟨rfl, i, dec, hi, rfl, hdec, e1, e2, e3, e4, e5, e6⟩
      repeat (walk_at "m")
      refine ite_dec (fun hlt => ?_) (fun hge => ?_)
      · have hlt : i < ln.length := by omega
        have hdrop : ln.drop i = ln[i] :: ln.drop (i + 1) := List.drop_eq_getElem_cons hlt
        have hdl : dec.length + (lineGo eol (ln.drop i)).length = (D0 ++ lineGo eol ln).length := by rw [← List.length_append, hdec]
        repeat (walk_at "m")
        refine ⟨ln[i], idx_nat ln i hlt, by simp only [lim] at hx ⊢; omega, ?_⟩
        dsimp only
        have hne0 : ∀ r : List Nat, (if r = [] then eol else lineGo eol r) = (if r = [] then eol else []) ++ lineGo eol r := by
          intro r; cases r with
          | nil => simp [lineGo]
          | cons a r => simp
        repeat (walk_at "m")
        try rw [lit1]
        refine ite_dec (fun hc => ?_) (fun hc => ?_)
        · have hc : ln[i] ≠ 61 := by simpa using hc
          have hg : lineGo eol (ln.drop i) = ln[i] :: ((if ln.drop (i + 1) = [] then eol else []) ++ lineGo eol (ln.drop (i + 1))) := by
            rw [hdrop, lineGo_ne hc, hne0]
          rw [hg] at hdec hdl
          repeat (walk_at "m")
          refine do_iadd_str (by simp only [lim, List.length_append, List.length_cons, List.length_nil] at hx hle hdl ⊢; omega) ?_
          repeat (walk_at "m")
          refine ite_dec (fun hq => ?_) (fun hq => ?_)
          · have hq : i + 1 = ln.length := by omega
            have hd0 : ln.drop (i + 1) = [] := List.drop_of_length_le (by omega)
            rw [hd0] at hdec hdl
            simp only [if_true] at hdec hdl
            repeat (walk_at "m")
            refine do_iadd_str (by simp only [lim, List.length_append, List.length_cons, List.length_nil] at hx hle hdl ⊢; omega) ?_
            repeat (walk_at "m")
            refine ⟨ln.length - (i + 1), by omega, rfl, i + 1, _, by omega, rfl, ?_, by walk_at "m_get", by walk_at "m_get", by walk_at "m_get", by walk_at "m_get", by walk_at "m_get", by walk_at "m_get"⟩
            rw [hd0, ← hdec]; simp
          · have hd0 : ln.drop (i + 1) ≠ [] := by
              intro e; have := congrArg List.length e; simp at this; omega
            rw [if_neg hd0] at hdec
            repeat (walk_at "m")
            refine ⟨ln.length - (i + 1), by omega, rfl, i + 1, _, by omega, rfl, ?_, by walk_at "m_get", by walk_at "m_get", by walk_at "m_get", by walk_at "m_get", by walk_at "m_get", by walk_at "m_get"⟩
            rw [← hdec]; simp
        · have hc : ln[i] = 61 := by simpa using hc
          repeat (walk_at "m")
          refine ite_dec (fun hq => ?_) (fun hq => ?_)
          · -- a soft break
            have hq : i + 1 = ln.length := by omega
            have hd0 : ln.drop (i + 1) = [] := List.drop_of_length_le (by omega)
            rw [hdrop, hc, hd0, lineGo_soft] at hdec
            repeat (walk_at "m")
            refine ⟨ln.length - (i + 1), by omega, rfl, i + 1, dec, by omega, rfl, ?_, by walk_at "m_get", by walk_at "m_get", by walk_at "m_get", by walk_at "m_get", by walk_at "m_get", by walk_at "m_get"⟩
            rw [hd0, lineGo_nil]; exact hdec
          · have hlt2 : i + 1 < ln.length := by omega
            -- the literal case, shared
            have hdrop1 : ln.drop (i + 1) = ln[i + 1] :: ln.drop (i + 2) := List.drop_eq_getElem_cons hlt2
            refine exs_cons (ex_if (pt_bool ?_))
            refine Pb.mono (K := fun b => b = decide (∃ h2 : i + 2 < ln.length, ln[i + 1] ∈ hexL ∧ ln[i + 2] ∈ hexL)) ?_ ?_
            · repeat (walk_at "m")
              refine ite_dec (fun q1 => ?_) (fun q1 => ?_)
              · have q1 : i + 2 < ln.length := by omega
                repeat (walk_at "m")
                refine ⟨ln[i + 1], by exact_mod_cast idx_nat ln (i + 1) hlt2, by simp only [lim] at hx ⊢; omega, ?_⟩
                dsimp only
                repeat (walk_at "m")
                refine ite_dec (fun q2 => ?_) (fun q2 => ?_)
                · repeat (walk_at "m")
                  refine ⟨ln[i + 2], by exact_mod_cast idx_nat ln (i + 2) q1, by simp only [lim] at hx ⊢; omega, ?_⟩
                  dsimp only
                  repeat (walk_at "m")
                  refine ite_dec (fun q3 => ?_) (fun q3 => ?_)
                  · repeat (walk_at "m")
                    exact (decide_eq_true ⟨q1, q2, q3⟩).symm
                  · exact (decide_eq_false fun q => q3 q.2.2).symm
                · exact (decide_eq_false fun q => q2 q.2.1).symm
              · exact (decide_eq_false fun q => q1 (by have := q.1; omega)).symm
            rintro b rfl
            refine ite_dec (fun hq2 => ?_) (fun hq2 => ?_)
            · obtain ⟨h3, ha, hb⟩ := hq2
              have hdrop2 : ln.drop (i + 2) = ln[i + 2] :: ln.drop (i + 3) := List.drop_eq_getElem_cons h3
              have hg : lineGo eol (ln.drop i) = (hv ln[i + 1] * 16 + hv ln[i + 2]) :: ((if ln.drop (i + 3) = [] then eol else []) ++ lineGo eol (ln.drop (i + 3))) := by
                rw [hdrop, hc, hdrop1, hdrop2, lineGo_esc ha hb, hne0]
              rw [hg] at hdec hdl
              have hsl : sl ln (some (i : Int)) (some ((i : Int) + 3)) = [61, ln[i + 1], ln[i + 2]] := by
                have e := sl_mid ln i (i + 3) (by omega) (by omega)
                have e' : ((i + 3 : Nat) : Int) = (i : Int) + 3 := by omega
                rw [e'] at e
                rw [e, hdrop, hc, hdrop1, hdrop2, show i + 3 - i = 3 by omega]; rfl
              repeat (walk_at "m")
              refine ⟨.fn ⟨_, _, _, _, B.X 21 _ rfl⟩, ?_⟩
              repeat (walk_at "m")
              refine ⟨by simp only [lim] at hx ⊢; omega, ?_⟩
              rw [hsl]
              repeat (walk_at "m")
              refine unquote04 B ok.room ha hb ?_
              refine do_iadd_str (by simp only [lim, List.length_append, List.length_cons, List.length_nil] at hx hle hdl ⊢; omega) ?_
              dsimp only
              repeat (walk_at "m")
              refine ite_dec (fun hq => ?_) (fun hq => ?_)
              · have hq : i + 3 = ln.length := by omega
                have hd0 : ln.drop (i + 3) = [] := List.drop_of_length_le (by omega)
                rw [hd0] at hdec hdl
                simp only [if_true] at hdec hdl
                repeat (walk_at "m")
                refine do_iadd_str (by simp only [lim, List.length_append, List.length_cons, List.length_nil] at hx hle hdl ⊢; omega) ?_
                dsimp only
                repeat (walk_at "m")
                refine ⟨ln.length - (i + 3), by omega, rfl, i + 3, _, by omega, rfl, ?_, by walk_at "m_get", by walk_at "m_get", by walk_at "m_get", by walk_at "m_get", by walk_at "m_get", by walk_at "m_get"⟩
                rw [hd0, ← hdec]; simp
              · have hd0 : ln.drop (i + 3) ≠ [] := by
                  intro e; have := congrArg List.length e; simp at this; omega
                rw [if_neg hd0] at hdec
                repeat (walk_at "m")
                refine ⟨ln.length - (i + 3), by omega, rfl, i + 3, _, by omega, rfl, ?_, by walk_at "m_get", by walk_at "m_get", by walk_at "m_get", by walk_at "m_get", by walk_at "m_get", by walk_at "m_get"⟩
                rw [← hdec]; simp
            · have hg : lineGo eol (ln.drop i) = 61 :: lineGo eol (ln.drop (i + 1)) := by
                rw [hdrop, hc, hdrop1]
                by_cases h3 : i + 2 < ln.length
                · have hdrop2 : ln.drop (i + 2) = ln[i + 2] :: ln.drop (i + 3) := List.drop_eq_getElem_cons h3
                  rw [hdrop2, lineGo_lit2 fun q => hq2 ⟨h3, q⟩]
                · have : ln.drop (i + 2) = [] := List.drop_of_length_le (by omega)
                  rw [this, lineGo_lit1]
              rw [hg] at hdec hdl
              repeat (walk_at "m")
              refine do_iadd_str (by simp only [lim, List.length_append, List.length_cons, List.length_nil] at hx hle hdl ⊢; omega) ?_
              dsimp only
              repeat (walk_at "m")
              refine ite_dec (fun hq => ?_) (fun hq => ?_)
              · exfalso; omega
              · repeat (walk_at "m")
                refine ⟨ln.length - (i + 1), by omega, rfl, i + 1, _, by omega, rfl, ?_, by walk_at "m_get", by walk_at "m_get", by walk_at "m_get", by walk_at "m_get", by walk_at "m_get", by walk_at "m_get"⟩
                rw [← hdec, hc]; simp
      · have : i = ln.length := by omega
        subst this
        simp only [List.drop_length, lineGo, List.append_nil] at hdec
        refine exs_nil ⟨rfl, e1, e2, ?_⟩
        rw [hstep, ← hdec]; exact e3
  · rintro ρ' ω' ⟨rfl, g1, g2, g3⟩
    have hraw : ((List.take (List.map D.str (linesL x)).length (linesL x)).map (lineF eol)).flatten = decRaw eol x := by
      rw [List.length_map, List.take_length]; rfl
    rw [hraw] at g3
    have hdl := decRaw_len eol x
    rw [hP] at hdl
    refine exs_cons (ex_if (pt_bool ?_))
    repeat (walk_at "m")
    have hlast : idx x (-1) = some (x.getLast (by simpa using h0)) := idx_last x _
    have hlast' : x.getLast? = some (x.getLast (by simpa using h0)) := List.getLast?_eq_some_getLast _
    refine ⟨_, hlast, hxl, ?_⟩
    have hdec : decF eol x = if x.getLast? ≠ some 13 ∧ x.getLast? ≠ some 10 ∧ endsL (decRaw eol x) eol = true then sl (decRaw eol x) none (some (-(eol.length : Int))) else decRaw eol x := by
      unfold decF; rw [if_neg (by simpa using h0)]
    rw [hlast'] at hdec
    generalize x.getLast _ = lc at *
    have lit3 : (Str.ofString "\x0d\n").cps.toList = [13, 10] := by decide +kernel
    dsimp only
    repeat (walk_at "m")
    try rw [lit3]
    refine ite_dec (fun q1 => ?_) (fun q1 => ?_)
    · have q1 : lc ≠ 13 ∧ lc ≠ 10 := by simpa using q1
      repeat (walk_at "m")
      refine doc_endswith ?_
      repeat (walk_at "m")
      refine ite_b (fun q2 => ?_) (fun q2 => ?_)
      · repeat (walk_at "m")
        refine doc_len_str (by simp only [lim] at hx ⊢; omega) ?_
        repeat (walk_at "m")
        refine ⟨by simp only [lim] at hx ⊢; omega, ?_⟩
        dsimp only
        repeat (walk_at "m")
        rw [if_pos ⟨by simpa using q1.1, by simpa using q1.2, q2⟩] at hdec
        rw [hdec] at h; exact h
      · repeat (walk_at "m")
        rw [if_neg fun q => by rw [q.2.2] at q2; cases q2] at hdec
        rw [hdec] at h; exact h
    · repeat (walk_at "m")
      rw [if_neg fun q => q1 (by simpa using ⟨fun e => q.1 (by rw [e]), fun e => q.2.1 (by rw [e])⟩)] at hdec
      rw [hdec] at h; exact h

theorem fm_map {α : Type} (l : List α) (i : α → D) (f : α → D) (g : D → Option D) (e : ∀ c, g (i c) = some (f c)) : (l.map i).filterMap g = l.map f := by
  induction l with
  | nil => rfl
  | cons a l ih => rw [List.map_cons, List.filterMap_cons_some (e a), ih, List.map_cons]
def pc04 (x : Int) : List Nat := pieces04.getD (x % 15).toNat []
theorem pc04_mem (x : Int) : pc04 x ∈ pieces04 := by
  have h : (x % 15).toNat < pieces04.length := by show _ < 15; omega
  rw [pc04, List.getD_eq_getElem?_getD, List.getElem?_eq_getElem h]
  exact List.getElem_mem h
theorem pc04_len (x : Int) : (pc04 x).length ≤ 5 := (show ∀ p ∈ pieces04, p.length ≤ 5 by decide) _ (pc04_mem x)
theorem pc04_idx (x : Int) : idx (pieces04.map D.str) (x % 15) = some (.str (pc04 x)) := by
  obtain ⟨m, hm⟩ : ∃ m : Nat, x % 15 = m := ⟨(x % 15).toNat, by omega⟩
  have hlt : m < pieces04.length := by show m < 15; omega
  rw [hm, pc04, hm, Int.toNat_natCast, List.getD_eq_getElem?_getD, List.getElem?_eq_getElem hlt]
  refine idx_of ?_
  rw [List.getElem?_map, List.getElem?_eq_getElem hlt]; rfl
def pcG : D → Option D | .int x => some (.str (pc04 x)) | _ => none
/-- the text -/
def text04F (ns : List Int) : List Nat := ((ns.take 40).map pc04).flatten ++ [46]
theorem flat_le (ns : List Int) : ((ns.map pc04).flatten).length ≤ 5 * ns.length := by
  induction ns with
  | nil => simp
  | cons x ns ih => have := pc04_len x; simp only [List.map_cons, List.flatten_cons, List.length_append, List.length_cons] at ih ⊢; omega
theorem text04 {C : Cx} {K : D → Prop} (B : B04 C) (room : Room C.A 1) {ns : List Int} (hn : ns.length ≤ 63) (h : K (.str (text04F ns))) : DoC C (.ref 34) [.list (ns.map .int)] K := by
  refine enter' (l := 0) B.G room [(Str.ofString "script", .list (ns.map .int))] ⟨⟨_, B.X 34 _ rfl, rfl⟩, codeRec_of B.X rfl, rfl, rfl, rfl, rfl, rfl, rfl, rfl⟩ ?_ ?_ ?_
  · intro Z s vs U ia
    cases ia with | cons i0 r0 => cases r0; exact ⟨[(Str.ofString "script", _)], BindsTo.of_eq rfl, rfl, .cons i0 .nil, by simp only [List.map_cons, List.map_nil]; decide +kernel⟩
  · intro n x hx
    simp only [List.map_cons, List.map_nil, List.mem_cons, List.not_mem_nil, or_false] at hx
    subst hx; exact Or.inl rfl
  intro C' ok kin hN hcl
  dsimp only at hN
  have B := B.kin kin
  replace hcl := hcl _ rfl
  replace hcl : C'.env.cells = [(Str.ofString "pieces", C'.env.locals + 1)] := hcl
  have k_script : C'.env.kindOf (Str.ofString "script") = some .local := kind_of hN rfl
  have k_pieces : C'.env.kindOf (Str.ofString "pieces") = some .cell := kind_of hN rfl
  clear kin hN
  have lit_0 : (Str.ofString ".").cps.toList = [46] := by decide +kernel
  have lit_1 : (Str.ofString "").cps.toList = [] := by decide +kernel
  have hl63 : (ns.map D.int).length ≤ lim := by simp [lim]; omega
  refine exs_cons ?_
  walk_at "m_asg"
  refine pe_strs (parts := pieces04) (by decide +kernel) (by decide) ?_
  dsimp only
  refine exs_cons (ex_ret (pe_bin ?_))
  refine pe_meth F.slot_str_join F.type_str_join ?_ rfl rfl rfl rfl rfl
  refine pe_strL (l := []) (by assumption) ?_
  refine ⟨_, rfl, ?_⟩
  refine pl_cons ?_ rfl
  refine pe_compT ok (compOk1 (by rw [hcl]; rfl) (by decide +kernel) rfl (by decide +kernel) rfl k_pieces (by rw [hcl]; rfl) rfl) ?_ (by intro _; rfl)
  repeat (walk_at "m")
  refine ⟨hl63, ?_⟩
  have hslm : sl (ns.map D.int) none (some 40) = (ns.take 40).map .int := by
    have := sl_to (ns.map D.int) 40
    rw [show ((40 : Nat) : Int) = 40 from rfl] at this
    rw [this, List.map_take]
  rw [hslm]
  have ht40 : (ns.take 40).length ≤ 40 := by rw [List.length_take]; omega
  unfold text04F at h
  generalize ns.take 40 = m4 at *
  refine ⟨_, rfl, by simp only [List.length_map, lim]; omega, pcG, ?_, ?_⟩
  · intro d hd n
    obtain ⟨x, hx, rfl⟩ := List.mem_map.mp hd
    refine in_pi ok rfl fun C2 ok2 kin2 hK => ?_
    have B := B.kin kin2
    have k2_x : C2.env.kindOf (Str.ofString "x") = some .local := hK.same rfl (by decide)
    have k2_pieces : C2.env.kindOf (Str.ofString "pieces") = some .cell := hK.cell rfl (by with_reducible assumption)
    clear ok
    repeat (walk_at "m")
    refine ⟨_, pc04_idx x, by simp [lim, pieces04], ?_⟩
    rfl
  rw [fm_map m4 D.int (fun x => D.str (pc04 x)) pcG (fun a => rfl)]
  have hb0 : m4.map (fun x => D.str (pc04 x)) = (m4.map pc04).map .str := by rw [List.map_map]; rfl
  rw [hb0]
  have hfl := flat_le m4
  repeat (walk_at "m")
  refine doc_join (by rw [← List.length_flatten]; simp only [lim, List.length_nil, Nat.mul_zero]; omega) ?_
  rw [joinL_nil]
  repeat (walk_at "m")
  refine do_add_str (by simp only [lim, List.length_cons, List.length_nil]; omega) ?_
  exact h
def lvD (lv : Lvs) : D := .list (lv.map fun ss => .list (ss.map fun s => .list (stD s)))
def aftG (r : Nat) : D → Option D
  | .list [.str c, .int b, .int d] => if b ≤ r ∧ (d < 0 ∨ (r : Int) < d) then some (.str c) else none
  | _ => none
def innerL : D → List D
  | .list ds => ds
  | _ => []
theorem aft_one (r : Nat) (s : Stg) : aftG r (.list (stD s)) = if alv r s = true then some (.str [s.1]) else none := by
  show (if (s.2.1 : Int) ≤ r ∧ (s.2.2 < 0 ∨ (r : Int) < s.2.2) then some (D.str [s.1]) else none) = _
  unfold alv
  by_cases h : (s.2.1 : Int) ≤ r ∧ (s.2.2 < 0 ∨ (r : Int) < s.2.2)
  · rw [if_pos h, if_pos]
    simp only [Bool.and_eq_true, Bool.or_eq_true, decide_eq_true_eq]
    exact ⟨by omega, h.2⟩
  · rw [if_neg h, if_neg]
    simp only [Bool.and_eq_true, Bool.or_eq_true, decide_eq_true_eq]
    exact fun q => h ⟨by omega, q.2⟩
theorem aft_fm (r : Nat) (ss : List Stg) : (ss.map fun s => D.list (stD s)).filterMap (aftG r) = ((ss.filter (alv r)).map (·.1)).map fun c => .str [c] := by
  induction ss with
  | nil => rfl
  | cons s ss ih =>
    have e := aft_one r s
    rw [List.map_cons, List.filterMap_cons, e]
    cases h : alv r s with
    | true => simp [h, ih]
    | false => simp [h, ih]
theorem aft_flat (r : Nat) (lv : Lvs) : ((lv.map fun ss => D.list (ss.map fun s => .list (stD s))).flatMap fun d => (innerL d).filterMap (aftG r)) = ((after r lv).map fun c => [c]).map .str := by
  unfold after
  induction lv with
  | nil => rfl
  | cons ss lv ih =>
    rw [List.map_cons, List.flatMap_cons, ih]
    simp only [innerL, aft_fm, List.flatMap_cons, List.map_append, List.map_map]
    rfl
theorem after_len (r : Nat) (lv : Lvs) : (after r lv).length ≤ (lv.map List.length).sum := by
  unfold after
  induction lv with
  | nil => simp
  | cons ss lv ih =>
    have := List.length_filter_le (alv r) ss
    simp only [List.flatMap_cons, List.length_append, List.length_map, List.map_cons, List.sum_cons] at ih ⊢
    omega
theorem after04 {C : Cx} {K : D → Prop} (B : B04 C) (room : Room C.A 1) {lv : Lvs} {r : Nat} (hl : lv.length ≤ lim) (hs : (lv.map List.length).sum ≤ 1000000) (h : K (.str (after r lv))) : DoC C (.ref 44) [lvD lv, .int r] K := by
  refine enter' (l := 0) B.G room [(Str.ofString "lives", lvD lv), (Str.ofString "rounds", .int r)] ⟨⟨_, B.X 44 _ rfl, rfl⟩, codeRec_of B.X rfl, rfl, rfl, rfl, rfl, rfl, rfl, rfl⟩ ?_ ?_ ?_
  · intro Z s vs U ia
    cases ia with | cons i0 r0 => cases r0 with | cons i1 r1 => cases r1; exact ⟨[(Str.ofString "lives", _), (Str.ofString "rounds", _)], BindsTo.of_eq rfl, rfl, .cons i0 (.cons i1 .nil), by simp only [List.map_cons, List.map_nil]; decide +kernel⟩
  · intro n x hx
    simp only [List.map_cons, List.map_nil, List.mem_cons, List.not_mem_nil, or_false] at hx
    rcases hx with rfl | rfl
    · exact Or.inl rfl
    · exact Or.inr ⟨rfl, rfl⟩
  intro C' ok kin hN hcl
  dsimp only at hN
  have B := B.kin kin
  replace hcl := hcl _ rfl
  replace hcl : C'.env.cells = [(Str.ofString "rounds", C'.env.locals + 1)] := hcl
  have k_lives : C'.env.kindOf (Str.ofString "lives") = some .local := kind_of hN rfl
  have k_rounds : C'.env.kindOf (Str.ofString "rounds") = some .cell := kind_of hN rfl
  clear kin hN
  have lit_0 : (Str.ofString "").cps.toList = [] := by decide +kernel
  have hal := after_len r lv
  refine exs_cons (ex_ret ?_)
  refine pe_meth F.slot_str_join F.type_str_join ?_ rfl rfl rfl rfl rfl
  refine pe_strL (l := []) (by assumption) ?_
  refine ⟨_, rfl, ?_⟩
  refine pl_cons ?_ rfl
  refine pe_comp2 ok (compOk1 (by rw [hcl]; rfl) (by decide +kernel) rfl (by decide +kernel) rfl k_rounds (by rw [hcl]; rfl) rfl) rfl (by decide) ?_ (by intro _; rfl)
  walk_at "m"
  refine ⟨_, rfl, innerL, aftG r, ?_, ?_, ?_⟩
  · rw [aft_flat, List.length_map, List.length_map]; simp only [lim]; omega
  · intro d hd
    obtain ⟨ss, hss, rfl⟩ := List.mem_map.mp hd
    refine ⟨fun _ => rfl, fun d' hd' n => ?_⟩
    obtain ⟨s, hs', rfl⟩ := List.mem_map.mp hd'
    refine in_pi ok rfl fun C2 ok2 kin2 hK => ?_
    have B := B.kin kin2
    have k2_stages : C2.env.kindOf (Str.ofString "stages") = some .local := hK.same rfl (by decide)
    have k2_one : C2.env.kindOf (Str.ofString "one") = some .local := hK.same rfl (by decide)
    have k2_rounds : C2.env.kindOf (Str.ofString "rounds") = some .cell := hK.cell rfl (by with_reducible assumption)
    clear ok
    have i0 : idx (stD s) 0 = some (.str [s.1]) := rfl
    have i1 : idx (stD s) 1 = some (.int s.2.1) := rfl
    have i2 : idx (stD s) 2 = some (.int s.2.2) := rfl
    have hsl : (stD s).length ≤ lim := by simp [stD, lim]
    refine pi_one (pt_bool ?_)
    refine Pb.mono (K := fun b => b = alv r s) ?_ ?_
    · unfold alv
      repeat (walk_at "m")
      refine ⟨hsl, ?_⟩
      repeat (walk_at "m")
      refine ite_dec (fun q1 => ?_) (fun q1 => ?_)
      · repeat (walk_at "m")
        refine ⟨hsl, ?_⟩
        repeat (walk_at "m")
        refine ite_dec (fun q2 => ?_) (fun q2 => ?_)
        · refine ite_t ?_
          repeat (walk_at "m")
          have e1 : s.2.1 ≤ r := by omega
          simp [e1, q2]
        · repeat (walk_at "m")
          refine ⟨hsl, ?_⟩
          repeat (walk_at "m")
          have e1 : s.2.1 ≤ r := by omega
          refine ite_dec (fun q3 => ?_) (fun q3 => ?_)
          · refine ite_t ?_
            repeat (walk_at "m")
            simp [e1, q3]
          · repeat (walk_at "m")
            simp [q2, q3]
      · have e1 : ¬ s.2.1 ≤ r := by omega
        simp [e1]
    rintro b rfl
    have hg : aftG r (.list (stD s)) = if alv r s = true then some (.str [s.1]) else none := aft_one r s
    rw [hg]
    cases hb : alv r s with
    | true =>
      refine ite_t ?_
      repeat (walk_at "m")
      exact ⟨hsl, rfl⟩
    | false => exact ite_f rfl
  rw [aft_flat]
  have hfl : ((after r lv).map fun c => [c]).flatten = after r lv := by rw [← List.flatMap_def]; simp
  refine pl_nil (doc_join (by rw [← List.length_flatten, hfl]; simp only [List.length_nil, Nat.mul_zero, lim]; omega) ?_)
  rw [joinL_nil, hfl]
  exact h

theorem in_pl {C : Cx} {l : Nat} {ρ : Loc} {ω : Own} {es : List Expr} {K : List D → Prop} {scope : Scope} {cl : List (Str × Addr)} {n : Addr} (ok : C.Ok l) (hk : scope.kind = .function)
    (h : ∀ C2, C2.Ok l → Kin C C2 → KC C C2 scope → Pl C2 ρ ω es K) : Pl (C.comp scope cl n) ρ ω es K :=
  h _ (ok.comp hk) ⟨rfl, rfl, rfl, rfl, rfl⟩ (kc_of ok _ _ _)
theorem sl_rev {α : Type} (l : List α) (n : Nat) (h : 0 < n) : sl l.reverse (some (-(n : Int))) none = (l.take n).reverse := by
  unfold sl
  simp only [Option.elim, List.length_reverse]
  have e : clipAt l.length (-(n : Int)) = l.length - n := by
    unfold clipAt
    simp only [show (-(n : Int)) < 0 by omega, if_true]
    omega
  rw [e, List.drop_reverse, List.take_of_length_le (by simp)]
  congr 1
  by_cases hn : n ≤ l.length
  · rw [show l.length - (l.length - n) = n by omega]
  · rw [List.take_of_length_le (by omega), List.take_of_length_le (by omega)]
theorem mem_sum {l : List Nat} {x : Nat} (h : x ∈ l) : x ≤ l.sum := by
  induction l with
  | nil => cases h
  | cons a l ih =>
    rw [List.sum_cons]
    rcases List.mem_cons.mp h with rfl | h
    · omega
    · have := ih h; omega
theorem sl_two {α : Type} (P : List α) (x y : α) : sl (P ++ [x, y]) (some (-2)) none = [x, y] := by
  have := sl_rev ((P ++ [x, y]).reverse) 2 (by decide)
  rw [List.reverse_reverse, show (-((2 : Nat) : Int)) = -2 from rfl] at this
  rw [this]; simp
theorem idx_two1 {α : Type} (P : List α) (x y : α) : idx (P ++ [x, y]) (-1) = some y := by rw [idx_last _ (by simp)]; simp
theorem idx_two2 {α : Type} (P : List α) (x y : α) : idx (P ++ [x, y]) (-2) = some x := by
  have hl : (P ++ [x, y]).length = P.length + 2 := by simp
  unfold idx seqIndex?
  rw [hl]
  simp only [show ((-2 : Int) < 0) by decide, if_true]
  rw [if_pos (by simp; omega)]
  have e : (-2 + ((P.length + 2 : Nat) : Int)).toNat = P.length := by omega
  rw [Option.bind_some, e]; simp
def gTop (A : AL) : D → Option D
  | .list [.int i, _] => some (refD (topA A i.toNat))
  | _ => none
def gFld (ω : Own) (k : Nat) : D → Option D
  | .val (.ref a) => (getO ω a).bind (·[k]?)
  | _ => none
theorem fm_all {α : Type} (l : List α) (i : α → D) (f : α → D) (g : D → Option D) (e : ∀ c ∈ l, g (i c) = some (f c)) : (l.map i).filterMap g = l.map f := by
  induction l with
  | nil => rfl
  | cons a l ih => rw [List.map_cons, List.filterMap_cons_some (e a (.head _)), ih fun c hc => e c (.tail _ hc), List.map_cons]
/-- a stage gets its end -/
theorem die_step {SK L : Addr} {sk sk' : Sk} {A : AL} {b t i w : Nat} (fi : FI b t (lvA A) sk') (hi : i < A.length) (hw : w ≤ b) (nd : ((om SK L sk A).map (·.1)).Nodup) :
    ∃ s, getO (om SK L sk A) (topA A i) = some (stD s) ∧ setO (om SK L sk A) (topA A i) ((stD s).set 2 (.int (w : Int))) = om SK L sk (dieA A i w) ∧ lvA (dieA A i w) = die (lvA A) i w ∧ (∀ j, topA (dieA A i w) j = topA A j) ∧ FI b t (lvA (dieA A i w)) sk' := by
  obtain ⟨X, p, r, q, s, Y, sp⟩ := spl fi hi
  have e := lv_dieA (w := w) sp
  refine ⟨s, by rw [sp.topA]; exact sp.getS nd, by rw [sp.topA]; exact set_die sp nd, e, fun j => top_dieA sp, ?_⟩
  rw [e]; exact fi.die i hw
def esc3 (lv : Lvs) (sk : Sk) : Bool := match sk with
  | e3 :: e2 :: e1 :: _ => decide ((topS lv e1.1).1 = 61 ∧ (topS lv e2.1).1 ∈ hexL ∧ (topS lv e3.1).1 ∈ hexL)
  | _ => false
theorem one_two {lv : Lvs} {sk : Sk} (h : esc3 lv sk = false) : one lv sk = one2 lv sk := by
  unfold one
  split
  · rename_i e3 e2 e1 r
    rw [if_neg]
    simpa [esc3] using h
  · rfl
theorem sk_cases {sk : Sk} (h : sk ≠ []) : (∃ e3, sk = [e3]) ∨ (∃ e3 e2, sk = [e3, e2]) ∨ ∃ e3 e2 e1 r, sk = e3 :: e2 :: e1 :: r := by
  match sk, h with
  | [e3], _ => exact .inl ⟨_, rfl⟩
  | [e3, e2], _ => exact .inr (.inl ⟨_, _, rfl⟩)
  | e3 :: e2 :: e1 :: r, _ => exact .inr (.inr ⟨_, _, _, _, rfl⟩)
theorem sk_two {sk : Sk} (h : sk ≠ []) : (∃ e3, sk = [e3]) ∨ ∃ e3 e2 r, sk = e3 :: e2 :: r := by
  match sk, h with
  | [e3], _ => exact .inl ⟨_, rfl⟩
  | e3 :: e2 :: r, _ => exact .inr ⟨_, _, _, rfl⟩
theorem esc3_true {lv : Lvs} {sk : Sk} (h : esc3 lv sk = true) : ∃ e3 e2 e1 r, sk = e3 :: e2 :: e1 :: r := by
  match sk, h with
  | e3 :: e2 :: e1 :: r, _ => exact ⟨_, _, _, _, rfl⟩
/-- what the outer loop holds on to -/
structure Jf04 (T : List Nat) (SK L : Addr) (k : Nat) (ρ : Loc) (ω : Own) : Prop where
  lives : get ρ (Str.ofString "lives") = some (refD L)
  stack : get ρ (Str.ofString "stack") = some (refD SK)
  figs : get ρ (Str.ofString "figures") = some (.str figL)
  ex : ∃ A, A.length = T.length ∧ ω = om SK L (runF (T.map leafL) k).2.1 A ∧ lvA A = (runF (T.map leafL) k).1 ∧ get ρ (Str.ofString "gap") = some (.int (runF (T.map leafL) k).2.2)
/-- what the inner loop holds on to -/
structure Ji04 (l : Nat) (SK L : Addr) (F : Lvs × Sk × Nat) (m : Nat) (ρ2 : Loc) (ω2 : Own) : Prop where
  lives : get ρ2 (Str.ofString "lives") = some (refD L)
  stack : get ρ2 (Str.ofString "stack") = some (refD SK)
  figs : get ρ2 (Str.ofString "figures") = some (.str figL)
  ex : ∃ A sk, A.length = l ∧ ω2 = om SK L sk A ∧
      ((get ρ2 (Str.ofString "busy") = some (.bool true) ∧ get ρ2 (Str.ofString "gap") = some (.int 0) ∧ sk ≠ [] ∧ m = sk.length + 1 ∧ ∃ b n, FI b b (lvA A) sk ∧ sk.length ≤ n ∧ b + n ≤ 100000 ∧ settle n (lvA A) sk = F) ∨
       (get ρ2 (Str.ofString "busy") = some (.bool false) ∧ m = 0 ∧ ∃ g : Nat, get ρ2 (Str.ofString "gap") = some (.int g) ∧ F = (lvA A, sk, g)))
theorem lives04 {C : Cx} {K : D → Prop} (B : B04 C) (room : Room C.A 1) {T : List Nat} (hT : ∀ c ∈ T, c < 256) (hl : T.length ≤ 201) (h : K (lvD (runF (T.map leafL) T.length).1)) : DoC C (.ref 39) [.str T] K := by
  refine enter' (l := 0) B.G room [(Str.ofString "text", .str T)] ⟨⟨_, B.X 39 _ rfl, rfl⟩, codeRec_of B.X rfl, rfl, rfl, rfl, rfl, rfl, rfl, rfl⟩ ?_ ?_ ?_
  · intro Z s vs U ia
    cases ia with | cons i0 r0 => cases r0; exact ⟨[(Str.ofString "text", _)], BindsTo.of_eq rfl, rfl, .cons i0 .nil, by simp only [List.map_cons, List.map_nil]; decide +kernel⟩
  · intro n x hx
    simp only [List.map_cons, List.map_nil, List.mem_cons, List.not_mem_nil, or_false] at hx
    subst hx; exact Or.inl rfl
  intro C' ok kin hN hcl
  dsimp only at hN
  have B := B.kin kin
  replace hcl := hcl _ rfl
  replace hcl : C'.env.cells = [(Str.ofString "lives", C'.env.locals + 1)] := hcl
  have mg_chr := B.g_chr
  have mg_len := B.g_len
  have mg_max := B.g_max
  have mg_range := B.g_range
  have k_text : C'.env.kindOf (Str.ofString "text") = some .local := kind_of hN rfl
  have k_figures : C'.env.kindOf (Str.ofString "figures") = some .local := kind_of hN rfl
  have k_lives : C'.env.kindOf (Str.ofString "lives") = some .cell := kind_of hN rfl
  have k_stack : C'.env.kindOf (Str.ofString "stack") = some .local := kind_of hN rfl
  have k_gap : C'.env.kindOf (Str.ofString "gap") = some .local := kind_of hN rfl
  have k_place : C'.env.kindOf (Str.ofString "place") = some .local := kind_of hN rfl
  have k_range : C'.env.kindOf (Str.ofString "range") = some .globalImplicit := kind_of hN rfl
  have k_len : C'.env.kindOf (Str.ofString "len") = some .globalImplicit := kind_of hN rfl
  have k_busy : C'.env.kindOf (Str.ofString "busy") = some .local := kind_of hN rfl
  have k_tops : C'.env.kindOf (Str.ofString "tops") = some .local := kind_of hN rfl
  have k_signs : C'.env.kindOf (Str.ofString "signs") = some .local := kind_of hN rfl
  have k_third : C'.env.kindOf (Str.ofString "third") = some .local := kind_of hN rfl
  have k_second : C'.env.kindOf (Str.ofString "second") = some .local := kind_of hN rfl
  have k_when : C'.env.kindOf (Str.ofString "when") = some .local := kind_of hN rfl
  have k_max : C'.env.kindOf (Str.ofString "max") = some .globalImplicit := kind_of hN rfl
  have k_stage : C'.env.kindOf (Str.ofString "stage") = some .local := kind_of hN rfl
  have k_octet : C'.env.kindOf (Str.ofString "octet") = some .local := kind_of hN rfl
  have k_chr : C'.env.kindOf (Str.ofString "chr") = some .globalImplicit := kind_of hN rfl
  have k_line : C'.env.kindOf (Str.ofString "line") = some .local := kind_of hN rfl
  have k_blank : C'.env.kindOf (Str.ofString "blank") = some .local := kind_of hN rfl
  have k_seen : C'.env.kindOf (Str.ofString "seen") = some .local := kind_of hN rfl
  have k_soft : C'.env.kindOf (Str.ofString "soft") = some .local := kind_of hN rfl
  clear kin hN
  have lit_0 : (Str.ofString "0123456789abcdef").cps.toList = [48, 49, 50, 51, 52, 53, 54, 55, 56, 57, 97, 98, 99, 100, 101, 102] := by decide +kernel
  have lit_1 : (Str.ofString "=").cps.toList = [61] := by decide +kernel
  have lit_2 : (Str.ofString " ").cps.toList = [32] := by decide +kernel
  have lit_3 : (Str.ofString "\n").cps.toList = [10] := by decide +kernel
  have lit_f : (Str.ofString "0123456789abcdef").cps.toList = figL := by decide +kernel
  refine exs_cons (ex_assign ok (by walk_at "m_stor") (pe_strL lit_f ?_) rfl)
  dsimp only
  refine exs_cons (ex_assign_own ok (compOk0 (by rw [hcl]; rfl) (by decide +kernel) rfl (by decide +kernel) rfl) (by walk_at "m_stor") ?_ (by intro _; rfl) (by intro _; rfl) ?_)
  rotate_left
  · unfold swapsWith
    dsimp only
    rw [k_lives]
    have hb : C'.env.blockKind = .function := by unfold Env.blockKind; rw [ok.kind]; rfl
    rw [hb]
    rfl
  walk_at "m"
  refine ⟨_, rfl, by simp only [List.length_map, lim]; omega, leafD, ?_, ?_⟩
  · intro d hd
    obtain ⟨c, hc, rfl⟩ := List.mem_map.mp hd
    refine ⟨by simp [leafD, Atom], by simp [leafD, lim], fun n => ?_⟩
    refine in_pl ok rfl fun C2 ok2 kin2 hK => ?_
    have k2_sign : C2.env.kindOf (Str.ofString "sign") = some .local := hK.same rfl (by decide)
    clear ok
    repeat (walk_at "m")
    rfl
  intro L ad had
  rw [List.length_map] at had
  obtain ⟨e1, e2⟩ := AL0_om had
  rw [e1, List.append_nil, show (ad.map fun a => D.val (.ref a.1)) = (AL0 ad T).map fun p => refD p.1 from e2]
  dsimp only
  refine exs_cons ?_
  walk_at "m_new"
  refine pl_nil ⟨by simp [lim], fun SK _ => ?_⟩
  dsimp only
  refine exs_cons ?_
  walk_at "m_asg"
  refine pe_int ?_
  dsimp only
  have hlv0 := AL0_lv had
  have hAl0 : (AL0 ad T).length = T.length := by rw [← lvA_len, hlv0, List.length_map]
  generalize AL0 ad T = A0 at *
  refine exs_cons (ex_for ok (by walk_at "m_stor") (Pe.mono (K := fun d => d = .rng 0 T.length 1) ?_ ?_) (by intro _; rfl))
  · repeat (walk_at "m")
    refine doc_len_str (by simp only [lim]; omega) ?_
    repeat (walk_at "m")
    exact doc_range1 rfl
  rintro d rfl
  refine ⟨_, rng_up false T.length (by simp only [lim]; omega), Jf04 T SK L, ?_, ?_, ?_⟩
  · exact ⟨by walk_at "m_get", by walk_at "m_get", by walk_at "m_get", ⟨A0, hAl0, rfl, hlv0, by walk_at "m_get"⟩⟩
  · rintro k d ρ' ω' hk ⟨g1, g2, g3, ⟨A, hA, rfl, hlv, g4⟩⟩
    obtain ⟨hkl, rfl⟩ : k < T.length ∧ d = .int k := by
      obtain ⟨h1, h2⟩ := List.getElem?_eq_some_iff.mp hk
      simp at h1 h2
      exact ⟨h1, h2.symm⟩
    obtain ⟨f1, f2, f3⟩ := run_FI hT k (by omega)
    have hF : runF (T.map leafL) (k + 1) = settle ((runF (T.map leafL) k).2.1.length + 1) (lvA A) ((k, (runF (T.map leafL) k).2.2) :: (runF (T.map leafL) k).2.1) := by rw [runF, pushF, hlv]
    have hkk : k * (k + 1) ≤ 201 * 202 := Nat.mul_le_mul (by omega) (by omega)
    rw [← hlv] at f1
    obtain ⟨F, hFe⟩ : ∃ F, F = runF (T.map leafL) (k + 1) := ⟨_, rfl⟩
    rw [← hFe] at hF
    generalize (runF (T.map leafL) k).2.1 = sk at *
    generalize (runF (T.map leafL) k).2.2 = gap at *
    refine exs_cons ?_
    refine ex_append ?_ rfl rfl rfl rfl rfl (inter (by assumption)) rfl
    repeat (walk_at "m")
    refine ⟨SK, _, rfl, get_SK, by simp only [List.length_reverse, List.length_map, lim]; omega, ?_⟩
    refine pe_list ?_
    repeat (walk_at "m")
    refine ⟨by simp [lim], ?_⟩
    rw [set_SK (sk' := (k, gap) :: sk) (by simp [entD])]
    dsimp only
    have fi : FI (k * (k + 1)) (k * (k + 1)) (lvA A) ((k, gap) :: sk) := ⟨f1.pl, fun e he => by
      rcases List.mem_cons.mp he with rfl | he
      · exact ⟨by rw [lvA_len]; omega, f2⟩
      · exact f1.sk e he, f1.tot⟩
    have hne : ((k, gap) :: sk : Sk) ≠ [] := by simp
    have hn : ((k, gap) :: sk).length ≤ sk.length + 1 := by simp
    have hb : k * (k + 1) + (sk.length + 1) ≤ 100000 := by omega
    generalize (k, gap) :: sk = sk0 at *
    generalize sk.length + 1 = n0 at *
    generalize k * (k + 1) = b0 at *
    clear f1 f2 f3 hlv hk hkl hlv0 hAl0 e1 e2
    repeat (walk_at "m")
    refine ex_while (Ji04 T.length SK L F) _
      ⟨by walk_at "m_get", by walk_at "m_get", by walk_at "m_get", ⟨A, sk0, hA, rfl, .inl ⟨by walk_at "m_get", by walk_at "m_get", hne, rfl, b0, n0, fi, hn, hb, hF.symm⟩⟩⟩ ?_
    clear fi hn hb hne hF hA g1 g2 g3 g4 hkk
    rintro m ρ2 ω2 ⟨g1, g2, g3, ⟨A, sk, hA, rfl, hc⟩⟩
    rcases hc with ⟨g5, g6, hne, rfl, b, n, fi, hn, hb, hF⟩ | ⟨g5, rfl, g, g6, hF⟩
    case inr =>
      repeat (walk_at "m")
      refine ⟨g1, g2, g3, ⟨A, hA, ?_, ?_, ?_⟩⟩
      · rw [← hFe, hF]
      · rw [← hFe, hF]
      · rw [← hFe, hF]; exact g6
    repeat (walk_at "m")
    obtain ⟨n, rfl⟩ : ∃ n', n = n' + 1 := ⟨n - 1, by have := List.length_pos_iff.mpr hne; omega⟩
    rw [settle] at hF
    obtain ⟨fo1, fo2, fo3, fo4⟩ := fi.one
    refine ex_nodup fun nd => ?_
    have hAl : (A.map fun p => refD p.1).length ≤ lim := by simp only [List.length_map, lim]; omega
    have hskl : ((sk.map entD).reverse).length ≤ lim := by simp only [List.length_reverse, List.length_map, lim]; omega
    have hplc : ∀ e ∈ sk, e.1 < A.length := fun e he => by have := (fi.sk e he).1; rw [lvA_len] at this; exact this
    have hts : ∀ e ∈ sk, getO (om SK L sk A) (topA A e.1) = some (stD (topS (lvA A) e.1)) := fun e he => by
      obtain ⟨X, p, r, q, s, Y, sp⟩ := spl fi (hplc e he)
      rw [sp.topA, sp.topS]; exact sp.getS nd
    refine ex_assign_compT ok (compOk1 (by rw [hcl]; rfl) (by decide +kernel) rfl (by decide +kernel) rfl k_lives (by rw [hcl]; rfl) rfl) (by walk_at "m_stor") ?_ (by intro _; rfl) (swaps_comp ok (by assumption) rfl rfl)
    repeat (walk_at "m")
    refine ⟨_, get_SK, hskl, ?_⟩
    have esl : sl (sk.map entD).reverse (some (-3)) none = ((sk.take 3).reverse).map entD := by
      have := sl_rev (sk.map entD) 3 (by decide)
      rw [show (-((3 : Nat) : Int)) = -3 from rfl] at this
      rw [this, List.map_reverse, List.map_take]
    rw [esl]
    clear esl
    have hmem3 : ∀ e ∈ (sk.take 3).reverse, e ∈ sk := fun e he => List.mem_of_mem_take (List.mem_reverse.mp he)
    have hl3 : (sk.take 3).length ≤ 3 := by rw [List.length_take]; omega
    refine ⟨_, rfl, by simp only [List.length_map, List.length_reverse, lim]; omega, gTop A, ?_, ?_⟩
    · intro d hd n2
      obtain ⟨e, he, rfl⟩ := List.mem_map.mp hd
      obtain ⟨X, p, r, q, s, Y, sp⟩ := spl fi (hplc e (hmem3 e he))
      have hpl2 := fi.tot
      refine in_pi ok rfl fun C2 ok2 kin2 hK => ?_
      have B := B.kin kin2
      have k2_entry : C2.env.kindOf (Str.ofString "entry") = some .local := hK.same rfl (by decide)
      have k2_lives : C2.env.kindOf (Str.ofString "lives") = some .cell := hK.cell rfl (by with_reducible assumption)
      clear ok
      repeat (walk_at "m")
      refine ⟨by simp [lim], ?_⟩
      refine ⟨_, _, get_L nd, idx_of sp.idx, hAl, ?_⟩
      repeat (walk_at "m")
      refine ⟨_, refD q, sp.getP nd, by rw [idx_last _ (by simp)]; simp, ?_, ?_⟩
      · have hm : (r.map (·.2) ++ [s]) ∈ lvA A := by rw [sp.lv]; simp
        have := mem_sum (List.mem_map.mpr ⟨_, hm, rfl⟩ : (r.map (·.2) ++ [s]).length ∈ (lvA A).map List.length)
        rw [lvA_len] at hpl2
        simp only [List.length_append, List.length_map, List.length_cons, List.length_nil, lim] at this ⊢
        omega
      · show some (refD q) = some (refD (topA A ((e.1 : Int)).toNat))
        rw [Int.toNat_natCast, sp.topA]
    rw [fm_all _ entD (fun e => refD (topA A e.1)) (gTop A) (fun e _ => by show some (refD (topA A ((e.1 : Int)).toNat)) = _; rw [Int.toNat_natCast])]
    dsimp only
    refine exs_cons (ex_assign_compT ok (compOk0 (by rw [hcl]; rfl) (by decide +kernel) rfl (by decide +kernel) rfl) (by walk_at "m_stor") ?_ (by intro _; rfl) (swaps_comp ok (by assumption) rfl rfl))
    walk_at "m"
    refine ⟨_, rfl, by simp only [List.length_map, List.length_reverse, lim]; omega, gFld (om SK L sk A) 0, ?_, ?_⟩
    · intro d hd n2
      obtain ⟨e, he, rfl⟩ := List.mem_map.mp hd
      have hg := hts e (hmem3 e he)
      refine in_pi ok rfl fun C2 ok2 kin2 hK => ?_
      have B := B.kin kin2
      have k2_stage : C2.env.kindOf (Str.ofString "stage") = some .local := hK.same rfl (by decide)
      clear ok
      repeat (walk_at "m")
      refine ⟨_, .str [(topS (lvA A) e.1).1], hg, rfl, by simp [stD, lim], ?_⟩
      show _ = (getO (om SK L sk A) (topA A e.1)).bind _
      rw [hg]; rfl
    rw [fm_all ((sk.take 3).reverse) (fun e => refD (topA A e.1)) (fun e => D.str [(topS (lvA A) e.1).1]) (gFld (om SK L sk A) 0) (fun e he => by
      show (getO (om SK L sk A) (topA A e.1)).bind _ = _
      rw [hts e (hmem3 e he)]; rfl)]
    dsimp only
    have t256 : ∀ e : Nat × Nat, (topS (lvA A) e.1).1 < 256 := fun e => (fi.top e.1).1
    have tlim : ∀ e : Nat × Nat, (topS (lvA A) e.1).2.1 ≤ b := fun e => (fi.top e.1).2
    generalize hρ3 : put (put (put ρ2 (Str.ofString "busy") _) (Str.ofString "tops") _) (Str.ofString "signs") _ = ρ3
    have v1 : get ρ3 (Str.ofString "lives") = some (refD L) := by rw [← hρ3]; walk_at "m_get"
    have v2 : get ρ3 (Str.ofString "stack") = some (refD SK) := by rw [← hρ3]; walk_at "m_get"
    have v3 : get ρ3 (Str.ofString "figures") = some (.str figL) := by rw [← hρ3]; walk_at "m_get"
    have v4 : get ρ3 (Str.ofString "gap") = some (.int 0) := by rw [← hρ3]; walk_at "m_get"
    have v5 : get ρ3 (Str.ofString "busy") = some (.bool false) := by rw [← hρ3]; walk_at "m_get"
    have v6 : get ρ3 (Str.ofString "tops") = some (.list ((sk.take 3).reverse.map fun e => refD (topA A e.1))) := by rw [← hρ3]; walk_at "m_get"
    have v7 : get ρ3 (Str.ofString "signs") = some (.list ((sk.take 3).reverse.map fun e => .str [(topS (lvA A) e.1).1])) := by rw [← hρ3]; walk_at "m_get"
    clear hρ3 g1 g2 g3 g5 g6
    refine exs_cons (ex_if (pt_bool ?_))
    refine Pb.mono (K := fun z => z = esc3 (lvA A) sk) ?_ ?_
    · have hsm : ((sk.take 3).reverse.map fun e => D.str [(topS (lvA A) e.1).1]).length ≤ lim := by simp only [List.length_map, List.length_reverse, lim]; omega
      rcases sk_cases hne with ⟨e3, rfl⟩ | ⟨e3, e2, rfl⟩ | ⟨e3, e2, e1, r, rfl⟩
      · skip
        have v7 : get ρ3 (Str.ofString "signs") = some (.list [.str [(topS (lvA A) e3.1).1]]) := v7
        repeat (walk_at "m")
        refine doc_len_list (by simp [lim]) ?_
        repeat (walk_at "m")
        rfl
      · skip
        have v7 : get ρ3 (Str.ofString "signs") = some (.list [.str [(topS (lvA A) e2.1).1], .str [(topS (lvA A) e3.1).1]]) := v7
        repeat (walk_at "m")
        refine doc_len_list (by simp [lim]) ?_
        repeat (walk_at "m")
        rfl
      · skip
        have v6 : get ρ3 (Str.ofString "tops") = some (.list [refD (topA A e1.1), refD (topA A e2.1), refD (topA A e3.1)]) := v6
        have v7 : get ρ3 (Str.ofString "signs") = some (.list [.str [(topS (lvA A) e1.1).1], .str [(topS (lvA A) e2.1).1], .str [(topS (lvA A) e3.1).1]]) := v7
        have q1 := t256 e1
        have q2 := t256 e2
        have q3 := t256 e3
        simp only [esc3]
        obtain ⟨c1, ec1⟩ : ∃ c, c = (topS (lvA A) e1.1).1 := ⟨_, rfl⟩
        obtain ⟨c2, ec2⟩ : ∃ c, c = (topS (lvA A) e2.1).1 := ⟨_, rfl⟩
        obtain ⟨c3, ec3⟩ : ∃ c, c = (topS (lvA A) e3.1).1 := ⟨_, rfl⟩
        rw [← ec1, ← ec2, ← ec3] at v7 ⊢
        rw [← ec1] at q1
        rw [← ec2] at q2
        rw [← ec3] at q3
        have w2 := (lw_fig ⟨c2, q2⟩).1
        have w3 := (lw_fig ⟨c3, q3⟩).1
        repeat (walk_at "m")
        refine doc_len_list (by simp [lim]) ?_
        repeat (walk_at "m")
        refine ⟨by simp [lim], ?_⟩
        repeat (walk_at "m")
        refine ite_dec (fun z1 => ?_) (fun z1 => ?_)
        · have z1' : c1 = 61 := by simpa using z1
          repeat (walk_at "m")
          refine ⟨by simp [lim], ?_⟩
          repeat (walk_at "m")
          refine doc_lower q2 ?_
          repeat (walk_at "m")
          refine ite_dec (fun z2 => ?_) (fun z2 => ?_)
          · have z2' : c2 ∈ hexL := w2.mp z2
            repeat (walk_at "m")
            refine ⟨by simp [lim], ?_⟩
            repeat (walk_at "m")
            refine doc_lower q3 ?_
            repeat (walk_at "m")
            refine ite_dec (fun z3 => ?_) (fun z3 => ?_)
            · have z3' : c3 ∈ hexL := w3.mp z3
              repeat (walk_at "m")
              exact (decide_eq_true ⟨z1', z2', z3'⟩).symm
            · exact (decide_eq_false fun z => z3 (w3.mpr z.2.2)).symm
          · exact (decide_eq_false fun z => z2 (w2.mpr z.2.1)).symm
        · exact (decide_eq_false fun z => z1 (by rw [z.1])).symm
    rintro z rfl
    cases hE : esc3 (lvA A) sk with
    | true =>
      refine ite_t ?_
      obtain ⟨e3, e2, e1, r, rfl⟩ := esc3_true hE
      · skip
        have hcond := of_decide_eq_true hE
        have v6 : get ρ3 (Str.ofString "tops") = some (.list [refD (topA A e1.1), refD (topA A e2.1), refD (topA A e3.1)]) := v6
        have v7 : get ρ3 (Str.ofString "signs") = some (.list [.str [(topS (lvA A) e1.1).1], .str [(topS (lvA A) e2.1).1], .str [(topS (lvA A) e3.1).1]]) := v7
        have hone : one (lvA A) (e3 :: e2 :: e1 :: r) = (add (die (die (die (lvA A) e1.1 (wh3 (lvA A) e1 e2 e3)) e2.1 (wh3 (lvA A) e1 e2 e3)) e3.1 (wh3 (lvA A) e1 e2 e3)) e1.1 (hv (topS (lvA A) e2.1).1 * 16 + hv (topS (lvA A) e3.1).1, wh3 (lvA A) e1 e2 e3, -1), e1 :: r, 0, true) := by
          simp only [one, if_pos hcond]
        rw [hone] at hF fo1 fo4
        simp only [if_true] at hF
        have ndk : ∀ sk', ((om SK L sk' A).map (·.1)).Nodup := fun _ => nd
        have hgS : ∀ e ∈ e3 :: e2 :: e1 :: r, ∀ sk', getO (om SK L sk' A) (topA A e.1) = some (stD (topS (lvA A) e.1)) := fun e he sk' => by
          obtain ⟨X, p, r, q, s, Y, sp⟩ := spl fi (hplc e he)
          rw [sp.topA, sp.topS]; exact sp.getS (ndk sk')
        have hm1 : e1 ∈ e3 :: e2 :: e1 :: r := .tail _ (.tail _ (.head _))
        have hm2 : e2 ∈ e3 :: e2 :: e1 :: r := .tail _ (.head _)
        have hm3 : e3 ∈ e3 :: e2 :: e1 :: r := .head _
        have hrl : r.length ≤ 100000 := by simp only [List.length_cons] at hn; omega
        refine exs_cons (ex_popA ok (by walk_at "m_stor") ?_ rfl rfl rfl)
        walk_at "m"
        refine ⟨SK, ((e2 :: e1 :: r).map entD).reverse, entD e3, rfl, by rw [get_SK]; simp, by simp only [List.length_reverse, List.length_map, List.length_cons, lim]; omega, ?_⟩
        rw [set_SK rfl]
        dsimp only
        refine exs_cons (ex_popA ok (by walk_at "m_stor") ?_ rfl rfl rfl)
        walk_at "m"
        refine ⟨SK, ((e1 :: r).map entD).reverse, entD e2, rfl, by rw [get_SK]; simp, by simp only [List.length_reverse, List.length_map, List.length_cons, lim]; omega, ?_⟩
        rw [set_SK rfl]
        dsimp only
        obtain ⟨W, hW⟩ : ∃ W, W = wh3 (lvA A) e1 e2 e3 := ⟨_, rfl⟩
        rw [← hW] at hF fo1
        have hWb : W ≤ b + 1 := by rw [hW]; exact wh3_le (tlim e1) (tlim e2) (tlim e3) (fi.sk e2 hm2).2 (fi.sk e3 hm3).2
        refine exs_cons (ex_assign ok (by walk_at "m_stor") (Pe.mono (K := fun d => d = .int (W : Int)) ?_ ?_) rfl)
        · refine pe_bin (pe_int (pe_call ?_ rfl rfl))
          repeat (walk_at "m")
          refine pe_compT ok (compOk0 (by rw [hcl]; rfl) (by decide +kernel) rfl (by decide +kernel) rfl) ?_ (by intro _; rfl)
          walk_at "m"
          have hg3 : ∀ e ∈ [e1, e2, e3], getO (om SK L (e1 :: r) A) (topA A e.1) = some (stD (topS (lvA A) e.1)) := fun e he => by
            simp only [List.mem_cons, List.not_mem_nil, or_false] at he
            rcases he with rfl | rfl | rfl
            · exact hgS _ hm1 _
            · exact hgS _ hm2 _
            · exact hgS _ hm3 _
          refine ⟨_, rfl, by simp [lim], gFld (om SK L (e1 :: r) A) 1, ?_, ?_⟩
          · intro d hd n2
            obtain ⟨e, he, rfl⟩ : ∃ e ∈ [e1, e2, e3], d = refD (topA A e.1) := by
              simp only [List.mem_cons, List.not_mem_nil, or_false] at hd
              rcases hd with rfl | rfl | rfl
              · exact ⟨e1, by simp, rfl⟩
              · exact ⟨e2, by simp, rfl⟩
              · exact ⟨e3, by simp, rfl⟩
            have hg := hg3 e he
            refine in_pi ok rfl fun C2 ok2 kin2 hK => ?_
            have B := B.kin kin2
            have k2_stage : C2.env.kindOf (Str.ofString "stage") = some .local := hK.same rfl (by decide)
            clear ok
            repeat (walk_at "m")
            refine ⟨_, .int (topS (lvA A) e.1).2.1, hg, rfl, by simp [stD, lim], ?_⟩
            show _ = (getO (om SK L (e1 :: r) A) (topA A e.1)).bind _
            rw [hg]; rfl
          have hfm : ([refD (topA A e1.1), refD (topA A e2.1), refD (topA A e3.1)] : List D).filterMap (gFld (om SK L (e1 :: r) A) 1) = [.int (topS (lvA A) e1.1).2.1, .int (topS (lvA A) e2.1).2.1, .int (topS (lvA A) e3.1).2.1] := by
            have := fm_all [e1, e2, e3] (fun e => refD (topA A e.1)) (fun e => D.int (topS (lvA A) e.1).2.1) (gFld (om SK L (e1 :: r) A) 1) (fun e he => by
              show (getO (om SK L (e1 :: r) A) (topA A e.1)).bind _ = _
              rw [hg3 e he]; rfl)
            simpa using this
          rw [hfm]
          refine pe_list ?_
          repeat (walk_at "m")
          refine ⟨by simp [lim], ?_⟩
          repeat (walk_at "m")
          refine ⟨by simp [lim], ?_⟩
          repeat (walk_at "m")
          refine ⟨by simp [lim], ?_⟩
          refine do_add_list (by simp [lim]) ?_
          repeat (walk_at "m")
          refine doc_max (ns := [((topS (lvA A) e1.1).2.1 : Int), ((topS (lvA A) e2.1).2.1 : Int), ((topS (lvA A) e3.1).2.1 : Int), (e2.2 : Int), (e3.2 : Int)]) ok.room.hd (by simp) fun M hM1 hM2 => ?_
          refine do_add_int ?_
          have : (W : Int) = 1 + M := by rw [hW]; exact wh3_max hM1 hM2
          rw [this]
        rintro d rfl
        dsimp only
        have fb : FI (b + 1) b (lvA A) (e3 :: e2 :: e1 :: r) := fi.mono (Nat.le_succ b) (Nat.le_refl b)
        have l1 := hplc e1 hm1
        have l2 := hplc e2 hm2
        have l3 := hplc e3 hm3
        have cA : ∃ A1 A2 A3, A1 = dieA A e1.1 W ∧ A2 = dieA A1 e2.1 W ∧ A3 = dieA A2 e3.1 W := ⟨_, _, _, rfl, rfl, rfl⟩
        obtain ⟨A1, A2, A3, eA1, eA2, eA3⟩ := cA
        have lA1 : A1.length = A.length := by rw [eA1, len_dieA]
        have lA2 : A2.length = A.length := by rw [eA2, len_dieA, lA1]
        have lA3 : A3.length = A.length := by rw [eA3, len_dieA, lA2]
        obtain ⟨X1, p1, r1, q1, s1, Y1, sp1⟩ := spl fb l1
        have lv1 : lvA A1 = die (lvA A) e1.1 W := by rw [eA1]; exact lv_dieA sp1
        have tp1 : ∀ j, topA A1 j = topA A j := fun j => by rw [eA1]; exact top_dieA sp1
        have f1 : FI (b + 1) b (lvA A1) (e3 :: e2 :: e1 :: r) := by rw [lv1]; exact fb.die _ hWb
        obtain ⟨X2, p2, r2, q2, s2, Y2, sp2⟩ := spl f1 (show e2.1 < A1.length by omega)
        have lv2 : lvA A2 = die (lvA A1) e2.1 W := by rw [eA2]; exact lv_dieA sp2
        have tp2 : ∀ j, topA A2 j = topA A j := fun j => by rw [eA2]; exact (top_dieA sp2).trans (tp1 j)
        have f2 : FI (b + 1) b (lvA A2) (e3 :: e2 :: e1 :: r) := by rw [lv2]; exact f1.die _ hWb
        obtain ⟨X3, p3, r3, q3, s3, Y3, sp3⟩ := spl f2 (show e3.1 < A2.length by omega)
        have lv3 : lvA A3 = die (lvA A2) e3.1 W := by rw [eA3]; exact lv_dieA sp3
        have f3 : FI (b + 1) b (lvA A3) (e3 :: e2 :: e1 :: r) := by rw [lv3]; exact f2.die _ hWb
        refine exs_cons (ex_for ok (by walk_at "m_stor") ?_ (by intro _; rfl))
        walk_at "m"
        refine ⟨_, rfl, fun i ρ4 ω4 => get ρ4 (Str.ofString "lives") = some (refD L) ∧ get ρ4 (Str.ofString "stack") = some (refD SK) ∧ get ρ4 (Str.ofString "figures") = some (.str figL) ∧ get ρ4 (Str.ofString "gap") = some (.int 0) ∧
          get ρ4 (Str.ofString "signs") = some (.list [.str [(topS (lvA A) e1.1).1], .str [(topS (lvA A) e2.1).1], .str [(topS (lvA A) e3.1).1]]) ∧ get ρ4 (Str.ofString "when") = some (.int (W : Int)) ∧
          ω4 = om SK L (e1 :: r) (match i with | 0 => A | 1 => A1 | 2 => A2 | _ => A3), ?_, ?_, ?_⟩
        · exact ⟨by walk_at "m_get", by walk_at "m_get", by walk_at "m_get", by walk_at "m_get", by walk_at "m_get", by walk_at "m_get", rfl⟩
        · rintro i d ρ4 ω4 hi ⟨vv1, vv2, vv3, vv4, vv5, vv6, rfl⟩
          refine exs_nodup fun nd3 => ?_
          match i, hi, nd3 with
          | 0, hi, nd3 =>
            cases hi
            show Exs C' _ (om SK L (e1 :: r) A) _ _
            obtain ⟨s, y1, y2, _⟩ := die_step fb l1 hWb nd3
            refine exs_cons (ex_setitem ?_ rfl)
            repeat (walk_at "m")
            refine ⟨_, _, rfl, y1, by simp [stD, lim], ?_⟩
            repeat (walk_at "m")
            refine ⟨2, 2, rfl, rfl, ?_⟩
            dsimp only
            rw [y2, ← eA1]
            repeat (walk_at "m")
            exact ⟨by walk_at "m_get", by walk_at "m_get", by walk_at "m_get", by walk_at "m_get", by walk_at "m_get", by walk_at "m_get", rfl⟩
          | 1, hi, nd3 =>
            cases hi
            show Exs C' _ (om SK L (e1 :: r) A1) _ _
            obtain ⟨s, y1, y2, _⟩ := die_step f1 (show e2.1 < A1.length by omega) hWb nd3
            rw [tp1] at y1 y2
            refine exs_cons (ex_setitem ?_ rfl)
            repeat (walk_at "m")
            refine ⟨_, _, rfl, y1, by simp [stD, lim], ?_⟩
            repeat (walk_at "m")
            refine ⟨2, 2, rfl, rfl, ?_⟩
            dsimp only
            rw [y2, ← eA2]
            repeat (walk_at "m")
            exact ⟨by walk_at "m_get", by walk_at "m_get", by walk_at "m_get", by walk_at "m_get", by walk_at "m_get", by walk_at "m_get", rfl⟩
          | 2, hi, nd3 =>
            cases hi
            show Exs C' _ (om SK L (e1 :: r) A2) _ _
            obtain ⟨s, y1, y2, _⟩ := die_step f2 (show e3.1 < A2.length by omega) hWb nd3
            rw [tp2] at y1 y2
            refine exs_cons (ex_setitem ?_ rfl)
            repeat (walk_at "m")
            refine ⟨_, _, rfl, y1, by simp [stD, lim], ?_⟩
            repeat (walk_at "m")
            refine ⟨2, 2, rfl, rfl, ?_⟩
            dsimp only
            rw [y2, ← eA3]
            repeat (walk_at "m")
            exact ⟨by walk_at "m_get", by walk_at "m_get", by walk_at "m_get", by walk_at "m_get", by walk_at "m_get", by walk_at "m_get", rfl⟩
          | j + 3, hi, nd3 => simp at hi
        · rintro ρ4 ω4 ⟨vv1, vv2, vv3, vv4, vv5, vv6, rfl⟩
          show Exs C' ρ4 (om SK L (e1 :: r) A3) _ _
          obtain ⟨c2, ec2⟩ : ∃ c, c = (topS (lvA A) e2.1).1 := ⟨_, rfl⟩
          obtain ⟨c3, ec3⟩ : ∃ c, c = (topS (lvA A) e3.1).1 := ⟨_, rfl⟩
          rw [← ec2, ← ec3] at hcond hF fo1 vv5
          have h2 := hcond.2.1
          have h3 := hcond.2.2
          have u2 := hv16 _ h2
          have u3 := hv16 _ h3
          refine exs_cons (ex_assign ok (by walk_at "m_stor") (Pe.mono (K := fun d => d = .int ((hv c2 * 16 + hv c3 : Nat) : Int)) ?_ ?_) rfl)
          · repeat (walk_at "m")
            refine ⟨by simp [lim], ?_⟩
            repeat (walk_at "m")
            refine doc_lower_hex h2 ?_
            repeat (walk_at "m")
            refine doc_index_hex h2 ?_
            refine do_mul_int (by decide) (by omega) ?_
            repeat (walk_at "m")
            refine ⟨by simp [lim], ?_⟩
            repeat (walk_at "m")
            refine doc_lower_hex h3 ?_
            repeat (walk_at "m")
            refine doc_index_hex h3 ?_
            repeat (walk_at "m")
            congr 1; omega
          rintro d rfl
          dsimp only
          refine exs_nodup fun nd3 => ?_
          obtain ⟨X4, p4, r4, q4, s4, Y4, sp4⟩ := spl f3 (show e1.1 < A3.length by omega)
          have hpl4 := f3.tot
          have lim4 : ((r4 ++ [(q4, s4)]).map fun q => refD q.1).length ≤ lim := by
            have hm : (r4.map (·.2) ++ [s4]) ∈ lvA A3 := by rw [sp4.lv]; simp
            have := mem_sum (List.mem_map.mpr ⟨_, hm, rfl⟩ : (r4.map (·.2) ++ [s4]).length ∈ (lvA A3).map List.length)
            rw [lvA_len] at hpl4
            simp only [List.length_append, List.length_map, List.length_cons, List.length_nil, lim] at this ⊢
            omega
          refine exs_cons (ex_appendN ?_ rfl rfl rfl rfl rfl (inter ok) rfl)
          repeat (walk_at "m")
          refine ⟨_, entD e1, get_SK, by rw [idx_last _ (by simp)]; simp, by simp only [List.length_reverse, List.length_map, List.length_cons, lim]; omega, ?_⟩
          repeat (walk_at "m")
          refine ⟨by simp [lim], ?_⟩
          refine ⟨_, _, get_L nd3, idx_of sp4.idx, by simp only [List.length_map, lim]; omega, ?_⟩
          refine ⟨p4, _, rfl, sp4.getP nd3, lim4, ?_⟩
          repeat (walk_at "m")
          refine doc_chr (by omega) (by omega) ?_
          rw [show ((hv c2 * 16 + hv c3 : Nat) : Int).toNat = hv c2 * 16 + hv c3 from Int.toNat_natCast _]
          repeat (walk_at "m")
          refine ⟨by simp [lim], fun bn hbn => ?_⟩
          dsimp only
          refine exs_perm (set_add (s' := (hv c2 * 16 + hv c3, W, -1)) sp4 nd3 hbn) ?_
          have lv4 : lvA (addA A3 e1.1 bn (hv c2 * 16 + hv c3, W, -1)) = add (die (die (die (lvA A) e1.1 W) e2.1 W) e3.1 W) e1.1 (hv c2 * 16 + hv c3, W, -1) := by
            rw [lv_addA sp4, lv3, lv2, lv1]
          rw [← lv4] at hF fo1
          repeat (walk_at "m")
          refine ⟨(e1 :: r).length + 1, by simp only [List.length_cons]; omega, ⟨by walk_at "m_get", by walk_at "m_get", by walk_at "m_get", ⟨_, e1 :: r, by rw [len_addA, lA3, hA], rfl, .inl ⟨by walk_at "m_get", by walk_at "m_get", by simp, rfl, b + 1, n, fo1, by simp only [List.length_cons] at hn ⊢; omega, by omega, hF⟩⟩⟩⟩
    | false =>
      refine ite_f ?_
      rw [one_two hE] at hF fo1 fo2 fo3 fo4
      rcases sk_two hne with ⟨e3, rfl⟩ | ⟨e3, e2, r, rfl⟩
      · skip
        have ho : one2 (lvA A) [e3] = (lvA A, [e3], 0, false) := rfl
        rw [ho] at hF
        simp only [Bool.false_eq_true, if_false] at hF
        have v7 : get ρ3 (Str.ofString "signs") = some (.list [.str [(topS (lvA A) e3.1).1]]) := v7
        repeat (walk_at "m")
        refine ⟨by simp [lim], ?_⟩
        refine pe_strs (parts := [[32], [10]]) (by decide +kernel) (by decide) ?_
        refine do_eq_strs (xs := [[(topS (lvA A) e3.1).1]]) (ys := [[32], [10]]) (by have := ok.room.units; omega) ?_
        rw [decide_eq_false (by simp)]
        repeat (walk_at "m")
        refine ⟨by simp [lim], ?_⟩
        refine pe_strs (parts := [[61], [10]]) (by decide +kernel) (by decide) ?_
        refine do_eq_strs (xs := [[(topS (lvA A) e3.1).1]]) (ys := [[61], [10]]) (by have := ok.room.units; omega) ?_
        rw [decide_eq_false (by simp)]
        repeat (walk_at "m")
        exact ⟨0, by omega, ⟨by walk_at "m_get", by walk_at "m_get", by walk_at "m_get", ⟨A, [e3], hA, rfl, .inr ⟨by walk_at "m_get", rfl, 0, (by show get _ _ = some (.int 0); walk_at "m_get"), hF.symm⟩⟩⟩⟩
      · skip
        have er : (List.take 3 (e3 :: e2 :: r)).reverse = (r.take 1).reverse ++ [e2, e3] := by simp
        rw [er, List.map_append] at v6 v7
        simp only [List.map_cons, List.map_nil] at v6 v7
        have hP1 : ((r.take 1).reverse.map fun e => refD (topA A e.1)).length ≤ 1 := by simp only [List.length_map, List.length_reverse, List.length_take]; omega
        have hP2 : ((r.take 1).reverse.map fun e => D.str [(topS (lvA A) e.1).1]).length ≤ 1 := by simp only [List.length_map, List.length_reverse, List.length_take]; omega
        generalize ((r.take 1).reverse.map fun e => refD (topA A e.1)) = P1 at hP1 v6
        generalize ((r.take 1).reverse.map fun e => D.str [(topS (lvA A) e.1).1]) = P2 at hP2 v7
        have ndk : ∀ sk', ((om SK L sk' A).map (·.1)).Nodup := fun _ => nd
        have hm2 : e2 ∈ e3 :: e2 :: r := .tail _ (.head _)
        have hm3 : e3 ∈ e3 :: e2 :: r := .head _
        have hgS : ∀ e ∈ e3 :: e2 :: r, ∀ sk', getO (om SK L sk' A) (topA A e.1) = some (stD (topS (lvA A) e.1)) := fun e he sk' => by
          obtain ⟨X, p, r, q, s, Y, sp⟩ := spl fi (hplc e he)
          rw [sp.topA, sp.topS]; exact sp.getS (ndk sk')
        have hrl : r.length ≤ 100000 := by simp only [List.length_cons] at hn; omega
        have l2 := hplc e2 hm2
        have l3 := hplc e3 hm3
        have z2 := tlim e2
        have z3 := tlim e3
        have y2 := (fi.sk e2 hm2).2
        have y3 := (fi.sk e3 hm3).2
        have fb : FI (b + 1) b (lvA A) (e3 :: e2 :: r) := fi.mono (Nat.le_succ b) (Nat.le_refl b)
        obtain ⟨b2, eb2⟩ : ∃ x, x = (topS (lvA A) e2.1).2.1 := ⟨_, rfl⟩
        obtain ⟨b3, eb3⟩ : ∃ x, x = (topS (lvA A) e3.1).2.1 := ⟨_, rfl⟩
        have lP1 : ∀ x y : D, (P1 ++ [x, y]).length ≤ lim := fun x y => by simp only [List.length_append, List.length_cons, List.length_nil, lim]; omega
        repeat (walk_at "m")
        refine ⟨by simp only [List.length_append, List.length_cons, List.length_nil, lim]; omega, ?_⟩
        rw [sl_two]
        refine pe_strs (parts := [[32], [10]]) (by decide +kernel) (by decide) ?_
        refine do_eq_strs (xs := [[(topS (lvA A) e2.1).1], [(topS (lvA A) e3.1).1]]) (ys := [[32], [10]]) (by have := ok.room.units; omega) ?_
        refine tr_bool (ite_dec (fun w1 => ?_) (fun w1 => ?_))
        · have w1' : (topS (lvA A) e2.1).1 = 32 ∧ (topS (lvA A) e3.1).1 = 10 := by simpa using w1
          simp only [one2, if_pos w1', if_true, ← eb2, ← eb3] at hF fo1
          refine exs_cons (ex_popA ok (by walk_at "m_stor") ?_ rfl rfl rfl)
          walk_at "m"
          refine ⟨SK, ((e2 :: r).map entD).reverse, entD e3, rfl, by rw [get_SK]; simp, by simp only [List.length_reverse, List.length_map, List.length_cons, lim]; omega, ?_⟩
          rw [set_SK rfl]
          dsimp only
          refine exs_cons (ex_popA ok (by walk_at "m_stor") ?_ rfl rfl rfl)
          walk_at "m"
          refine ⟨SK, (r.map entD).reverse, entD e2, rfl, by rw [get_SK]; simp, by simp only [List.length_reverse, List.length_map, List.length_cons, lim]; omega, ?_⟩
          rw [set_SK rfl]
          dsimp only
          obtain ⟨W, hW⟩ : ∃ W, W = max b2 (max b3 e3.2) := ⟨_, rfl⟩
          rw [← hW] at hF fo1
          refine exs_cons (ex_assign ok (by walk_at "m_stor") (Pe.mono (K := fun d => d = .int (W : Int)) ?_ ?_) rfl)
          · repeat (walk_at "m")
            refine ⟨_, idx_two2 P1 _ _, lP1 _ _, ?_⟩
            repeat (walk_at "m")
            refine ⟨_, .int (b2 : Int), hgS e2 hm2 _, by rw [eb2]; rfl, by simp [stD, lim], ?_⟩
            repeat (walk_at "m")
            refine ⟨_, idx_two1 P1 _ _, lP1 _ _, ?_⟩
            repeat (walk_at "m")
            refine ⟨_, .int (b3 : Int), hgS e3 hm3 _, by rw [eb3]; rfl, by simp [stD, lim], ?_⟩
            repeat (walk_at "m")
            refine ⟨by simp [lim], ?_⟩
            repeat (walk_at "m")
            refine doc_max3 ok.room.hd ?_
            rw [hW]
          rintro d rfl
          dsimp only
          have hWb : W + 1 ≤ b + 1 := by rw [hW, eb2, eb3]; exact Nat.succ_le_succ (Nat.max_le.mpr ⟨z2, Nat.max_le.mpr ⟨z3, y3⟩⟩)
          refine exs_nodup fun nd3 => ?_
          obtain ⟨s, x1, x2, x3, x4, x5⟩ := die_step (sk := r) fb l2 hWb nd3
          refine exs_cons (ex_setitem ?_ rfl)
          repeat (walk_at "m")
          refine ⟨_, idx_two2 P1 _ _, lP1 _ _, ?_⟩
          refine ⟨_, _, rfl, x1, by simp [stD, lim], ?_⟩
          repeat (walk_at "m")
          refine ⟨2, 2, rfl, rfl, ?_⟩
          dsimp only
          rw [show (W : Int) + 1 = ((W + 1 : Nat) : Int) by omega, x2]
          refine exs_cons ?_
          refine ex_append ?_ rfl rfl rfl rfl rfl (inter (by assumption)) rfl
          repeat (walk_at "m")
          refine ⟨SK, _, rfl, get_SK, by simp only [List.length_reverse, List.length_map, lim]; omega, ?_⟩
          refine pe_list ?_
          repeat (walk_at "m")
          refine ⟨by simp [lim], ?_⟩
          repeat (walk_at "m")
          refine ⟨by simp [lim], ?_⟩
          repeat (walk_at "m")
          refine doc_max2 ok.room.hd ?_
          repeat (walk_at "m")
          refine ⟨by simp [lim], ?_⟩
          rw [set_SK (sk' := (e3.1, max W e2.2) :: r) (by simp [entD])]
          rw [← x3] at hF fo1
          repeat (walk_at "m")
          refine ⟨((e3.1, max W e2.2) :: r).length + 1, by simp only [List.length_cons]; omega, ⟨by walk_at "m_get", by walk_at "m_get", by walk_at "m_get", ⟨_, (e3.1, max W e2.2) :: r, by rw [len_dieA, hA], rfl, .inl ⟨by walk_at "m_get", by walk_at "m_get", by simp, rfl, b + 1, n, fo1, by simp only [List.length_cons] at hn ⊢; omega, by omega, hF⟩⟩⟩⟩
        · have w1' : ¬ ((topS (lvA A) e2.1).1 = 32 ∧ (topS (lvA A) e3.1).1 = 10) := by simpa using w1
          repeat (walk_at "m")
          refine ⟨by simp only [List.length_append, List.length_cons, List.length_nil, lim]; omega, ?_⟩
          rw [sl_two]
          refine pe_strs (parts := [[61], [10]]) (by decide +kernel) (by decide) ?_
          refine do_eq_strs (xs := [[(topS (lvA A) e2.1).1], [(topS (lvA A) e3.1).1]]) (ys := [[61], [10]]) (by have := ok.room.units; omega) ?_
          refine tr_bool (ite_dec (fun w2 => ?_) (fun w2 => ?_))
          · have w2' : (topS (lvA A) e2.1).1 = 61 ∧ (topS (lvA A) e3.1).1 = 10 := by simpa using w2
            simp only [one2, if_neg w1', if_pos w2', Bool.false_eq_true, if_false, ← eb2, ← eb3] at hF fo1
            refine exs_cons (ex_popA ok (by walk_at "m_stor") ?_ rfl rfl rfl)
            walk_at "m"
            refine ⟨SK, ((e2 :: r).map entD).reverse, entD e3, rfl, by rw [get_SK]; simp, by simp only [List.length_reverse, List.length_map, List.length_cons, lim]; omega, ?_⟩
            rw [set_SK rfl]
            dsimp only
            refine exs_cons (ex_popA ok (by walk_at "m_stor") ?_ rfl rfl rfl)
            walk_at "m"
            refine ⟨SK, (r.map entD).reverse, entD e2, rfl, by rw [get_SK]; simp, by simp only [List.length_reverse, List.length_map, List.length_cons, lim]; omega, ?_⟩
            rw [set_SK rfl]
            dsimp only
            obtain ⟨W, hW⟩ : ∃ W, W = 1 + max b2 (max b3 e3.2) := ⟨_, rfl⟩
            rw [← hW] at hF fo1
            refine exs_cons (ex_assign ok (by walk_at "m_stor") (Pe.mono (K := fun d => d = .int (W : Int)) ?_ ?_) rfl)
            · repeat (walk_at "m")
              refine ⟨_, idx_two2 P1 _ _, lP1 _ _, ?_⟩
              repeat (walk_at "m")
              refine ⟨_, .int (b2 : Int), hgS e2 hm2 _, by rw [eb2]; rfl, by simp [stD, lim], ?_⟩
              repeat (walk_at "m")
              refine ⟨_, idx_two1 P1 _ _, lP1 _ _, ?_⟩
              repeat (walk_at "m")
              refine ⟨_, .int (b3 : Int), hgS e3 hm3 _, by rw [eb3]; rfl, by simp [stD, lim], ?_⟩
              repeat (walk_at "m")
              refine ⟨by simp [lim], ?_⟩
              repeat (walk_at "m")
              refine doc_max3 ok.room.hd ?_
              refine do_add_int ?_
              rw [hW]; congr 1
            rintro d rfl
            dsimp only
            have hWb : W ≤ b + 1 := by rw [hW, eb2, eb3, Nat.add_comm]; exact Nat.succ_le_succ (Nat.max_le.mpr ⟨z2, Nat.max_le.mpr ⟨z3, y3⟩⟩)
            refine exs_nodup fun nd3 => ?_
            obtain ⟨s, x1, x2, x3, x4, x5⟩ := die_step (sk := r) fb l2 hWb nd3
            refine exs_cons (ex_setitem ?_ rfl)
            repeat (walk_at "m")
            refine ⟨_, idx_two2 P1 _ _, lP1 _ _, ?_⟩
            refine ⟨_, _, rfl, x1, by simp [stD, lim], ?_⟩
            repeat (walk_at "m")
            refine ⟨2, 2, rfl, rfl, ?_⟩
            dsimp only
            rw [x2]
            refine exs_nodup fun nd4 => ?_
            obtain ⟨s', u1, u2, u3, u4, u5⟩ := die_step (sk := r) x5 (show e3.1 < (dieA A e2.1 W).length by rw [len_dieA]; exact l3) hWb nd4
            rw [x4] at u1 u2
            refine exs_cons (ex_setitem ?_ rfl)
            repeat (walk_at "m")
            refine ⟨_, idx_two1 P1 _ _, lP1 _ _, ?_⟩
            refine ⟨_, _, rfl, u1, by simp [stD, lim], ?_⟩
            repeat (walk_at "m")
            refine ⟨2, 2, rfl, rfl, ?_⟩
            dsimp only
            rw [u2]
            repeat (walk_at "m")
            refine ⟨by simp [lim], ?_⟩
            repeat (walk_at "m")
            refine doc_max2 ok.room.hd ?_
            repeat (walk_at "m")
            refine ⟨0, by omega, ⟨by walk_at "m_get", by walk_at "m_get", by walk_at "m_get", ⟨_, r, by rw [len_dieA, len_dieA, hA], rfl, .inr ⟨by walk_at "m_get", rfl, max W e2.2, by walk_at "m_get", ?_⟩⟩⟩⟩
            rw [u3, x3]; exact hF.symm
          · have w2' : ¬ ((topS (lvA A) e2.1).1 = 61 ∧ (topS (lvA A) e3.1).1 = 10) := by simpa using w2
            simp only [one2, if_neg w1', if_neg w2', Bool.false_eq_true, if_false] at hF
            repeat (walk_at "m")
            exact ⟨0, by omega, ⟨by walk_at "m_get", by walk_at "m_get", by walk_at "m_get", ⟨A, e3 :: e2 :: r, hA, rfl, .inr ⟨by walk_at "m_get", rfl, 0, (by show get _ _ = some (.int 0); walk_at "m_get"), hF.symm⟩⟩⟩⟩
  · rintro ρ' ω' ⟨g1, g2, g3, ⟨A, hA, rfl, hlv, g4⟩⟩
    simp only [List.length_map, List.length_range] at *
    refine exs_nodup fun nd => ?_
    refine exs_all (Str.ofString "lives") g1 (deep_om nd) ?_
    repeat (walk_at "m")
    rw [hlv]
    exact h

def goneG : D → Option D
  | .list [_, _, .int d] => some (.int d)
  | _ => none
theorem gone_fm (ss : List Stg) : (ss.map fun s => D.list (stD s)).filterMap goneG = (ss.map fun s => s.2.2).map .int := by
  induction ss with
  | nil => rfl
  | cons s ss ih => rw [List.map_cons, List.filterMap_cons_some (f := goneG) (b := .int s.2.2) rfl, ih]; rfl
theorem gone_flat (lv : Lvs) : ((lv.map fun ss => D.list (ss.map fun s => .list (stD s))).flatMap fun d => (innerL d).filterMap goneG) = (lv.flatMap fun ss => ss.map fun s => s.2.2).map .int := by
  induction lv with
  | nil => rfl
  | cons ss lv ih =>
    rw [List.map_cons, List.flatMap_cons, ih, List.flatMap_cons, List.map_append]
    simp only [innerL, gone_fm]
theorem gone_len (lv : Lvs) : (lv.flatMap fun ss => ss.map fun s => s.2.2).length = (lv.map List.length).sum := by
  induction lv with
  | nil => rfl
  | cons ss lv ih => simp only [List.flatMap_cons, List.length_append, List.length_map, List.map_cons, List.sum_cons, ih]
theorem text04_len (ns : List Int) : (text04F ns).length ≤ 201 ∧ 1 ≤ (text04F ns).length := by
  unfold text04F
  have := flat_le (ns.take 40)
  have h : (ns.take 40).length ≤ 40 := by rw [List.length_take]; omega
  simp only [List.length_append, List.length_cons, List.length_nil]; omega
theorem text04_small (ns : List Int) : ∀ c ∈ text04F ns, c < 256 := by
  intro c hc
  unfold text04F at hc
  rcases List.mem_append.mp hc with hc | hc
  · obtain ⟨p, hp, hc⟩ := List.mem_flatten.mp hc
    obtain ⟨x, _, rfl⟩ := List.mem_map.mp hp
    exact (show ∀ p ∈ pieces04, ∀ c ∈ p, c < 256 by decide) _ (pc04_mem x) c hc
  · simp at hc; omega
theorem law04 {C : Cx} (B : B04 C) (room : Room C.A 3) {ns : List Int} (hn : ns.length ≤ 63) : CodeC C (.ref 49) [.list (ns.map .int)] (fun d => d = .bool true) := by
  refine enterK' (l := 2) B.G room [(Str.ofString "script", .list (ns.map .int))] ⟨⟨_, B.X 49 _ rfl, rfl⟩, codeRec_of B.X rfl, rfl, rfl, rfl, rfl, rfl, rfl, rfl⟩ ?_ ?_ ⟨_, _, _, rfl, rfl⟩ ?_
  · intro Z s vs U ia
    cases ia with | cons i0 r0 => cases r0; exact ⟨[(Str.ofString "script", _)], BindsTo.of_eq rfl, rfl, .cons i0 .nil, by simp only [List.map_cons, List.map_nil]; decide +kernel⟩
  · intro n x hx
    simp only [List.map_cons, List.map_nil, List.mem_cons, List.not_mem_nil, or_false] at hx
    subst hx; exact Or.inl rfl
  intro C' ok kin hN hcl
  dsimp only at hN
  have B := B.kin kin
  replace hcl := hcl _ rfl
  replace hcl : C'.env.cells = [] := hcl
  have mg__law_after := B.g__law_after
  have mg__law_lives := B.g__law_lives
  have mg__law_text := B.g__law_text
  have mg_decode := B.g_decode
  have mg_max := B.g_max
  have mg_range := B.g_range
  have k_script : C'.env.kindOf (Str.ofString "script") = some .local := kind_of hN rfl
  have k_now : C'.env.kindOf (Str.ofString "now") = some .local := kind_of hN rfl
  have k__law_text : C'.env.kindOf (Str.ofString "_law_text") = some .globalImplicit := kind_of hN rfl
  have k_lives : C'.env.kindOf (Str.ofString "lives") = some .local := kind_of hN rfl
  have k__law_lives : C'.env.kindOf (Str.ofString "_law_lives") = some .globalImplicit := kind_of hN rfl
  have k_last : C'.env.kindOf (Str.ofString "last") = some .local := kind_of hN rfl
  have k_max : C'.env.kindOf (Str.ofString "max") = some .globalImplicit := kind_of hN rfl
  have k_rounds : C'.env.kindOf (Str.ofString "rounds") = some .local := kind_of hN rfl
  have k_range : C'.env.kindOf (Str.ofString "range") = some .globalImplicit := kind_of hN rfl
  have k_decode : C'.env.kindOf (Str.ofString "decode") = some .globalImplicit := kind_of hN rfl
  have k__law_after : C'.env.kindOf (Str.ofString "_law_after") = some .globalImplicit := kind_of hN rfl
  clear kin hN
  have hr2 : Room C'.A 2 := ok.room
  have hr1 : Room C'.A 1 := ok.room.le (by decide)
  obtain ⟨ht1, ht2⟩ := text04_len ns
  have htc := text04_small ns
  obtain ⟨p0, p1⟩ := plain04 (ps := (ns.take 40).map pc04) (fun p hp => by obtain ⟨x, _, rfl⟩ := List.mem_map.mp hp; exact pc04_mem x) (T := text04F ns) rfl
  obtain ⟨f1, f2, f3⟩ := run_FI htc _ (Nat.le_refl _)
  have hll := runF_len ((text04F ns).map leafL) (text04F ns).length
  repeat (walk_at "m")
  refine ⟨.fn ⟨_, _, _, _, B.X 34 _ rfl⟩, ?_⟩
  repeat (walk_at "m")
  refine text04 B hr1 hn ?_
  generalize text04F ns = T at *
  repeat (walk_at "m")
  refine ⟨.fn ⟨_, _, _, _, B.X 39 _ rfl⟩, ?_⟩
  repeat (walk_at "m")
  refine lives04 B hr1 htc (by omega) ?_
  have hb : T.length * (T.length + 1) ≤ 201 * 202 := Nat.mul_le_mul (by omega) (by omega)
  generalize (runF (T.map leafL) T.length).2.1 = sk at *
  generalize (runF (T.map leafL) T.length).1 = lv at *
  rw [List.length_map] at hll
  have htot := f1.tot
  have hlvl : lv.length ≤ lim := by simp only [lim]; omega
  have hsum : (lv.map List.length).sum ≤ 1000000 := by omega
  dsimp only
  refine exs_cons (ex_assign ok (by walk_at "m_stor") (Pe.mono (K := fun d => ∃ M : Int, d = .int M ∧ -1 ≤ M ∧ M ≤ 100000) ?_ ?_) rfl)
  · repeat (walk_at "m")
    refine pe_comp2 ok (compOk0 (by rw [hcl]; rfl) (by decide +kernel) rfl (by decide +kernel) rfl) rfl (by decide) ?_ (by intro _; rfl)
    walk_at "m"
    refine ⟨_, rfl, innerL, goneG, ?_, ?_, ?_⟩
    · rw [gone_flat, List.length_map, gone_len]; simp only [lim]; omega
    · intro d hd
      obtain ⟨ss, hss, rfl⟩ := List.mem_map.mp hd
      refine ⟨fun _ => rfl, fun d' hd' n => ?_⟩
      obtain ⟨s, hs', rfl⟩ := List.mem_map.mp hd'
      refine in_pi ok rfl fun C2 ok2 kin2 hK => ?_
      have B := B.kin kin2
      have k2_one : C2.env.kindOf (Str.ofString "one") = some .local := hK.same rfl (by decide)
      clear ok
      repeat (walk_at "m")
      exact ⟨by simp [stD, lim], rfl⟩
    rw [gone_flat]
    have hne : (lv.flatMap fun ss => ss.map fun s => s.2.2) ≠ [] := by
      obtain ⟨ss, hss⟩ : ∃ ss, ss ∈ lv := by
        cases lv with
        | nil => simp at hll; omega
        | cons ss lv => exact ⟨ss, .head _⟩
      obtain ⟨r, s, e⟩ := f1.last hss
      intro q
      have : s.2.2 ∈ lv.flatMap fun ss => ss.map fun s => s.2.2 := List.mem_flatMap.mpr ⟨ss, hss, List.mem_map.mpr ⟨s, by rw [e]; simp, rfl⟩⟩
      rw [q] at this; cases this
    refine pl_nil (doc_max ok.room.hd hne fun M hM1 _ => ⟨M, rfl, ?_⟩)
    obtain ⟨ss, hss, hM⟩ := List.mem_flatMap.mp hM1
    obtain ⟨s, hs', rfl⟩ := List.mem_map.mp hM
    have := (f1.pl ss hss).2 s hs'
    omega
  rintro d ⟨M, rfl, hM1, hM2⟩
  dsimp only
  obtain ⟨m, hm⟩ : ∃ m : Nat, max M 0 + 2 = (m : Int) + 1 := ⟨(max M 0 + 1).toNat, by omega⟩
  refine exs_cons (ex_for ok (by walk_at "m_stor") (Pe.mono (K := fun d => d = .rng 1 ((m : Int) + 1) 1) ?_ ?_) (by intro _; rfl))
  · repeat (walk_at "m")
    refine doc_max0 ok.room.hd ?_
    repeat (walk_at "m")
    rw [hm]
    exact doc_range2 rfl
  rintro d rfl
  refine ⟨_, rng_one false m (by omega), fun k ρ' ω' => ω' = [] ∧ get ρ' (Str.ofString "lives") = some (lvD lv) ∧ get ρ' (Str.ofString "now") = some (.str (after k lv)), ?_, ?_, ?_⟩
  · refine ⟨rfl, by walk_at "m_get", ?_⟩
    rw [p0]; walk_at "m_get"
  · rintro k d ρ' ω' hk ⟨rfl, g1, g2⟩
    obtain ⟨h1, h2⟩ := List.getElem?_eq_some_iff.mp hk
    have hdk : d = .int ((k + 1 : Nat) : Int) := by
      rw [← h2]; simp
    subst hdk
    have ha1 := after_len k lv
    repeat (walk_at "m")
    refine ⟨.fn ⟨_, _, _, _, B.X 29 _ rfl⟩, ?_⟩
    repeat (walk_at "m")
    refine decode04 B hr2 (.inr ⟨rfl, rfl⟩) (by simp only [lim, List.length_cons, List.length_nil]; omega) ?_
    rw [p1 k]
    repeat (walk_at "m")
    refine ⟨.fn ⟨_, _, _, _, B.X 44 _ rfl⟩, ?_⟩
    repeat (walk_at "m")
    refine after04 B hr1 hlvl hsum ?_
    repeat (walk_at "m")
    rw [decide_eq_false (by simp)]
    refine ite_f ?_
    repeat (walk_at "m")
    exact ⟨rfl, by walk_at "m_get", by walk_at "m_get"⟩
  · rintro ρ' ω' ⟨rfl, g1, g2⟩
    repeat (walk_at "m")
    rfl

end Mine
end

theorem PySem.Challenge.cw_dm0095_04_holds : PySem.Challenge.rw_dm0095_04.Holds := by
  refine Mine.hd ?_
  k_fill
  intro w s₀ s₁ mg mb G Y fa o pm cd doc dV kV ho hd hcd hD hmg hg args vals as hpre hlay hrd hwl hlo
  have KX := kIn_of Y
  refine Ground.open G ?_
  intro T B D TE TW
  wrow_args hpre hlay hrd hwl hlo
  refine enter_call ?_
  clear hD hcd hd
  have BB : Mine.B04 ⟨PySem.Challenge.rw_dm0095_04.row.prog, w, callerA, default, s₁.heap, mg, mb⟩ := ⟨KX, ⟨T.g, T.b, T.nolimit⟩, T.builtins⟩
  have hfa : fa = 49 := by
    have h1 : mg (Str.ofString "law") = some (.ref 49) := by rw [Mine.mg_of T.g (KX 3 _ rfl) rfl]; rfl
    have h2 : mg (Str.ofString "law") = some (.ref fa) := hmg
    rw [h1] at h2; cases h2; rfl
  subst hfa
  rename_i hlist _ _ _ hints _ hlen _
  refine Mine.law_run (Mine.law04 BB ⟨rfl, (show callerA.depth + 3 < 900 by decide), (show callerA.units + 10 * 3 < 9000 by decide)⟩ (by omega)) hlist hints fun s' k => ?_
  obtain ⟨h', tk, rfl, hk, _⟩ := k
  exact GoodW.toG ⟨.inl ⟨.bool true, .bool true, [], rfl, raisesW_false (by intro ct h; cases h), .bool true, postW_of rfl (w_eq_bool (w_res rfl) w_lit) rfl, unshared_nil⟩, hk, rfl, hg⟩
