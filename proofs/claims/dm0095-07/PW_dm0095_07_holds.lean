import PyProof.Rows.All
import Wide.All
import OpenK.AllK
import Wide.FinOn
import PySem.Challenge.RW_dm0095_07

open PySem PySem.W PyProof.Rows
set_option Elab.async false
set_option linter.unusedVariables false
set_option linter.unusedSimpArgs false
set_option maxRecDepth 100000
set_option maxHeartbeats 8000000

section
namespace Mine.Hd
/-- a text by its signs' numbers -/
abbrev tx (l : List Nat) : Str := Str.mk (Array.mk l)
abbrev ts (l : List Nat) (n : Nat) : Value := Value.str (Str.mk (Array.mk l)) n
abbrev x1 (a n : Nat) : Value := Value.str (Str.mk (Array.mk [a])) n
abbrev x3 (a b n : Nat) : Value := Value.str (Str.mk (Array.mk [61, a, b])) n
def stI (R : OpenLaw) (i : Nat) : Stmt := match R.prog.main.body.drop i with | s :: _ => s | [] => .Pass default
def fdOf (s : Stmt) (globals : Addr) (closure : List (Str × Addr)) (dV kV doc pm : Value) (an : Option Addr) (cd ct : Value) (bl : Addr) : FuncData := match s with
  | .FunctionDef n ps b _ _ _ sc _ _ _ => ⟨n, n, ps, .stmts b, sc, globals, closure, dV, kV, doc, pm, an, cd, ct, bl⟩
  | _ => default
def bd (R : OpenLaw) : List Stmt := behindTheImports R.prog
def en (R : OpenLaw) (cd : Value) (fr : Addr) : Env := { scope := R.prog.main.scope, locals := mainNs, globals := mainNs, cells := [], code := cd, frame := some fr }
def co (R : OpenLaw) (cd : Value) (fr : Addr) : Code := Code.body (bd R) (en R cd fr)
def sts (R : OpenLaw) (i k : Nat) : List Stmt := ((bd R).drop i).take k

abbrev Seg := (String → Option Builtin) → Program → World → Nat → Option Value → Nat → Nat → SharedT → Thread → Option (Flow × SharedT × Code × Pos)
abbrev Tb := String → Option Builtin
abbrev Exs := List Stmt → Env → Sem Flow
abbrev St := OpenLaw → World → OsState → SharedT
structure Fr where
  m0 : Nat
  ann : Option Value
  cd : Value
  fr : Addr
  q : Pos

/-- one piece of the top: k statements from the i-th on -/
def Piece (F : Fr) (n i k : Nat) (pos pos' : Pos) (S1 S2 : St) (seg : Seg) (tb : Tb) (ex : Exs) (R : OpenLaw) (w : World) : Prop :=
  (fun os => seg tb R.prog w F.m0 F.ann 1 n (S1 R w os) ⟨(ex (sts R i k) (en R F.cd F.fr)).wrap doneF deadEnd id id, co R F.cd F.fr, pos, [topFrame F.q]⟩) = fun os => some (Flow.next, S2 R w os, co R F.cd F.fr, pos')

theorem chain {F : Fr} {n i k : Nat} {pos pos' : Pos} {S1 S2 : St} {R : OpenLaw} (h : ∀ w, Piece F n i k pos pos' S1 S2 segRunT treeTable execs R w) (w : World) (os : OsState) {N : Nat} {r : Shared}
    (kk : topRun treeTable R.prog w F.m0 F.ann N (S2 R w os).abs (restOf ((bd R).drop (i + k)) (en R F.cd F.fr) (co R F.cd F.fr) pos' [topFrame F.q]) = some r) :
    topRun treeTable R.prog w F.m0 F.ann (n + N) (S1 R w os).abs (restOf ((bd R).drop i) (en R F.cd F.fr) (co R F.cd F.fr) pos [topFrame F.q]) = some r := by
  have e : (bd R).drop i = sts R i k ++ (bd R).drop (i + k) := by
    unfold sts; rw [← List.drop_drop, List.take_append_drop]
  rw [e]
  exact piece_app (segRun_of (congrFun (h w) os)) kk

def Pre (F : Fr) (n : Nat) (pos : Pos) (S0 S1 : St) (go : Tb → Program → World → Nat → Option Value → Nat → Shared → Thread → Option (Shared × Thread)) (tb : Tb) (den : Tb → Code → Sem Fin) (R : OpenLaw) (w : World) : Prop :=
  (fun os => go tb R.prog w F.m0 F.ann n (S0 R w os).abs (topStub R.prog)) = fun os => some ((S1 R w os).abs, ⟨den tb (co R F.cd F.fr), co R F.cd F.fr, pos, [topFrame F.q]⟩)
def Blk (F : Fr) (n : Nat) (pos pos' : Pos) (S1 S2 : St) (seg : Seg) (tb : Tb) (bs : List Stmt → Env → Sem Unit) (R : OpenLaw) (w : World) : Prop :=
  (fun os => seg tb R.prog w F.m0 F.ann 1 n (S1 R w os) ⟨(bs (bd R) (en R F.cd F.fr)).wrap (fun _ => doneF .next) deadEnd id id, co R F.cd F.fr, pos, [topFrame F.q]⟩) = fun os => some (Flow.next, S2 R w os, co R F.cd F.fr, pos')
def Last (F : Fr) (n i : Nat) (pos : Pos) (S1 S2 : St) (top : Tb → Program → World → Nat → Option Value → Nat → Shared → Thread → Option Shared) (tb : Tb) (ex : Exs) (R : OpenLaw) (w : World) : Prop :=
  (fun os => top tb R.prog w F.m0 F.ann n (S1 R w os).abs ⟨(ex ((bd R).drop i) (en R F.cd F.fr)).wrap doneF (leaveH (en R F.cd F.fr)) id id, co R F.cd F.fr, pos, [topFrame F.q]⟩) = fun os => some (S2 R w os).abs

theorem begin_ {F : Fr} {n m : Nat} {pos pos' : Pos} {S0 S1 S2 : St} {R : OpenLaw} (h : ∀ w, Pre F n pos S0 S1 topGo treeTable denote R w) (b : ∀ w, Blk F m pos pos' S1 S2 segRunT treeTable blockStart R w) (w : World) (os : OsState) {N : Nat} {r : Shared}
    (kk : topRun treeTable R.prog w F.m0 F.ann N (S2 R w os).abs (restOf ((bd R).drop 0) (en R F.cd F.fr) (co R F.cd F.fr) pos' [topFrame F.q]) = some r) :
    topRun treeTable R.prog w F.m0 F.ann (n + (m + N)) (S0 R w os).abs (topStub R.prog) = some r :=
  go_top (congrFun (h w) os) (piece_block (segRun_of (congrFun (b w) os)) kk)
theorem last_ {F : Fr} {n i : Nat} {pos : Pos} {S1 S2 : St} {R : OpenLaw} (h : ∀ w, Last F n i pos S1 S2 topRun treeTable execs R w) (w : World) (os : OsState) :
    topRun treeTable R.prog w F.m0 F.ann n (S1 R w os).abs (restOf ((bd R).drop i) (en R F.cd F.fr) (co R F.cd F.fr) pos [topFrame F.q]) = some (S2 R w os).abs := congrFun (h w) os
theorem two_rows {P : World → Prop} (r1 r2 : String) (a : ∀ w : World, P ((w.withFollow r1 false).withFollow r2 false)) (b : ∀ w : World, P ((w.withFollow r1 false).withFollow r2 true))
    (c : ∀ w : World, P ((w.withFollow r1 true).withFollow r2 false)) (d : ∀ w : World, P ((w.withFollow r1 true).withFollow r2 true)) (w : World) : P w := by
  exact byRow2 r2 (byRow2 (P := fun w => P (w.withFollow r2 false)) r1 a c) (byRow2 (P := fun w => P (w.withFollow r2 true)) r1 b d) w
end Mine.Hd
end

section
lay_quick PySem.Challenge.rw_dm0095_07
namespace Mine.Hd
abbrev Rw : OpenLaw := PySem.Challenge.rw_dm0095_07
noncomputable abbrev Rt : OpenLaw := PySem.W.Fast.tw16071055481911462028
def F : Fr := ⟨28, (some (.ref 6)), (.ref 30), 31, ⟨0, 0, 0, 0⟩⟩
noncomputable def o0 (R : OpenLaw) (P : Params) : Obj := ⟨(.type PySem.W.SL.s14018661285674007319x4), none, (.dict (Array.mk [⟨(PyData.keyHash P (tx [95, 95, 110, 97, 109, 101, 95, 95])), (ts [95, 95, 110, 97, 109, 101, 95, 95] 1), (ts [98, 117, 105, 108, 116, 105, 110, 115] 160)⟩, ⟨(PyData.keyHash P (tx [95, 95, 100, 111, 99, 95, 95])), (ts [95, 95, 100, 111, 99, 95, 95] 2), (.builtin "builtins.__doc__:str#opaque")⟩, ⟨(PyData.keyHash P (tx [95, 95, 112, 97, 99, 107, 97, 103, 101, 95, 95])), (ts [95, 95, 112, 97, 99, 107, 97, 103, 101, 95, 95] 3), (.builtin "builtins.__package__:str#opaque")⟩, ⟨(PyData.keyHash P (tx [95, 95, 108, 111, 97, 100, 101, 114, 95, 95])), (ts [95, 95, 108, 111, 97, 100, 101, 114, 95, 95] 4), (.builtin "builtins.__loader__:shared#opaque")⟩, ⟨(PyData.keyHash P (tx [95, 95, 115, 112, 101, 99, 95, 95])), (ts [95, 95, 115, 112, 101, 99, 95, 95] 5), (.builtin PySem.W.SL.s11665532747177232413x24)⟩, ⟨(PyData.keyHash P (tx [95, 95, 98, 117, 105, 108, 100, 95, 99, 108, 97, 115, 115, 95, 95])), (ts [95, 95, 98, 117, 105, 108, 100, 95, 99, 108, 97, 115, 115, 95, 95] 6), (.builtin PySem.W.SL.s15183661809925369436x15)⟩, ⟨(PyData.keyHash P (tx [95, 95, 105, 109, 112, 111, 114, 116, 95, 95])), (ts [95, 95, 105, 109, 112, 111, 114, 116, 95, 95] 7), (.builtin PySem.W.SL.s13915890719876406383x10)⟩, ⟨(PyData.keyHash P (tx [97, 98, 115])), (ts [97, 98, 115] 8), (.builtin PySem.W.SL.s13459172003223722735x3)⟩, ⟨(PyData.keyHash P (tx [97, 108, 108])), (ts [97, 108, 108] 9), (.builtin PySem.W.SL.s10557405761357834076x3)⟩, ⟨(PyData.keyHash P (tx [97, 110, 121])), (ts [97, 110, 121] 10), (.builtin PySem.W.SL.s4233737765568776869x3)⟩, ⟨(PyData.keyHash P (tx [97, 115, 99, 105, 105])), (ts [97, 115, 99, 105, 105] 11), (.builtin PySem.W.SL.s2508922471967985374x5)⟩, ⟨(PyData.keyHash P (tx [98, 105, 110])), (ts [98, 105, 110] 12), (.builtin PySem.W.SL.s15574269061696679450x3)⟩, ⟨(PyData.keyHash P (tx [98, 114, 101, 97, 107, 112, 111, 105, 110, 116])), (ts [98, 114, 101, 97, 107, 112, 111, 105, 110, 116] 13), (.builtin PySem.W.SL.s6016482663378992977x10)⟩, ⟨(PyData.keyHash P (tx [99, 97, 108, 108, 97, 98, 108, 101])), (ts [99, 97, 108, 108, 97, 98, 108, 101] 14), (.builtin PySem.W.SL.s5596568736180474577x8)⟩, ⟨(PyData.keyHash P (tx [99, 104, 114])), (ts [99, 104, 114] 15), (.builtin PySem.W.SL.s2839554839881490554x3)⟩, ⟨(PyData.keyHash P (tx [99, 111, 109, 112, 105, 108, 101])), (ts [99, 111, 109, 112, 105, 108, 101] 16), (.builtin PySem.W.SL.s725004073602090463x7)⟩, ⟨(PyData.keyHash P (tx [100, 101, 108, 97, 116, 116, 114])), (ts [100, 101, 108, 97, 116, 116, 114] 17), (.builtin PySem.W.SL.s9436932552931045734x7)⟩, ⟨(PyData.keyHash P (tx [100, 105, 114])), (ts [100, 105, 114] 18), (.builtin PySem.W.SL.s2754603736356183583x3)⟩, ⟨(PyData.keyHash P (tx [100, 105, 118, 109, 111, 100])), (ts [100, 105, 118, 109, 111, 100] 19), (.builtin PySem.W.SL.s15185746759980889043x6)⟩, ⟨(PyData.keyHash P (tx [101, 118, 97, 108])), (ts [101, 118, 97, 108] 20), (.builtin PySem.W.SL.s8192189862530294059x4)⟩, ⟨(PyData.keyHash P (tx [101, 120, 101, 99])), (ts [101, 120, 101, 99] 21), (.builtin PySem.W.SL.s7038307821325472102x4)⟩, ⟨(PyData.keyHash P (tx [102, 111, 114, 109, 97, 116])), (ts [102, 111, 114, 109, 97, 116] 22), (.builtin PySem.W.SL.s5662562618415449548x6)⟩, ⟨(PyData.keyHash P (tx [103, 101, 116, 97, 116, 116, 114])), (ts [103, 101, 116, 97, 116, 116, 114] 23), (.builtin PySem.W.SL.s15281542589158584767x7)⟩, ⟨(PyData.keyHash P (tx [103, 108, 111, 98, 97, 108, 115])), (ts [103, 108, 111, 98, 97, 108, 115] 24), (.builtin PySem.W.SL.s17651547275483570877x7)⟩, ⟨(PyData.keyHash P (tx [104, 97, 115, 97, 116, 116, 114])), (ts [104, 97, 115, 97, 116, 116, 114] 25), (.builtin PySem.W.SL.s4036449017235975746x7)⟩, ⟨(PyData.keyHash P (tx [104, 97, 115, 104])), (ts [104, 97, 115, 104] 26), (.builtin PySem.W.SL.s8879979712987360175x4)⟩, ⟨(PyData.keyHash P (tx [104, 101, 120])), (ts [104, 101, 120] 27), (.builtin PySem.W.SL.s1801250619170735830x3)⟩, ⟨(PyData.keyHash P (tx [105, 100])), (ts [105, 100] 28), (.builtin PySem.W.SL.s17659931425627118568x2)⟩, ⟨(PyData.keyHash P (tx [105, 110, 112, 117, 116])), (ts [105, 110, 112, 117, 116] 29), (.builtin PySem.W.SL.s6063217899685152688x5)⟩, ⟨(PyData.keyHash P (tx [105, 115, 105, 110, 115, 116, 97, 110, 99, 101])), (ts [105, 115, 105, 110, 115, 116, 97, 110, 99, 101] 30), (.builtin PySem.W.SL.s8008927332132565319x10)⟩, ⟨(PyData.keyHash P (tx [105, 115, 115, 117, 98, 99, 108, 97, 115, 115])), (ts [105, 115, 115, 117, 98, 99, 108, 97, 115, 115] 31), (.builtin PySem.W.SL.s3544116645089599534x10)⟩, ⟨(PyData.keyHash P (tx [105, 116, 101, 114])), (ts [105, 116, 101, 114] 32), (.builtin PySem.W.SL.s13761710972054866084x4)⟩, ⟨(PyData.keyHash P (tx [97, 105, 116, 101, 114])), (ts [97, 105, 116, 101, 114] 33), (.builtin PySem.W.SL.s12896375587409280029x5)⟩, ⟨(PyData.keyHash P (tx [108, 101, 110])), (ts [108, 101, 110] 34), (.builtin PySem.W.SL.s13014049009108672802x3)⟩, ⟨(PyData.keyHash P (tx [108, 111, 99, 97, 108, 115])), (ts [108, 111, 99, 97, 108, 115] 35), (.builtin PySem.W.SL.s13935586738268321596x6)⟩, ⟨(PyData.keyHash P (tx [109, 97, 120])), (ts [109, 97, 120] 36), (.builtin PySem.W.SL.s8200498257699607233x3)⟩, ⟨(PyData.keyHash P (tx [109, 105, 110])), (ts [109, 105, 110] 37), (.builtin PySem.W.SL.s14114244577727609259x3)⟩, ⟨(PyData.keyHash P (tx [110, 101, 120, 116])), (ts [110, 101, 120, 116] 38), (.builtin PySem.W.SL.s1499430450269397089x4)⟩, ⟨(PyData.keyHash P (tx [97, 110, 101, 120, 116])), (ts [97, 110, 101, 120, 116] 39), (.builtin PySem.W.SL.s8755793994789770505x5)⟩, ⟨(PyData.keyHash P (tx [111, 99, 116])), (ts [111, 99, 116] 40), (.builtin PySem.W.SL.s15725212667919936108x3)⟩, ⟨(PyData.keyHash P (tx [111, 114, 100])), (ts [111, 114, 100] 41), (.builtin PySem.W.SL.s15791221867095933363x3)⟩, ⟨(PyData.keyHash P (tx [112, 111, 119])), (ts [112, 111, 119] 42), (.builtin PySem.W.SL.s81309575031448614x3)⟩, ⟨(PyData.keyHash P (tx [112, 114, 105, 110, 116])), (ts [112, 114, 105, 110, 116] 43), (.builtin PySem.W.SL.s8069831620301644142x5)⟩, ⟨(PyData.keyHash P (tx [114, 101, 112, 114])), (ts [114, 101, 112, 114] 44), (.builtin PySem.W.SL.s10061844253413749634x4)⟩, ⟨(PyData.keyHash P (tx [114, 111, 117, 110, 100])), (ts [114, 111, 117, 110, 100] 45), (.builtin PySem.W.SL.s9496514870978017513x5)⟩, ⟨(PyData.keyHash P (tx [115, 101, 116, 97, 116, 116, 114])), (ts [115, 101, 116, 97, 116, 116, 114] 46), (.builtin PySem.W.SL.s8899691144933366716x7)⟩, ⟨(PyData.keyHash P (tx [115, 111, 114, 116, 101, 100])), (ts [115, 111, 114, 116, 101, 100] 47), (.builtin PySem.W.SL.s15201008993051130160x6)⟩, ⟨(PyData.keyHash P (tx [115, 117, 109])), (ts [115, 117, 109] 48), (.builtin PySem.W.SL.s741896355592496720x3)⟩, ⟨(PyData.keyHash P (tx [118, 97, 114, 115])), (ts [118, 97, 114, 115] 49), (.builtin PySem.W.SL.s17925004256654032244x4)⟩, ⟨(PyData.keyHash P (tx [78, 111, 110, 101])), (ts [78, 111, 110, 101] 50), .none⟩, ⟨(PyData.keyHash P (tx [69, 108, 108, 105, 112, 115, 105, 115])), (ts [69, 108, 108, 105, 112, 115, 105, 115] 51), .ellipsis⟩, ⟨(PyData.keyHash P (tx [78, 111, 116, 73, 109, 112, 108, 101, 109, 101, 110, 116, 101, 100])), (ts [78, 111, 116, 73, 109, 112, 108, 101, 109, 101, 110, 116, 101, 100] 52), .notImplemented⟩, ⟨(PyData.keyHash P (tx [70, 97, 108, 115, 101])), (ts [70, 97, 108, 115, 101] 53), (.bool false)⟩, ⟨(PyData.keyHash P (tx [84, 114, 117, 101])), (ts [84, 114, 117, 101] 54), (.bool true)⟩, ⟨(PyData.keyHash P (tx [98, 111, 111, 108])), (ts [98, 111, 111, 108] 55), (.type PySem.W.SL.s11695548795398191787x4)⟩, ⟨(PyData.keyHash P (tx [109, 101, 109, 111, 114, 121, 118, 105, 101, 119])), (ts [109, 101, 109, 111, 114, 121, 118, 105, 101, 119] 56), (.type PySem.W.SL.s4156966113859768872x10)⟩, ⟨(PyData.keyHash P (tx [98, 121, 116, 101, 97, 114, 114, 97, 121])), (ts [98, 121, 116, 101, 97, 114, 114, 97, 121] 57), (.type PySem.W.SL.s9501651726347032510x9)⟩, ⟨(PyData.keyHash P (tx [98, 121, 116, 101, 115])), (ts [98, 121, 116, 101, 115] 58), (.type PySem.W.SL.s15722918466584999320x5)⟩, ⟨(PyData.keyHash P (tx [99, 108, 97, 115, 115, 109, 101, 116, 104, 111, 100])), (ts [99, 108, 97, 115, 115, 109, 101, 116, 104, 111, 100] 59), (.type PySem.W.SL.s591115383303110208x11)⟩, ⟨(PyData.keyHash P (tx [99, 111, 109, 112, 108, 101, 120])), (ts [99, 111, 109, 112, 108, 101, 120] 60), (.type PySem.W.SL.s15721156781594690315x7)⟩, ⟨(PyData.keyHash P (tx [100, 105, 99, 116])), (ts [100, 105, 99, 116] 61), (.type PySem.W.SL.s14018661285674007319x4)⟩, ⟨(PyData.keyHash P (tx [101, 110, 117, 109, 101, 114, 97, 116, 101])), (ts [101, 110, 117, 109, 101, 114, 97, 116, 101] 62), (.type PySem.W.SL.s14340494229221121180x9)⟩, ⟨(PyData.keyHash P (tx [102, 105, 108, 116, 101, 114])), (ts [102, 105, 108, 116, 101, 114] 63), (.type PySem.W.SL.s13429844117177748173x6)⟩, ⟨(PyData.keyHash P (tx [102, 108, 111, 97, 116])), (ts [102, 108, 111, 97, 116] 64), (.type PySem.W.SL.s16463266125957815391x5)⟩, ⟨(PyData.keyHash P (tx [102, 114, 111, 122, 101, 110, 115, 101, 116])), (ts [102, 114, 111, 122, 101, 110, 115, 101, 116] 65), (.type PySem.W.SL.s4922535414793169389x9)⟩, ⟨(PyData.keyHash P (tx [112, 114, 111, 112, 101, 114, 116, 121])), (ts [112, 114, 111, 112, 101, 114, 116, 121] 66), (.type PySem.W.SL.s8101838861749082086x8)⟩, ⟨(PyData.keyHash P (tx [105, 110, 116])), (ts [105, 110, 116] 67), (.type PySem.W.SL.s7066276694103001551x3)⟩, ⟨(PyData.keyHash P (tx [108, 105, 115, 116])), (ts [108, 105, 115, 116] 68), (.type PySem.W.SL.s9222952809800978799x4)⟩, ⟨(PyData.keyHash P (tx [109, 97, 112])), (ts [109, 97, 112] 69), (.type PySem.W.SL.s462964344163437139x3)⟩, ⟨(PyData.keyHash P (tx [111, 98, 106, 101, 99, 116])), (ts [111, 98, 106, 101, 99, 116] 70), (.type PySem.W.SL.s2742458400755230247x6)⟩, ⟨(PyData.keyHash P (tx [114, 97, 110, 103, 101])), (ts [114, 97, 110, 103, 101] 71), (.type PySem.W.SL.s1438033511350832697x5)⟩, ⟨(PyData.keyHash P (tx [114, 101, 118, 101, 114, 115, 101, 100])), (ts [114, 101, 118, 101, 114, 115, 101, 100] 72), (.type PySem.W.SL.s14365286008749172514x8)⟩, ⟨(PyData.keyHash P (tx [115, 101, 116])), (ts [115, 101, 116] 73), (.type PySem.W.SL.s3642769012341782148x3)⟩, ⟨(PyData.keyHash P (tx [115, 108, 105, 99, 101])), (ts [115, 108, 105, 99, 101] 74), (.type PySem.W.SL.s4674234679698826739x5)⟩, ⟨(PyData.keyHash P (tx [115, 116, 97, 116, 105, 99, 109, 101, 116, 104, 111, 100])), (ts [115, 116, 97, 116, 105, 99, 109, 101, 116, 104, 111, 100] 75), (.type PySem.W.SL.s16656946322747308186x12)⟩, ⟨(PyData.keyHash P (tx [115, 116, 114])), (ts [115, 116, 114] 76), (.type PySem.W.SL.s10796804682411823810x3)⟩, ⟨(PyData.keyHash P (tx [115, 117, 112, 101, 114])), (ts [115, 117, 112, 101, 114] 77), (.type PySem.W.SL.s4290257624100764138x5)⟩, ⟨(PyData.keyHash P (tx [116, 117, 112, 108, 101])), (ts [116, 117, 112, 108, 101] 78), (.type PySem.W.SL.s2766695959194262286x5)⟩, ⟨(PyData.keyHash P (tx [116, 121, 112, 101])), (ts [116, 121, 112, 101] 79), (.type PySem.W.SL.s17162191345867700912x4)⟩, ⟨(PyData.keyHash P (tx [122, 105, 112])), (ts [122, 105, 112] 80), (.type PySem.W.SL.s14339709457334898076x3)⟩, ⟨(PyData.keyHash P (tx [95, 95, 100, 101, 98, 117, 103, 95, 95])), (ts [95, 95, 100, 101, 98, 117, 103, 95, 95] 81), (.bool true)⟩, ⟨(PyData.keyHash P (tx [66, 97, 115, 101, 69, 120, 99, 101, 112, 116, 105, 111, 110])), (ts [66, 97, 115, 101, 69, 120, 99, 101, 112, 116, 105, 111, 110] 82), (.type PySem.W.SL.s4278001404047624695x13)⟩, ⟨(PyData.keyHash P (tx [66, 97, 115, 101, 69, 120, 99, 101, 112, 116, 105, 111, 110, 71, 114, 111, 117, 112])), (ts [66, 97, 115, 101, 69, 120, 99, 101, 112, 116, 105, 111, 110, 71, 114, 111, 117, 112] 83), (.type PySem.W.SL.s6585700554429387442x18)⟩, ⟨(PyData.keyHash P (tx [69, 120, 99, 101, 112, 116, 105, 111, 110])), (ts [69, 120, 99, 101, 112, 116, 105, 111, 110] 84), (.type PySem.W.SL.s5946037652744460706x9)⟩, ⟨(PyData.keyHash P (tx [71, 101, 110, 101, 114, 97, 116, 111, 114, 69, 120, 105, 116])), (ts [71, 101, 110, 101, 114, 97, 116, 111, 114, 69, 120, 105, 116] 85), (.type PySem.W.SL.s7410770068591931388x13)⟩, ⟨(PyData.keyHash P (tx [75, 101, 121, 98, 111, 97, 114, 100, 73, 110, 116, 101, 114, 114, 117, 112, 116])), (ts [75, 101, 121, 98, 111, 97, 114, 100, 73, 110, 116, 101, 114, 114, 117, 112, 116] 86), (.type PySem.W.SL.s11817881795495490833x17)⟩, ⟨(PyData.keyHash P (tx [83, 121, 115, 116, 101, 109, 69, 120, 105, 116])), (ts [83, 121, 115, 116, 101, 109, 69, 120, 105, 116] 87), (.type PySem.W.SL.s15679963881808890155x10)⟩, ⟨(PyData.keyHash P (tx [65, 114, 105, 116, 104, 109, 101, 116, 105, 99, 69, 114, 114, 111, 114])), (ts [65, 114, 105, 116, 104, 109, 101, 116, 105, 99, 69, 114, 114, 111, 114] 88), (.type PySem.W.SL.s3871700062485845797x15)⟩, ⟨(PyData.keyHash P (tx [65, 115, 115, 101, 114, 116, 105, 111, 110, 69, 114, 114, 111, 114])), (ts [65, 115, 115, 101, 114, 116, 105, 111, 110, 69, 114, 114, 111, 114] 89), (.type PySem.W.SL.s7689518266570723881x14)⟩, ⟨(PyData.keyHash P (tx [65, 116, 116, 114, 105, 98, 117, 116, 101, 69, 114, 114, 111, 114])), (ts [65, 116, 116, 114, 105, 98, 117, 116, 101, 69, 114, 114, 111, 114] 90), (.type PySem.W.SL.s9001593270443806431x14)⟩, ⟨(PyData.keyHash P (tx [66, 117, 102, 102, 101, 114, 69, 114, 114, 111, 114])), (ts [66, 117, 102, 102, 101, 114, 69, 114, 114, 111, 114] 91), (.type PySem.W.SL.s6882542574934516792x11)⟩, ⟨(PyData.keyHash P (tx [69, 79, 70, 69, 114, 114, 111, 114])), (ts [69, 79, 70, 69, 114, 114, 111, 114] 92), (.type PySem.W.SL.s14403400214490484960x8)⟩, ⟨(PyData.keyHash P (tx [73, 109, 112, 111, 114, 116, 69, 114, 114, 111, 114])), (ts [73, 109, 112, 111, 114, 116, 69, 114, 114, 111, 114] 93), (.type PySem.W.SL.s14457978657717015782x11)⟩, ⟨(PyData.keyHash P (tx [76, 111, 111, 107, 117, 112, 69, 114, 114, 111, 114])), (ts [76, 111, 111, 107, 117, 112, 69, 114, 114, 111, 114] 94), (.type PySem.W.SL.s1753610191782819921x11)⟩, ⟨(PyData.keyHash P (tx [77, 101, 109, 111, 114, 121, 69, 114, 114, 111, 114])), (ts [77, 101, 109, 111, 114, 121, 69, 114, 114, 111, 114] 95), (.type PySem.W.SL.s14119380538032626715x11)⟩, ⟨(PyData.keyHash P (tx [78, 97, 109, 101, 69, 114, 114, 111, 114])), (ts [78, 97, 109, 101, 69, 114, 114, 111, 114] 96), (.type PySem.W.SL.s11437920000406562045x9)⟩, ⟨(PyData.keyHash P (tx [79, 83, 69, 114, 114, 111, 114])), (ts [79, 83, 69, 114, 114, 111, 114] 97), (.type PySem.W.SL.s10852414792293593619x7)⟩, ⟨(PyData.keyHash P (tx [82, 101, 102, 101, 114, 101, 110, 99, 101, 69, 114, 114, 111, 114])), (ts [82, 101, 102, 101, 114, 101, 110, 99, 101, 69, 114, 114, 111, 114] 98), (.type PySem.W.SL.s14816307405966870543x14)⟩, ⟨(PyData.keyHash P (tx [82, 117, 110, 116, 105, 109, 101, 69, 114, 114, 111, 114])), (ts [82, 117, 110, 116, 105, 109, 101, 69, 114, 114, 111, 114] 99), (.type PySem.W.SL.s8682627914449686677x12)⟩, ⟨(PyData.keyHash P (tx [83, 116, 111, 112, 65, 115, 121, 110, 99, 73, 116, 101, 114, 97, 116, 105, 111, 110])), (ts [83, 116, 111, 112, 65, 115, 121, 110, 99, 73, 116, 101, 114, 97, 116, 105, 111, 110] 100), (.type PySem.W.SL.s4428170145600203450x18)⟩, ⟨(PyData.keyHash P (tx [83, 116, 111, 112, 73, 116, 101, 114, 97, 116, 105, 111, 110])), (ts [83, 116, 111, 112, 73, 116, 101, 114, 97, 116, 105, 111, 110] 101), (.type PySem.W.SL.s5991306692159431302x13)⟩, ⟨(PyData.keyHash P (tx [83, 121, 110, 116, 97, 120, 69, 114, 114, 111, 114])), (ts [83, 121, 110, 116, 97, 120, 69, 114, 114, 111, 114] 102), (.type PySem.W.SL.s16067994140765818257x11)⟩, ⟨(PyData.keyHash P (tx [83, 121, 115, 116, 101, 109, 69, 114, 114, 111, 114])), (ts [83, 121, 115, 116, 101, 109, 69, 114, 114, 111, 114] 103), (.type PySem.W.SL.s2327743974964600596x11)⟩, ⟨(PyData.keyHash P (tx [84, 121, 112, 101, 69, 114, 114, 111, 114])), (ts [84, 121, 112, 101, 69, 114, 114, 111, 114] 104), (.type PySem.W.SL.s2804747833354056582x9)⟩, ⟨(PyData.keyHash P (tx [86, 97, 108, 117, 101, 69, 114, 114, 111, 114])), (ts [86, 97, 108, 117, 101, 69, 114, 114, 111, 114] 105), (.type PySem.W.SL.s6070975301684473832x10)⟩, ⟨(PyData.keyHash P (tx [87, 97, 114, 110, 105, 110, 103])), (ts [87, 97, 114, 110, 105, 110, 103] 106), (.type PySem.W.SL.s14270485950484850486x7)⟩, ⟨(PyData.keyHash P (tx [70, 108, 111, 97, 116, 105, 110, 103, 80, 111, 105, 110, 116, 69, 114, 114, 111, 114])), (ts [70, 108, 111, 97, 116, 105, 110, 103, 80, 111, 105, 110, 116, 69, 114, 114, 111, 114] 107), (.type PySem.W.SL.s12041534306414923332x18)⟩, ⟨(PyData.keyHash P (tx [79, 118, 101, 114, 102, 108, 111, 119, 69, 114, 114, 111, 114])), (ts [79, 118, 101, 114, 102, 108, 111, 119, 69, 114, 114, 111, 114] 108), (.type PySem.W.SL.s2531307568338490285x13)⟩, ⟨(PyData.keyHash P (tx [90, 101, 114, 111, 68, 105, 118, 105, 115, 105, 111, 110, 69, 114, 114, 111, 114])), (ts [90, 101, 114, 111, 68, 105, 118, 105, 115, 105, 111, 110, 69, 114, 114, 111, 114] 109), (.type PySem.W.SL.s631175304937289666x17)⟩, ⟨(PyData.keyHash P (tx [66, 121, 116, 101, 115, 87, 97, 114, 110, 105, 110, 103])), (ts [66, 121, 116, 101, 115, 87, 97, 114, 110, 105, 110, 103] 110), (.type PySem.W.SL.s5144983644357021410x12)⟩, ⟨(PyData.keyHash P (tx [68, 101, 112, 114, 101, 99, 97, 116, 105, 111, 110, 87, 97, 114, 110, 105, 110, 103])), (ts [68, 101, 112, 114, 101, 99, 97, 116, 105, 111, 110, 87, 97, 114, 110, 105, 110, 103] 111), (.type PySem.W.SL.s18039099521571816885x18)⟩, ⟨(PyData.keyHash P (tx [69, 110, 99, 111, 100, 105, 110, 103, 87, 97, 114, 110, 105, 110, 103])), (ts [69, 110, 99, 111, 100, 105, 110, 103, 87, 97, 114, 110, 105, 110, 103] 112), (.type PySem.W.SL.s6011586214260557989x15)⟩, ⟨(PyData.keyHash P (tx [70, 117, 116, 117, 114, 101, 87, 97, 114, 110, 105, 110, 103])), (ts [70, 117, 116, 117, 114, 101, 87, 97, 114, 110, 105, 110, 103] 113), (.type PySem.W.SL.s5430567037509283100x13)⟩, ⟨(PyData.keyHash P (tx [73, 109, 112, 111, 114, 116, 87, 97, 114, 110, 105, 110, 103])), (ts [73, 109, 112, 111, 114, 116, 87, 97, 114, 110, 105, 110, 103] 114), (.type PySem.W.SL.s8117915138073963741x13)⟩, ⟨(PyData.keyHash P (tx [80, 101, 110, 100, 105, 110, 103, 68, 101, 112, 114, 101, 99, 97, 116, 105, 111, 110, 87, 97, 114, 110, 105, 110, 103])), (ts [80, 101, 110, 100, 105, 110, 103, 68, 101, 112, 114, 101, 99, 97, 116, 105, 111, 110, 87, 97, 114, 110, 105, 110, 103] 115), (.type PySem.W.SL.s3423317712779056401x25)⟩, ⟨(PyData.keyHash P (tx [82, 101, 115, 111, 117, 114, 99, 101, 87, 97, 114, 110, 105, 110, 103])), (ts [82, 101, 115, 111, 117, 114, 99, 101, 87, 97, 114, 110, 105, 110, 103] 116), (.type PySem.W.SL.s2007317383269046180x15)⟩, ⟨(PyData.keyHash P (tx [82, 117, 110, 116, 105, 109, 101, 87, 97, 114, 110, 105, 110, 103])), (ts [82, 117, 110, 116, 105, 109, 101, 87, 97, 114, 110, 105, 110, 103] 117), (.type PySem.W.SL.s17481586968713580700x14)⟩, ⟨(PyData.keyHash P (tx [83, 121, 110, 116, 97, 120, 87, 97, 114, 110, 105, 110, 103])), (ts [83, 121, 110, 116, 97, 120, 87, 97, 114, 110, 105, 110, 103] 118), (.type PySem.W.SL.s2450899226349176912x13)⟩, ⟨(PyData.keyHash P (tx [85, 110, 105, 99, 111, 100, 101, 87, 97, 114, 110, 105, 110, 103])), (ts [85, 110, 105, 99, 111, 100, 101, 87, 97, 114, 110, 105, 110, 103] 119), (.type PySem.W.SL.s16626165730633575011x14)⟩, ⟨(PyData.keyHash P (tx [85, 115, 101, 114, 87, 97, 114, 110, 105, 110, 103])), (ts [85, 115, 101, 114, 87, 97, 114, 110, 105, 110, 103] 120), (.type PySem.W.SL.s14288496050688921416x11)⟩, ⟨(PyData.keyHash P (tx [66, 108, 111, 99, 107, 105, 110, 103, 73, 79, 69, 114, 114, 111, 114])), (ts [66, 108, 111, 99, 107, 105, 110, 103, 73, 79, 69, 114, 114, 111, 114] 121), (.type PySem.W.SL.s5735081916595925998x15)⟩, ⟨(PyData.keyHash P (tx [67, 104, 105, 108, 100, 80, 114, 111, 99, 101, 115, 115, 69, 114, 114, 111, 114])), (ts [67, 104, 105, 108, 100, 80, 114, 111, 99, 101, 115, 115, 69, 114, 114, 111, 114] 122), (.type PySem.W.SL.s3865607918536308442x17)⟩, ⟨(PyData.keyHash P (tx [67, 111, 110, 110, 101, 99, 116, 105, 111, 110, 69, 114, 114, 111, 114])), (ts [67, 111, 110, 110, 101, 99, 116, 105, 111, 110, 69, 114, 114, 111, 114] 123), (.type PySem.W.SL.s13337502604062700212x15)⟩, ⟨(PyData.keyHash P (tx [70, 105, 108, 101, 69, 120, 105, 115, 116, 115, 69, 114, 114, 111, 114])), (ts [70, 105, 108, 101, 69, 120, 105, 115, 116, 115, 69, 114, 114, 111, 114] 124), (.type PySem.W.SL.s13114017843053701147x15)⟩, ⟨(PyData.keyHash P (tx [70, 105, 108, 101, 78, 111, 116, 70, 111, 117, 110, 100, 69, 114, 114, 111, 114])), (ts [70, 105, 108, 101, 78, 111, 116, 70, 111, 117, 110, 100, 69, 114, 114, 111, 114] 125), (.type PySem.W.SL.s17467278006356818441x17)⟩, ⟨(PyData.keyHash P (tx [73, 110, 116, 101, 114, 114, 117, 112, 116, 101, 100, 69, 114, 114, 111, 114])), (ts [73, 110, 116, 101, 114, 114, 117, 112, 116, 101, 100, 69, 114, 114, 111, 114] 126), (.type PySem.W.SL.s17722149559621369488x16)⟩, ⟨(PyData.keyHash P (tx [73, 115, 65, 68, 105, 114, 101, 99, 116, 111, 114, 121, 69, 114, 114, 111, 114])), (ts [73, 115, 65, 68, 105, 114, 101, 99, 116, 111, 114, 121, 69, 114, 114, 111, 114] 127), (.type PySem.W.SL.s7855274175708717672x17)⟩, ⟨(PyData.keyHash P (tx [78, 111, 116, 65, 68, 105, 114, 101, 99, 116, 111, 114, 121, 69, 114, 114, 111, 114])), (ts [78, 111, 116, 65, 68, 105, 114, 101, 99, 116, 111, 114, 121, 69, 114, 114, 111, 114] 128), (.type PySem.W.SL.s13351283678309829046x18)⟩, ⟨(PyData.keyHash P (tx [80, 101, 114, 109, 105, 115, 115, 105, 111, 110, 69, 114, 114, 111, 114])), (ts [80, 101, 114, 109, 105, 115, 115, 105, 111, 110, 69, 114, 114, 111, 114] 129), (.type PySem.W.SL.s6668348653404991179x15)⟩, ⟨(PyData.keyHash P (tx [80, 114, 111, 99, 101, 115, 115, 76, 111, 111, 107, 117, 112, 69, 114, 114, 111, 114])), (ts [80, 114, 111, 99, 101, 115, 115, 76, 111, 111, 107, 117, 112, 69, 114, 114, 111, 114] 130), (.type PySem.W.SL.s12913350958174193794x18)⟩, ⟨(PyData.keyHash P (tx [84, 105, 109, 101, 111, 117, 116, 69, 114, 114, 111, 114])), (ts [84, 105, 109, 101, 111, 117, 116, 69, 114, 114, 111, 114] 131), (.type PySem.W.SL.s16115879512475548326x12)⟩, ⟨(PyData.keyHash P (tx [73, 110, 100, 101, 110, 116, 97, 116, 105, 111, 110, 69, 114, 114, 111, 114])), (ts [73, 110, 100, 101, 110, 116, 97, 116, 105, 111, 110, 69, 114, 114, 111, 114] 132), (.type PySem.W.SL.s15920661018069861047x16)⟩, ⟨(PyData.keyHash P (tx [95, 73, 110, 99, 111, 109, 112, 108, 101, 116, 101, 73, 110, 112, 117, 116, 69, 114, 114, 111, 114])), (ts [95, 73, 110, 99, 111, 109, 112, 108, 101, 116, 101, 73, 110, 112, 117, 116, 69, 114, 114, 111, 114] 133), (.type PySem.W.SL.s10779130036587390575x21)⟩, ⟨(PyData.keyHash P (tx [73, 110, 100, 101, 120, 69, 114, 114, 111, 114])), (ts [73, 110, 100, 101, 120, 69, 114, 114, 111, 114] 134), (.type PySem.W.SL.s7801419657504700863x10)⟩, ⟨(PyData.keyHash P (tx [75, 101, 121, 69, 114, 114, 111, 114])), (ts [75, 101, 121, 69, 114, 114, 111, 114] 135), (.type PySem.W.SL.s1688129525768580628x8)⟩, ⟨(PyData.keyHash P (tx [77, 111, 100, 117, 108, 101, 78, 111, 116, 70, 111, 117, 110, 100, 69, 114, 114, 111, 114])), (ts [77, 111, 100, 117, 108, 101, 78, 111, 116, 70, 111, 117, 110, 100, 69, 114, 114, 111, 114] 136), (.type PySem.W.SL.s1031832959479892071x19)⟩, ⟨(PyData.keyHash P (tx [78, 111, 116, 73, 109, 112, 108, 101, 109, 101, 110, 116, 101, 100, 69, 114, 114, 111, 114])), (ts [78, 111, 116, 73, 109, 112, 108, 101, 109, 101, 110, 116, 101, 100, 69, 114, 114, 111, 114] 137), (.type PySem.W.SL.s8991790508128307865x19)⟩, ⟨(PyData.keyHash P (tx [80, 121, 116, 104, 111, 110, 70, 105, 110, 97, 108, 105, 122, 97, 116, 105, 111, 110, 69, 114, 114, 111, 114])), (ts [80, 121, 116, 104, 111, 110, 70, 105, 110, 97, 108, 105, 122, 97, 116, 105, 111, 110, 69, 114, 114, 111, 114] 138), (.type PySem.W.SL.s14539662485746970245x23)⟩, ⟨(PyData.keyHash P (tx [82, 101, 99, 117, 114, 115, 105, 111, 110, 69, 114, 114, 111, 114])), (ts [82, 101, 99, 117, 114, 115, 105, 111, 110, 69, 114, 114, 111, 114] 139), (.type PySem.W.SL.s11643622729373238714x14)⟩, ⟨(PyData.keyHash P (tx [85, 110, 98, 111, 117, 110, 100, 76, 111, 99, 97, 108, 69, 114, 114, 111, 114])), (ts [85, 110, 98, 111, 117, 110, 100, 76, 111, 99, 97, 108, 69, 114, 114, 111, 114] 140), (.type PySem.W.SL.s3386828779285465597x17)⟩, ⟨(PyData.keyHash P (tx [85, 110, 105, 99, 111, 100, 101, 69, 114, 114, 111, 114])), (ts [85, 110, 105, 99, 111, 100, 101, 69, 114, 114, 111, 114] 141), (.type PySem.W.SL.s13042696260734638735x12)⟩, ⟨(PyData.keyHash P (tx [66, 114, 111, 107, 101, 110, 80, 105, 112, 101, 69, 114, 114, 111, 114])), (ts [66, 114, 111, 107, 101, 110, 80, 105, 112, 101, 69, 114, 114, 111, 114] 142), (.type PySem.W.SL.s18239426817015966623x15)⟩, ⟨(PyData.keyHash P (tx [67, 111, 110, 110, 101, 99, 116, 105, 111, 110, 65, 98, 111, 114, 116, 101, 100, 69, 114, 114, 111, 114])), (ts [67, 111, 110, 110, 101, 99, 116, 105, 111, 110, 65, 98, 111, 114, 116, 101, 100, 69, 114, 114, 111, 114] 143), (.type PySem.W.SL.s1270395311379034370x22)⟩, ⟨(PyData.keyHash P (tx [67, 111, 110, 110, 101, 99, 116, 105, 111, 110, 82, 101, 102, 117, 115, 101, 100, 69, 114, 114, 111, 114])), (ts [67, 111, 110, 110, 101, 99, 116, 105, 111, 110, 82, 101, 102, 117, 115, 101, 100, 69, 114, 114, 111, 114] 144), (.type PySem.W.SL.s10696252587037064777x22)⟩, ⟨(PyData.keyHash P (tx [67, 111, 110, 110, 101, 99, 116, 105, 111, 110, 82, 101, 115, 101, 116, 69, 114, 114, 111, 114])), (ts [67, 111, 110, 110, 101, 99, 116, 105, 111, 110, 82, 101, 115, 101, 116, 69, 114, 114, 111, 114] 145), (.type PySem.W.SL.s7852717498200857586x20)⟩, ⟨(PyData.keyHash P (tx [84, 97, 98, 69, 114, 114, 111, 114])), (ts [84, 97, 98, 69, 114, 114, 111, 114] 146), (.type PySem.W.SL.s6377248116197321094x8)⟩, ⟨(PyData.keyHash P (tx [85, 110, 105, 99, 111, 100, 101, 68, 101, 99, 111, 100, 101, 69, 114, 114, 111, 114])), (ts [85, 110, 105, 99, 111, 100, 101, 68, 101, 99, 111, 100, 101, 69, 114, 114, 111, 114] 147), (.type PySem.W.SL.s3834378056692298002x18)⟩, ⟨(PyData.keyHash P (tx [85, 110, 105, 99, 111, 100, 101, 69, 110, 99, 111, 100, 101, 69, 114, 114, 111, 114])), (ts [85, 110, 105, 99, 111, 100, 101, 69, 110, 99, 111, 100, 101, 69, 114, 114, 111, 114] 148), (.type PySem.W.SL.s17586630440231065808x18)⟩, ⟨(PyData.keyHash P (tx [85, 110, 105, 99, 111, 100, 101, 84, 114, 97, 110, 115, 108, 97, 116, 101, 69, 114, 114, 111, 114])), (ts [85, 110, 105, 99, 111, 100, 101, 84, 114, 97, 110, 115, 108, 97, 116, 101, 69, 114, 114, 111, 114] 149), (.type PySem.W.SL.s15234114252648025395x21)⟩, ⟨(PyData.keyHash P (tx [69, 120, 99, 101, 112, 116, 105, 111, 110, 71, 114, 111, 117, 112])), (ts [69, 120, 99, 101, 112, 116, 105, 111, 110, 71, 114, 111, 117, 112] 150), (.type PySem.W.SL.s8496462677383758984x14)⟩, ⟨(PyData.keyHash P (tx [69, 110, 118, 105, 114, 111, 110, 109, 101, 110, 116, 69, 114, 114, 111, 114])), (ts [69, 110, 118, 105, 114, 111, 110, 109, 101, 110, 116, 69, 114, 114, 111, 114] 151), (.type PySem.W.SL.s10852414792293593619x7)⟩, ⟨(PyData.keyHash P (tx [73, 79, 69, 114, 114, 111, 114])), (ts [73, 79, 69, 114, 114, 111, 114] 152), (.type PySem.W.SL.s10852414792293593619x7)⟩, ⟨(PyData.keyHash P (tx [111, 112, 101, 110])), (ts [111, 112, 101, 110] 153), (.builtin PySem.W.SL.s16789243406116112673x4)⟩, ⟨(PyData.keyHash P (tx [113, 117, 105, 116])), (ts [113, 117, 105, 116] 154), (.builtin PySem.W.SL.s14400166428656793546x20)⟩, ⟨(PyData.keyHash P (tx [101, 120, 105, 116])), (ts [101, 120, 105, 116] 155), (.builtin PySem.W.SL.s5857708277339239366x20)⟩, ⟨(PyData.keyHash P (tx [99, 111, 112, 121, 114, 105, 103, 104, 116])), (ts [99, 111, 112, 121, 114, 105, 103, 104, 116] 156), (.builtin "builtins.copyright#opaque")⟩, ⟨(PyData.keyHash P (tx [99, 114, 101, 100, 105, 116, 115])), (ts [99, 114, 101, 100, 105, 116, 115] 157), (.builtin "builtins.credits#opaque")⟩, ⟨(PyData.keyHash P (tx [108, 105, 99, 101, 110, 115, 101])), (ts [108, 105, 99, 101, 110, 115, 101] 158), (.builtin "builtins.license#opaque")⟩, ⟨(PyData.keyHash P (tx [104, 101, 108, 112])), (ts [104, 101, 108, 112] 159), (.builtin PySem.W.SL.s7804999707787243718x20)⟩]) 159), Array.mk []⟩
noncomputable def o1 (R : OpenLaw) (P : Params) : Obj := ⟨(.type PySem.W.SL.s14018661285674007319x4), none, (.dict (Array.mk [⟨(PyData.keyHash P (tx [98, 117, 105, 108, 116, 105, 110, 115])), (ts [98, 117, 105, 108, 116, 105, 110, 115] 162), (.ref 4)⟩, ⟨(PyData.keyHash P (tx [95, 95, 109, 97, 105, 110, 95, 95])), (ts [95, 95, 109, 97, 105, 110, 95, 95] 163), (.ref 5)⟩, ⟨(PyData.keyHash P (tx [95, 115, 114, 101])), (ts [95, 115, 114, 101] 244), (.ref 12)⟩]) 3), Array.mk []⟩
noncomputable def o2 (R : OpenLaw) (P : Params) : Obj := ⟨.none, none, (.dict (Array.mk [⟨(PyData.keyHash P (tx [105, 109, 112, 111, 114, 116, 46, 108, 111, 97, 100, 101, 100, 46, 95, 115, 114, 101])), (ts [105, 109, 112, 111, 114, 116, 46, 108, 111, 97, 100, 101, 100, 46, 95, 115, 114, 101] 183), (.bool true)⟩, ⟨(PyData.keyHash P (tx [99, 108, 97, 115, 115, 46, 95, 102, 114, 111, 122, 101, 110, 95, 105, 109, 112, 111, 114, 116, 108, 105, 98, 46, 66, 117, 105, 108, 116, 105, 110, 73, 109, 112, 111, 114, 116, 101, 114])), (ts [99, 108, 97, 115, 115, 46, 95, 102, 114, 111, 122, 101, 110, 95, 105, 109, 112, 111, 114, 116, 108, 105, 98, 46, 66, 117, 105, 108, 116, 105, 110, 73, 109, 112, 111, 114, 116, 101, 114] 185), (.ref 14)⟩, ⟨(PyData.keyHash P (tx [119, 97, 116, 99, 104, 101, 100, 46, 105, 109, 112, 111, 114, 116])), (ts [119, 97, 116, 99, 104, 101, 100, 46, 105, 109, 112, 111, 114, 116] 206), (.ref 18)⟩, ⟨(PyData.keyHash P (tx [99, 108, 97, 115, 115, 46, 95, 102, 114, 111, 122, 101, 110, 95, 105, 109, 112, 111, 114, 116, 108, 105, 98, 46, 77, 111, 100, 117, 108, 101, 83, 112, 101, 99])), (ts [99, 108, 97, 115, 115, 46, 95, 102, 114, 111, 122, 101, 110, 95, 105, 109, 112, 111, 114, 116, 108, 105, 98, 46, 77, 111, 100, 117, 108, 101, 83, 112, 101, 99] 216), (.ref 22)⟩, ⟨(PyData.keyHash P (tx [115, 121, 115, 46, 109, 111, 100, 117, 108, 101, 115, 46, 98, 111, 111, 107, 101, 100, 45, 101, 112, 111, 99, 104])), (ts [115, 121, 115, 46, 109, 111, 100, 117, 108, 101, 115, 46, 98, 111, 111, 107, 101, 100, 45, 101, 112, 111, 99, 104] 245), (.int 3 0)⟩, ⟨(PyData.keyHash P (tx [105, 109, 112, 111, 114, 116, 46, 108, 97, 116, 101, 114, 45, 108, 97, 105, 100, 46, 95, 115, 114, 101])), (ts [105, 109, 112, 111, 114, 116, 46, 108, 97, 116, 101, 114, 45, 108, 97, 105, 100, 46, 95, 115, 114, 101] 270), (.bool true)⟩, ⟨(PyData.keyHash P (tx [119, 97, 116, 99, 104, 101, 100, 46, 108, 105, 98, 114, 97, 114, 121])), (ts [119, 97, 116, 99, 104, 101, 100, 46, 108, 105, 98, 114, 97, 114, 121] 272), (.ref 27)⟩, ⟨(PyData.keyHash P (tx [119, 97, 116, 99, 104, 101, 100, 46, 108, 105, 98, 114, 97, 114, 121, 45, 111, 98, 106, 101, 99, 116, 115])), (ts [119, 97, 116, 99, 104, 101, 100, 46, 108, 105, 98, 114, 97, 114, 121, 45, 111, 98, 106, 101, 99, 116, 115] 0), (x1 12 0)⟩, ⟨(PyData.keyHash P (tx [119, 97, 116, 99, 104, 101, 100, 46, 108, 105, 98, 114, 97, 114, 121, 45, 100, 101, 101, 112, 46, 95, 115, 114, 101])), (ts [119, 97, 116, 99, 104, 101, 100, 46, 108, 105, 98, 114, 97, 114, 121, 45, 100, 101, 101, 112, 46, 95, 115, 114, 101] 273), (ts [4, 0, 0, 11, 4, 0, 0, 11, 4, 0, 0, 3, 4, 0, 0, 11, 8, 4, 100, 105, 99, 116, 2] 0)⟩]) 9), Array.mk []⟩
noncomputable def o3 (R : OpenLaw) (P : Params) : Obj := ⟨(.type PySem.W.SL.s14018661285674007319x4), none, (.dict (Array.mk [⟨(PyData.keyHash P (tx [95, 95, 110, 97, 109, 101, 95, 95])), (ts [95, 95, 110, 97, 109, 101, 95, 95] 165), (ts [95, 95, 109, 97, 105, 110, 95, 95] 164)⟩, ⟨(PyData.keyHash P (tx [95, 95, 100, 111, 99, 95, 95])), (ts [95, 95, 100, 111, 99, 95, 95] 166), .none⟩, ⟨(PyData.keyHash P (tx [95, 95, 112, 97, 99, 107, 97, 103, 101, 95, 95])), (ts [95, 95, 112, 97, 99, 107, 97, 103, 101, 95, 95] 167), .none⟩, ⟨(PyData.keyHash P (tx [95, 95, 108, 111, 97, 100, 101, 114, 95, 95])), (ts [95, 95, 108, 111, 97, 100, 101, 114, 95, 95] 168), (.builtin PySem.W.SL.s7097527257260152453x26)⟩, ⟨(PyData.keyHash P (tx [95, 95, 115, 112, 101, 99, 95, 95])), (ts [95, 95, 115, 112, 101, 99, 95, 95] 169), .none⟩, ⟨(PyData.keyHash P (tx [95, 95, 97, 110, 110, 111, 116, 97, 116, 105, 111, 110, 115, 95, 95])), (ts [95, 95, 97, 110, 110, 111, 116, 97, 116, 105, 111, 110, 115, 95, 95] 170), (.ref 6)⟩, ⟨(PyData.keyHash P (tx [95, 95, 98, 117, 105, 108, 116, 105, 110, 115, 95, 95])), (ts [95, 95, 98, 117, 105, 108, 116, 105, 110, 115, 95, 95] 171), (.ref 4)⟩, ⟨(PyData.keyHash P (tx [95, 95, 102, 105, 108, 101, 95, 95])), (ts [95, 95, 102, 105, 108, 101, 95, 95] 173), (ts [47, 99, 108, 97, 105, 109, 47, 99, 117, 116, 46, 112, 121] 172)⟩, ⟨(PyData.keyHash P (tx [95, 95, 99, 97, 99, 104, 101, 100, 95, 95])), (ts [95, 95, 99, 97, 99, 104, 101, 100, 95, 95] 174), .none⟩, ⟨(PyData.keyHash P (tx [95, 115, 114, 101])), (ts [95, 115, 114, 101] 275), (.ref 12)⟩]) 10), Array.mk []⟩
noncomputable def o4 (R : OpenLaw) (P : Params) : Obj := ⟨(.type PySem.W.SL.s6658869562736209489x6), (some 0), .plain, Array.mk []⟩
noncomputable def o5 (R : OpenLaw) (P : Params) : Obj := ⟨(.type PySem.W.SL.s6658869562736209489x6), (some 3), .plain, Array.mk []⟩
noncomputable def o6 (R : OpenLaw) (P : Params) : Obj := ⟨(.type PySem.W.SL.s14018661285674007319x4), none, (.dict (Array.mk []) 0), Array.mk []⟩
noncomputable def o7 (R : OpenLaw) (P : Params) : Obj := ⟨(.type PySem.W.SL.s2766695959194262286x5), none, (.seq (Array.mk []) 0), Array.mk []⟩
noncomputable def o8 (R : OpenLaw) (P : Params) : Obj := ⟨.none, none, (.fields (Array.mk [])), Array.mk []⟩
noncomputable def o9 (R : OpenLaw) (P : Params) : Obj := ⟨(.type PySem.W.SL.s5856160107412720595x4), none, (.fields (Array.mk [(ts [60, 109, 111, 100, 117, 108, 101, 62] 176), (ts [60, 109, 111, 100, 117, 108, 101, 62] 177), (ts [47, 99, 108, 97, 105, 109, 47, 99, 117, 116, 46, 112, 121] 178), (.int 1 0), (.int 0 0), (.int 0 0), (.int 0 0), (.int 0 0), (.ref 7), (.bool false), (.int 175 0), (.ref 8), .none, .none, .none, .none, (.int 179 0), (.int 1 0), (ts [47, 99, 108, 97, 105, 109, 47, 99, 117, 116, 46, 112, 121] 180)])), Array.mk []⟩
noncomputable def o10 (R : OpenLaw) (P : Params) : Obj := ⟨(.type PySem.W.SL.s658472552662922059x5), none, .plain, Array.mk [(some (.ref 9)), (some (.ref 3)), (some (.ref 3)), none, (some (ts [95, 95, 109, 97, 105, 110, 95, 95] 164)), none, (some (.ref 0))]⟩
noncomputable def o11 (R : OpenLaw) (P : Params) : Obj := ⟨(.type PySem.W.SL.s14018661285674007319x4), none, (.dict (Array.mk [⟨(PyData.keyHash P (tx [95, 95, 110, 97, 109, 101, 95, 95])), (ts [95, 95, 110, 97, 109, 101, 95, 95] 247), (ts [95, 115, 114, 101] 246)⟩, ⟨(PyData.keyHash P (tx [95, 95, 100, 111, 99, 95, 95])), (ts [95, 95, 100, 111, 99, 95, 95] 248), .none⟩, ⟨(PyData.keyHash P (tx [95, 95, 112, 97, 99, 107, 97, 103, 101, 95, 95])), (ts [95, 95, 112, 97, 99, 107, 97, 103, 101, 95, 95] 250), (ts [] 249)⟩, ⟨(PyData.keyHash P (tx [95, 95, 108, 111, 97, 100, 101, 114, 95, 95])), (ts [95, 95, 108, 111, 97, 100, 101, 114, 95, 95] 251), (.builtin "off-the-table:_sre.__loader__:shared#opaque")⟩, ⟨(PyData.keyHash P (tx [95, 95, 115, 112, 101, 99, 95, 95])), (ts [95, 95, 115, 112, 101, 99, 95, 95] 252), (.builtin "off-the-table:_sre.__spec__:shared#opaque")⟩, ⟨(PyData.keyHash P (tx [99, 111, 109, 112, 105, 108, 101])), (ts [99, 111, 109, 112, 105, 108, 101] 253), (.builtin PySem.W.SL.s492968859115322481x12)⟩, ⟨(PyData.keyHash P (tx [116, 101, 109, 112, 108, 97, 116, 101])), (ts [116, 101, 109, 112, 108, 97, 116, 101] 254), (.builtin "off-the-table:_sre.template:shared#opaque")⟩, ⟨(PyData.keyHash P (tx [103, 101, 116, 99, 111, 100, 101, 115, 105, 122, 101])), (ts [103, 101, 116, 99, 111, 100, 101, 115, 105, 122, 101] 255), (.builtin "off-the-table:_sre.getcodesize:shared#opaque")⟩, ⟨(PyData.keyHash P (tx [97, 115, 99, 105, 105, 95, 105, 115, 99, 97, 115, 101, 100])), (ts [97, 115, 99, 105, 105, 95, 105, 115, 99, 97, 115, 101, 100] 256), (.builtin "off-the-table:_sre.ascii_iscased:shared#opaque")⟩, ⟨(PyData.keyHash P (tx [117, 110, 105, 99, 111, 100, 101, 95, 105, 115, 99, 97, 115, 101, 100])), (ts [117, 110, 105, 99, 111, 100, 101, 95, 105, 115, 99, 97, 115, 101, 100] 257), (.builtin "off-the-table:_sre.unicode_iscased:shared#opaque")⟩, ⟨(PyData.keyHash P (tx [97, 115, 99, 105, 105, 95, 116, 111, 108, 111, 119, 101, 114])), (ts [97, 115, 99, 105, 105, 95, 116, 111, 108, 111, 119, 101, 114] 258), (.builtin "off-the-table:_sre.ascii_tolower:shared#opaque")⟩, ⟨(PyData.keyHash P (tx [117, 110, 105, 99, 111, 100, 101, 95, 116, 111, 108, 111, 119, 101, 114])), (ts [117, 110, 105, 99, 111, 100, 101, 95, 116, 111, 108, 111, 119, 101, 114] 259), (.builtin "off-the-table:_sre.unicode_tolower:shared#opaque")⟩, ⟨(PyData.keyHash P (tx [77, 65, 71, 73, 67])), (ts [77, 65, 71, 73, 67] 261), (.int 20230612 260)⟩, ⟨(PyData.keyHash P (tx [67, 79, 68, 69, 83, 73, 90, 69])), (ts [67, 79, 68, 69, 83, 73, 90, 69] 263), (.int 4 262)⟩, ⟨(PyData.keyHash P (tx [77, 65, 88, 82, 69, 80, 69, 65, 84])), (ts [77, 65, 88, 82, 69, 80, 69, 65, 84] 265), (.int 4294967295 264)⟩, ⟨(PyData.keyHash P (tx [77, 65, 88, 71, 82, 79, 85, 80, 83])), (ts [77, 65, 88, 71, 82, 79, 85, 80, 83] 267), (.int 1073741823 266)⟩, ⟨(PyData.keyHash P (tx [99, 111, 112, 121, 114, 105, 103, 104, 116])), (ts [99, 111, 112, 121, 114, 105, 103, 104, 116] 269), (ts [32, 83, 82, 69, 32, 50, 46, 50, 46, 50, 32, 67, 111, 112, 121, 114, 105, 103, 104, 116, 32, 40, 99, 41, 32, 49, 57, 57, 55, 45, 50, 48, 48, 50, 32, 98, 121, 32, 83, 101, 99, 114, 101, 116, 32, 76, 97, 98, 115, 32, 65, 66, 32] 268)⟩]) 17), Array.mk []⟩
noncomputable def o12 (R : OpenLaw) (P : Params) : Obj := ⟨(.type PySem.W.SL.s6658869562736209489x6), (some 11), .plain, Array.mk []⟩
noncomputable def o13 (R : OpenLaw) (P : Params) : Obj := ⟨(.type PySem.W.SL.s14018661285674007319x4), none, (.dict (Array.mk [⟨(PyData.keyHash P (tx [95, 95, 109, 111, 100, 117, 108, 101, 95, 95])), (ts [95, 95, 109, 111, 100, 117, 108, 101, 95, 95] 189), (ts [95, 102, 114, 111, 122, 101, 110, 95, 105, 109, 112, 111, 114, 116, 108, 105, 98] 186)⟩, ⟨(PyData.keyHash P (tx [95, 95, 102, 105, 114, 115, 116, 108, 105, 110, 101, 110, 111, 95, 95])), (ts [95, 95, 102, 105, 114, 115, 116, 108, 105, 110, 101, 110, 111, 95, 95] 190), (.int 971 187)⟩, ⟨(PyData.keyHash P (tx [95, 95, 100, 111, 99, 95, 95])), (ts [95, 95, 100, 111, 99, 95, 95] 191), (.builtin "_frozen_importlib.BuiltinImporter.__doc__:str#opaque")⟩, ⟨(PyData.keyHash P (tx [95, 79, 82, 73, 71, 73, 78])), (ts [95, 79, 82, 73, 71, 73, 78] 192), (ts [98, 117, 105, 108, 116, 45, 105, 110] 188)⟩, ⟨(PyData.keyHash P (tx [102, 105, 110, 100, 95, 115, 112, 101, 99])), (ts [102, 105, 110, 100, 95, 115, 112, 101, 99] 193), (.builtin "_frozen_importlib.BuiltinImporter.find_spec#opaque")⟩, ⟨(PyData.keyHash P (tx [99, 114, 101, 97, 116, 101, 95, 109, 111, 100, 117, 108, 101])), (ts [99, 114, 101, 97, 116, 101, 95, 109, 111, 100, 117, 108, 101] 194), (.builtin "_frozen_importlib.BuiltinImporter.create_module#opaque")⟩, ⟨(PyData.keyHash P (tx [101, 120, 101, 99, 95, 109, 111, 100, 117, 108, 101])), (ts [101, 120, 101, 99, 95, 109, 111, 100, 117, 108, 101] 195), (.builtin "_frozen_importlib.BuiltinImporter.exec_module#opaque")⟩, ⟨(PyData.keyHash P (tx [103, 101, 116, 95, 99, 111, 100, 101])), (ts [103, 101, 116, 95, 99, 111, 100, 101] 196), (.builtin "_frozen_importlib.BuiltinImporter.get_code#opaque")⟩, ⟨(PyData.keyHash P (tx [103, 101, 116, 95, 115, 111, 117, 114, 99, 101])), (ts [103, 101, 116, 95, 115, 111, 117, 114, 99, 101] 197), (.builtin "_frozen_importlib.BuiltinImporter.get_source#opaque")⟩, ⟨(PyData.keyHash P (tx [105, 115, 95, 112, 97, 99, 107, 97, 103, 101])), (ts [105, 115, 95, 112, 97, 99, 107, 97, 103, 101] 198), (.builtin "_frozen_importlib.BuiltinImporter.is_package#opaque")⟩, ⟨(PyData.keyHash P (tx [108, 111, 97, 100, 95, 109, 111, 100, 117, 108, 101])), (ts [108, 111, 97, 100, 95, 109, 111, 100, 117, 108, 101] 199), (.builtin "_frozen_importlib.BuiltinImporter.load_module#opaque")⟩, ⟨(PyData.keyHash P (tx [95, 95, 115, 116, 97, 116, 105, 99, 95, 97, 116, 116, 114, 105, 98, 117, 116, 101, 115, 95, 95])), (ts [95, 95, 115, 116, 97, 116, 105, 99, 95, 97, 116, 116, 114, 105, 98, 117, 116, 101, 115, 95, 95] 200), (.ref 15)⟩, ⟨(PyData.keyHash P (tx [95, 95, 100, 105, 99, 116, 95, 95])), (ts [95, 95, 100, 105, 99, 116, 95, 95] 202), (.ref 16)⟩, ⟨(PyData.keyHash P (tx [95, 95, 119, 101, 97, 107, 114, 101, 102, 95, 95])), (ts [95, 95, 119, 101, 97, 107, 114, 101, 102, 95, 95] 204), (.ref 17)⟩]) 14), Array.mk []⟩
noncomputable def o14 (R : OpenLaw) (P : Params) : Obj := ⟨(.type PySem.W.SL.s17162191345867700912x4), none, (.cls ⟨(tx [66, 117, 105, 108, 116, 105, 110, 73, 109, 112, 111, 114, 116, 101, 114]), [(.type PySem.W.SL.s2742458400755230247x6)], [(.ref 14), (.type PySem.W.SL.s2742458400755230247x6)], 13, (tx [66, 117, 105, 108, 116, 105, 110, 73, 109, 112, 111, 114, 116, 101, 114]), true, [], [], false, none, false⟩), Array.mk []⟩
noncomputable def o15 (R : OpenLaw) (P : Params) : Obj := ⟨(.type PySem.W.SL.s14755015743595814543x17), none, (.fields (Array.mk [(ts [95, 95, 100, 105, 99, 116, 95, 95] 201), (.ref 14), (.builtin PySem.W.SL.s6511155373996960695x17), (.builtin PySem.W.SL.s12411053484034534018x21)])), Array.mk []⟩
noncomputable def o16 (R : OpenLaw) (P : Params) : Obj := ⟨(.type PySem.W.SL.s14755015743595814543x17), none, (.fields (Array.mk [(ts [95, 95, 119, 101, 97, 107, 114, 101, 102, 95, 95] 203), (.ref 14), (.builtin PySem.W.SL.s10220274742760427390x26), .none])), Array.mk []⟩
noncomputable def o17 (R : OpenLaw) (P : Params) : Obj := ⟨.none, none, (.seq (Array.mk [(.int 13 0), (ts [6, 189, 10, 95, 95, 109, 111, 100, 117, 108, 101, 95, 95, 6, 186, 17, 95, 102, 114, 111, 122, 101, 110, 95, 105, 109, 112, 111, 114, 116, 108, 105, 98, 6, 190, 15, 95, 95, 102, 105, 114, 115, 116, 108, 105, 110, 101, 110, 111, 95, 95, 4, 187, 0, 971, 6, 191, 7, 95, 95, 100, 111, 99, 95, 95, 9, 52, 95, 102, 114, 111, 122, 101, 110, 95, 105, 109, 112, 111, 114, 116, 108, 105, 98, 46, 66, 117, 105, 108, 116, 105, 110, 73, 109, 112, 111, 114, 116, 101, 114, 46, 95, 95, 100, 111, 99, 95, 95, 58, 115, 116, 114, 35, 111, 112, 97, 113, 117, 101, 6, 192, 7, 95, 79, 82, 73, 71, 73, 78, 6, 188, 8, 98, 117, 105, 108, 116, 45, 105, 110, 6, 193, 9, 102, 105, 110, 100, 95, 115, 112, 101, 99, 9, 50, 95, 102, 114, 111, 122, 101, 110, 95, 105, 109, 112, 111, 114, 116, 108, 105, 98, 46, 66, 117, 105, 108, 116, 105, 110, 73, 109, 112, 111, 114, 116, 101, 114, 46, 102, 105, 110, 100, 95, 115, 112, 101, 99, 35, 111, 112, 97, 113, 117, 101, 6, 194, 13, 99, 114, 101, 97, 116, 101, 95, 109, 111, 100, 117, 108, 101, 9, 54, 95, 102, 114, 111, 122, 101, 110, 95, 105, 109, 112, 111, 114, 116, 108, 105, 98, 46, 66, 117, 105, 108, 116, 105, 110, 73, 109, 112, 111, 114, 116, 101, 114, 46, 99, 114, 101, 97, 116, 101, 95, 109, 111, 100, 117, 108, 101, 35, 111, 112, 97, 113, 117, 101, 6, 195, 11, 101, 120, 101, 99, 95, 109, 111, 100, 117, 108, 101, 9, 52, 95, 102, 114, 111, 122, 101, 110, 95, 105, 109, 112, 111, 114, 116, 108, 105, 98, 46, 66, 117, 105, 108, 116, 105, 110, 73, 109, 112, 111, 114, 116, 101, 114, 46, 101, 120, 101, 99, 95, 109, 111, 100, 117, 108, 101, 35, 111, 112, 97, 113, 117, 101, 6, 196, 8, 103, 101, 116, 95, 99, 111, 100, 101, 9, 49, 95, 102, 114, 111, 122, 101, 110, 95, 105, 109, 112, 111, 114, 116, 108, 105, 98, 46, 66, 117, 105, 108, 116, 105, 110, 73, 109, 112, 111, 114, 116, 101, 114, 46, 103, 101, 116, 95, 99, 111, 100, 101, 35, 111, 112, 97, 113, 117, 101, 6, 197, 10, 103, 101, 116, 95, 115, 111, 117, 114, 99, 101, 9, 51, 95, 102, 114, 111, 122, 101, 110, 95, 105, 109, 112, 111, 114, 116, 108, 105, 98, 46, 66, 117, 105, 108, 116, 105, 110, 73, 109, 112, 111, 114, 116, 101, 114, 46, 103, 101, 116, 95, 115, 111, 117, 114, 99, 101, 35, 111, 112, 97, 113, 117, 101, 6, 198, 10, 105, 115, 95, 112, 97, 99, 107, 97, 103, 101, 9, 51, 95, 102, 114, 111, 122, 101, 110, 95, 105, 109, 112, 111, 114, 116, 108, 105, 98, 46, 66, 117, 105, 108, 116, 105, 110, 73, 109, 112, 111, 114, 116, 101, 114, 46, 105, 115, 95, 112, 97, 99, 107, 97, 103, 101, 35, 111, 112, 97, 113, 117, 101, 6, 199, 11, 108, 111, 97, 100, 95, 109, 111, 100, 117, 108, 101, 9, 52, 95, 102, 114, 111, 122, 101, 110, 95, 105, 109, 112, 111, 114, 116, 108, 105, 98, 46, 66, 117, 105, 108, 116, 105, 110, 73, 109, 112, 111, 114, 116, 101, 114, 46, 108, 111, 97, 100, 95, 109, 111, 100, 117, 108, 101, 35, 111, 112, 97, 113, 117, 101, 6, 200, 21, 95, 95, 115, 116, 97, 116, 105, 99, 95, 97, 116, 116, 114, 105, 98, 117, 116, 101, 115, 95, 95, 4, 0, 0, 15, 6, 202, 8, 95, 95, 100, 105, 99, 116, 95, 95, 4, 0, 0, 16, 6, 204, 11, 95, 95, 119, 101, 97, 107, 114, 101, 102, 95, 95, 4, 0, 0, 17] 0), (.bool true), (.bool true), (ts [] 205), (.int 21 0), (ts [6, 227, 10, 95, 95, 109, 111, 100, 117, 108, 101, 95, 95, 6, 217, 17, 95, 102, 114, 111, 122, 101, 110, 95, 105, 109, 112, 111, 114, 116, 108, 105, 98, 6, 228, 15, 95, 95, 102, 105, 114, 115, 116, 108, 105, 110, 101, 110, 111, 95, 95, 4, 218, 0, 562, 6, 229, 7, 95, 95, 100, 111, 99, 95, 95, 9, 47, 95, 102, 114, 111, 122, 101, 110, 95, 105, 109, 112, 111, 114, 116, 108, 105, 98, 46, 77, 111, 100, 117, 108, 101, 83, 112, 101, 99, 46, 95, 95, 100, 111, 99, 95, 95, 58, 115, 116, 114, 35, 111, 112, 97, 113, 117, 101, 6, 230, 8, 95, 95, 105, 110, 105, 116, 95, 95, 9, 44, 95, 102, 114, 111, 122, 101, 110, 95, 105, 109, 112, 111, 114, 116, 108, 105, 98, 46, 77, 111, 100, 117, 108, 101, 83, 112, 101, 99, 46, 95, 95, 105, 110, 105, 116, 95, 95, 35, 111, 112, 97, 113, 117, 101, 6, 231, 8, 95, 95, 114, 101, 112, 114, 95, 95, 9, 44, 95, 102, 114, 111, 122, 101, 110, 95, 105, 109, 112, 111, 114, 116, 108, 105, 98, 46, 77, 111, 100, 117, 108, 101, 83, 112, 101, 99, 46, 95, 95, 114, 101, 112, 114, 95, 95, 35, 111, 112, 97, 113, 117, 101, 6, 232, 6, 95, 95, 101, 113, 95, 95, 9, 42, 95, 102, 114, 111, 122, 101, 110, 95, 105, 109, 112, 111, 114, 116, 108, 105, 98, 46, 77, 111, 100, 117, 108, 101, 83, 112, 101, 99, 46, 95, 95, 101, 113, 95, 95, 35, 111, 112, 97, 113, 117, 101, 6, 233, 6, 99, 97, 99, 104, 101, 100, 9, 42, 95, 102, 114, 111, 122, 101, 110, 95, 105, 109, 112, 111, 114, 116, 108, 105, 98, 46, 77, 111, 100, 117, 108, 101, 83, 112, 101, 99, 46, 99, 97, 99, 104, 101, 100, 35, 111, 112, 97, 113, 117, 101, 6, 234, 6, 112, 97, 114, 101, 110, 116, 9, 42, 95, 102, 114, 111, 122, 101, 110, 95, 105, 109, 112, 111, 114, 116, 108, 105, 98, 46, 77, 111, 100, 117, 108, 101, 83, 112, 101, 99, 46, 112, 97, 114, 101, 110, 116, 35, 111, 112, 97, 113, 117, 101, 6, 235, 12, 104, 97, 115, 95, 108, 111, 99, 97, 116, 105, 111, 110, 9, 48, 95, 102, 114, 111, 122, 101, 110, 95, 105, 109, 112, 111, 114, 116, 108, 105, 98, 46, 77, 111, 100, 117, 108, 101, 83, 112, 101, 99, 46, 104, 97, 115, 95, 108, 111, 99, 97, 116, 105, 111, 110, 35, 111, 112, 97, 113, 117, 101, 6, 236, 21, 95, 95, 115, 116, 97, 116, 105, 99, 95, 97, 116, 116, 114, 105, 98, 117, 116, 101, 115, 95, 95, 4, 0, 0, 23, 6, 238, 8, 95, 95, 100, 105, 99, 116, 95, 95, 4, 0, 0, 24, 6, 240, 11, 95, 95, 119, 101, 97, 107, 114, 101, 102, 95, 95, 4, 0, 0, 25, 6, 241, 8, 95, 95, 104, 97, 115, 104, 95, 95, 0] 0), (.bool true), (.bool true), (ts [] 242)]) 1), Array.mk []⟩
noncomputable def o18 (R : OpenLaw) (P : Params) : Obj := ⟨(.type PySem.W.SL.s9222952809800978799x4), none, (.seq (Array.mk []) 0), Array.mk []⟩
noncomputable def o19 (R : OpenLaw) (P : Params) : Obj := ⟨(.type PySem.W.SL.s14018661285674007319x4), none, (.dict (Array.mk [⟨(PyData.keyHash P (tx [110, 97, 109, 101])), (ts [110, 97, 109, 101] 208), (ts [95, 115, 114, 101] 207)⟩, ⟨(PyData.keyHash P (tx [108, 111, 97, 100, 101, 114])), (ts [108, 111, 97, 100, 101, 114] 209), (.ref 14)⟩, ⟨(PyData.keyHash P (tx [111, 114, 105, 103, 105, 110])), (ts [111, 114, 105, 103, 105, 110] 210), (ts [98, 117, 105, 108, 116, 45, 105, 110] 184)⟩, ⟨(PyData.keyHash P (tx [108, 111, 97, 100, 101, 114, 95, 115, 116, 97, 116, 101])), (ts [108, 111, 97, 100, 101, 114, 95, 115, 116, 97, 116, 101] 211), .none⟩, ⟨(PyData.keyHash P (tx [115, 117, 98, 109, 111, 100, 117, 108, 101, 95, 115, 101, 97, 114, 99, 104, 95, 108, 111, 99, 97, 116, 105, 111, 110, 115])), (ts [115, 117, 98, 109, 111, 100, 117, 108, 101, 95, 115, 101, 97, 114, 99, 104, 95, 108, 111, 99, 97, 116, 105, 111, 110, 115] 212), .none⟩, ⟨(PyData.keyHash P (tx [95, 117, 110, 105, 110, 105, 116, 105, 97, 108, 105, 122, 101, 100, 95, 115, 117, 98, 109, 111, 100, 117, 108, 101, 115])), (ts [95, 117, 110, 105, 110, 105, 116, 105, 97, 108, 105, 122, 101, 100, 95, 115, 117, 98, 109, 111, 100, 117, 108, 101, 115] 213), (.ref 19)⟩, ⟨(PyData.keyHash P (tx [95, 115, 101, 116, 95, 102, 105, 108, 101, 97, 116, 116, 114])), (ts [95, 115, 101, 116, 95, 102, 105, 108, 101, 97, 116, 116, 114] 214), (.bool false)⟩, ⟨(PyData.keyHash P (tx [95, 99, 97, 99, 104, 101, 100])), (ts [95, 99, 97, 99, 104, 101, 100] 215), .none⟩, ⟨(PyData.keyHash P (tx [95, 105, 110, 105, 116, 105, 97, 108, 105, 122, 105, 110, 103])), (ts [95, 105, 110, 105, 116, 105, 97, 108, 105, 122, 105, 110, 103] 243), (.bool false)⟩]) 9), Array.mk []⟩
noncomputable def o20 (R : OpenLaw) (P : Params) : Obj := ⟨(.type PySem.W.SL.s14018661285674007319x4), none, (.dict (Array.mk [⟨(PyData.keyHash P (tx [95, 95, 109, 111, 100, 117, 108, 101, 95, 95])), (ts [95, 95, 109, 111, 100, 117, 108, 101, 95, 95] 227), (ts [95, 102, 114, 111, 122, 101, 110, 95, 105, 109, 112, 111, 114, 116, 108, 105, 98] 217)⟩, ⟨(PyData.keyHash P (tx [95, 95, 102, 105, 114, 115, 116, 108, 105, 110, 101, 110, 111, 95, 95])), (ts [95, 95, 102, 105, 114, 115, 116, 108, 105, 110, 101, 110, 111, 95, 95] 228), (.int 562 218)⟩, ⟨(PyData.keyHash P (tx [95, 95, 100, 111, 99, 95, 95])), (ts [95, 95, 100, 111, 99, 95, 95] 229), (.builtin "_frozen_importlib.ModuleSpec.__doc__:str#opaque")⟩, ⟨(PyData.keyHash P (tx [95, 95, 105, 110, 105, 116, 95, 95])), (ts [95, 95, 105, 110, 105, 116, 95, 95] 230), (.builtin "_frozen_importlib.ModuleSpec.__init__#opaque")⟩, ⟨(PyData.keyHash P (tx [95, 95, 114, 101, 112, 114, 95, 95])), (ts [95, 95, 114, 101, 112, 114, 95, 95] 231), (.builtin "_frozen_importlib.ModuleSpec.__repr__#opaque")⟩, ⟨(PyData.keyHash P (tx [95, 95, 101, 113, 95, 95])), (ts [95, 95, 101, 113, 95, 95] 232), (.builtin "_frozen_importlib.ModuleSpec.__eq__#opaque")⟩, ⟨(PyData.keyHash P (tx [99, 97, 99, 104, 101, 100])), (ts [99, 97, 99, 104, 101, 100] 233), (.builtin "_frozen_importlib.ModuleSpec.cached#opaque")⟩, ⟨(PyData.keyHash P (tx [112, 97, 114, 101, 110, 116])), (ts [112, 97, 114, 101, 110, 116] 234), (.builtin "_frozen_importlib.ModuleSpec.parent#opaque")⟩, ⟨(PyData.keyHash P (tx [104, 97, 115, 95, 108, 111, 99, 97, 116, 105, 111, 110])), (ts [104, 97, 115, 95, 108, 111, 99, 97, 116, 105, 111, 110] 235), (.builtin "_frozen_importlib.ModuleSpec.has_location#opaque")⟩, ⟨(PyData.keyHash P (tx [95, 95, 115, 116, 97, 116, 105, 99, 95, 97, 116, 116, 114, 105, 98, 117, 116, 101, 115, 95, 95])), (ts [95, 95, 115, 116, 97, 116, 105, 99, 95, 97, 116, 116, 114, 105, 98, 117, 116, 101, 115, 95, 95] 236), (.ref 23)⟩, ⟨(PyData.keyHash P (tx [95, 95, 100, 105, 99, 116, 95, 95])), (ts [95, 95, 100, 105, 99, 116, 95, 95] 238), (.ref 24)⟩, ⟨(PyData.keyHash P (tx [95, 95, 119, 101, 97, 107, 114, 101, 102, 95, 95])), (ts [95, 95, 119, 101, 97, 107, 114, 101, 102, 95, 95] 240), (.ref 25)⟩, ⟨(PyData.keyHash P (tx [95, 95, 104, 97, 115, 104, 95, 95])), (ts [95, 95, 104, 97, 115, 104, 95, 95] 241), .none⟩]) 13), Array.mk []⟩
noncomputable def o21 (R : OpenLaw) (P : Params) : Obj := ⟨(.type PySem.W.SL.s17162191345867700912x4), none, (.cls ⟨(tx [77, 111, 100, 117, 108, 101, 83, 112, 101, 99]), [(.type PySem.W.SL.s2742458400755230247x6)], [(.ref 22), (.type PySem.W.SL.s2742458400755230247x6)], 21, (tx [77, 111, 100, 117, 108, 101, 83, 112, 101, 99]), true, [], [], false, none, false⟩), Array.mk []⟩
noncomputable def o22 (R : OpenLaw) (P : Params) : Obj := ⟨(.type PySem.W.SL.s2766695959194262286x5), none, (.seq (Array.mk [(ts [95, 99, 97, 99, 104, 101, 100] 219), (ts [95, 115, 101, 116, 95, 102, 105, 108, 101, 97, 116, 116, 114] 220), (ts [95, 117, 110, 105, 110, 105, 116, 105, 97, 108, 105, 122, 101, 100, 95, 115, 117, 98, 109, 111, 100, 117, 108, 101, 115] 221), (ts [108, 111, 97, 100, 101, 114] 222), (ts [108, 111, 97, 100, 101, 114, 95, 115, 116, 97, 116, 101] 223), (ts [110, 97, 109, 101] 224), (ts [111, 114, 105, 103, 105, 110] 225), (ts [115, 117, 98, 109, 111, 100, 117, 108, 101, 95, 115, 101, 97, 114, 99, 104, 95, 108, 111, 99, 97, 116, 105, 111, 110, 115] 226)]) 0), Array.mk []⟩
noncomputable def o23 (R : OpenLaw) (P : Params) : Obj := ⟨(.type PySem.W.SL.s14755015743595814543x17), none, (.fields (Array.mk [(ts [95, 95, 100, 105, 99, 116, 95, 95] 237), (.ref 22), (.builtin PySem.W.SL.s6511155373996960695x17), (.builtin PySem.W.SL.s12411053484034534018x21)])), Array.mk []⟩
noncomputable def o24 (R : OpenLaw) (P : Params) : Obj := ⟨(.type PySem.W.SL.s14755015743595814543x17), none, (.fields (Array.mk [(ts [95, 95, 119, 101, 97, 107, 114, 101, 102, 95, 95] 239), (.ref 22), (.builtin PySem.W.SL.s10220274742760427390x26), .none])), Array.mk []⟩
noncomputable def o25 (R : OpenLaw) (P : Params) : Obj := ⟨(.ref 22), (some 20), .plain, Array.mk []⟩
noncomputable def o26 (R : OpenLaw) (P : Params) : Obj := ⟨.none, none, (.seq (Array.mk [(.int 11 0), (ts [6, 247, 8, 95, 95, 110, 97, 109, 101, 95, 95, 6, 246, 4, 95, 115, 114, 101, 6, 248, 7, 95, 95, 100, 111, 99, 95, 95, 0, 6, 250, 11, 95, 95, 112, 97, 99, 107, 97, 103, 101, 95, 95, 6, 249, 0, 6, 251, 10, 95, 95, 108, 111, 97, 100, 101, 114, 95, 95, 4, 0, 0, 14, 6, 252, 8, 95, 95, 115, 112, 101, 99, 95, 95, 4, 0, 0, 26, 6, 253, 7, 99, 111, 109, 112, 105, 108, 101, 9, 12, 95, 115, 114, 101, 46, 99, 111, 109, 112, 105, 108, 101, 6, 254, 8, 116, 101, 109, 112, 108, 97, 116, 101, 9, 13, 95, 115, 114, 101, 46, 116, 101, 109, 112, 108, 97, 116, 101, 6, 255, 11, 103, 101, 116, 99, 111, 100, 101, 115, 105, 122, 101, 9, 16, 95, 115, 114, 101, 46, 103, 101, 116, 99, 111, 100, 101, 115, 105, 122, 101, 6, 256, 13, 97, 115, 99, 105, 105, 95, 105, 115, 99, 97, 115, 101, 100, 9, 18, 95, 115, 114, 101, 46, 97, 115, 99, 105, 105, 95, 105, 115, 99, 97, 115, 101, 100, 6, 257, 15, 117, 110, 105, 99, 111, 100, 101, 95, 105, 115, 99, 97, 115, 101, 100, 9, 20, 95, 115, 114, 101, 46, 117, 110, 105, 99, 111, 100, 101, 95, 105, 115, 99, 97, 115, 101, 100, 6, 258, 13, 97, 115, 99, 105, 105, 95, 116, 111, 108, 111, 119, 101, 114, 9, 18, 95, 115, 114, 101, 46, 97, 115, 99, 105, 105, 95, 116, 111, 108, 111, 119, 101, 114, 6, 259, 15, 117, 110, 105, 99, 111, 100, 101, 95, 116, 111, 108, 111, 119, 101, 114, 9, 20, 95, 115, 114, 101, 46, 117, 110, 105, 99, 111, 100, 101, 95, 116, 111, 108, 111, 119, 101, 114, 6, 261, 5, 77, 65, 71, 73, 67, 4, 260, 0, 20230612, 6, 263, 8, 67, 79, 68, 69, 83, 73, 90, 69, 4, 262, 0, 4, 6, 265, 9, 77, 65, 88, 82, 69, 80, 69, 65, 84, 4, 264, 0, 4294967295, 6, 267, 9, 77, 65, 88, 71, 82, 79, 85, 80, 83, 4, 266, 0, 1073741823, 6, 269, 9, 99, 111, 112, 121, 114, 105, 103, 104, 116, 6, 268, 53, 32, 83, 82, 69, 32, 50, 46, 50, 46, 50, 32, 67, 111, 112, 121, 114, 105, 103, 104, 116, 32, 40, 99, 41, 32, 49, 57, 57, 55, 45, 50, 48, 48, 50, 32, 98, 121, 32, 83, 101, 99, 114, 101, 116, 32, 76, 97, 98, 115, 32, 65, 66, 32] 0), (.bool true), (.bool false), (ts [95, 115, 114, 101] 271)]) 0), Array.mk []⟩
noncomputable def trz (R : OpenLaw) (P : Params) : BT := (.node (o0 R P) (.node (o1 R P) (.node (o3 R P) (.node (o7 R P) (.node (o7 R P) .nil .nil) (.node (o22 R P) .nil .nil)) (.node (o11 R P) (.node (o18 R P) .nil .nil) (.node (o26 R P) .nil .nil))) (.node (o5 R P) (.node (o9 R P) (.node (o16 R P) .nil .nil) (.node (o24 R P) .nil .nil)) (.node (o13 R P) (.node (o20 R P) .nil .nil) .nil))) (.node (o2 R P) (.node (o4 R P) (.node (o8 R P) (.node (o15 R P) .nil .nil) (.node (o23 R P) .nil .nil)) (.node (o12 R P) (.node (o19 R P) .nil .nil) .nil)) (.node (o6 R P) (.node (o10 R P) (.node (o17 R P) .nil .nil) (.node (o25 R P) .nil .nil)) (.node (o14 R P) (.node (o21 R P) .nil .nil) .nil))))
noncomputable def Sz : St := fun R w os => ⟨trz R w.params, 28, {}, Array.mk [], {}, 276, os⟩
noncomputable def o27 (R : OpenLaw) (P : Params) : Obj := ⟨(.type PySem.W.SL.s5856160107412720595x4), none, (.fields (Array.mk [(ts [60, 109, 111, 100, 117, 108, 101, 62] 277), (ts [60, 109, 111, 100, 117, 108, 101, 62] 278), (ts [47, 99, 108, 97, 105, 109, 47, 99, 117, 116, 46, 112, 121] 279), (.int 1 0), (.int 0 0), (.int 0 0), (.int 0 0), (.int 0 0), (.ref 28), (.bool false), (.int 276 0), (.ref 29), .none, .none, .none, .none, (.int 280 0), (.int 1 0), (ts [47, 99, 108, 97, 105, 109, 47, 99, 117, 116, 46, 112, 121] 281)])), Array.mk []⟩
noncomputable def o28 (R : OpenLaw) (P : Params) : Obj := ⟨(.type PySem.W.SL.s658472552662922059x5), none, .plain, Array.mk [(some (.ref 30)), (some (.ref 3)), (some (.ref 3)), none, (some (ts [95, 95, 109, 97, 105, 110, 95, 95] 164)), none, (some (.ref 0))]⟩
noncomputable def tra (R : OpenLaw) (P : Params) : BT := (.node (o0 R P) (.node (o1 R P) (.node (o3 R P) (.node (o7 R P) (.node (o7 R P) (.node (o28 R P) .nil .nil) .nil) (.node (o22 R P) .nil .nil)) (.node (o11 R P) (.node (o18 R P) .nil .nil) (.node (o26 R P) .nil .nil))) (.node (o5 R P) (.node (o9 R P) (.node (o16 R P) .nil .nil) (.node (o24 R P) .nil .nil)) (.node (o13 R P) (.node (o20 R P) .nil .nil) (.node (o8 R P) .nil .nil)))) (.node (o2 R P) (.node (o4 R P) (.node (o8 R P) (.node (o15 R P) .nil .nil) (.node (o23 R P) .nil .nil)) (.node (o12 R P) (.node (o19 R P) .nil .nil) (.node (o7 R P) .nil .nil))) (.node (o6 R P) (.node (o10 R P) (.node (o17 R P) .nil .nil) (.node (o25 R P) .nil .nil)) (.node (o14 R P) (.node (o21 R P) .nil .nil) (.node (o27 R P) .nil .nil)))))
noncomputable def Sa : St := fun R w os => ⟨tra R w.params, 32, {}, Array.mk [], {}, 282, os⟩
noncomputable def tr0 (R : OpenLaw) (P : Params) : BT := (.node (o0 R P) (.node (o1 R P) (.node (o3 R P) (.node (o7 R P) (.node (o7 R P) (.node (o28 R P) .nil .nil) .nil) (.node (o22 R P) .nil .nil)) (.node (o11 R P) (.node (o18 R P) .nil .nil) (.node (o26 R P) .nil .nil))) (.node (o5 R P) (.node (o9 R P) (.node (o16 R P) .nil .nil) (.node (o24 R P) .nil .nil)) (.node (o13 R P) (.node (o20 R P) .nil .nil) (.node (o8 R P) .nil .nil)))) (.node (o2 R P) (.node (o4 R P) (.node (o8 R P) (.node (o15 R P) .nil .nil) (.node (o23 R P) .nil .nil)) (.node (o12 R P) (.node (o19 R P) .nil .nil) (.node (o7 R P) .nil .nil))) (.node (o6 R P) (.node (o10 R P) (.node (o17 R P) .nil .nil) (.node (o25 R P) .nil .nil)) (.node (o14 R P) (.node (o21 R P) .nil .nil) (.node (o27 R P) .nil .nil)))))
noncomputable def S0 : St := fun R w os => ⟨tr0 R w.params, 32, {}, Array.mk [], {}, 282, os⟩
noncomputable def o29 (R : OpenLaw) (P : Params) : Obj := ⟨(.type PySem.W.SL.s14018661285674007319x4), none, (.dict (Array.mk [⟨(PyData.keyHash P (tx [95, 95, 110, 97, 109, 101, 95, 95])), (ts [95, 95, 110, 97, 109, 101, 95, 95] 165), (ts [95, 95, 109, 97, 105, 110, 95, 95] 164)⟩, ⟨(PyData.keyHash P (tx [95, 95, 100, 111, 99, 95, 95])), (ts [95, 95, 100, 111, 99, 95, 95] 166), .none⟩, ⟨(PyData.keyHash P (tx [95, 95, 112, 97, 99, 107, 97, 103, 101, 95, 95])), (ts [95, 95, 112, 97, 99, 107, 97, 103, 101, 95, 95] 167), .none⟩, ⟨(PyData.keyHash P (tx [95, 95, 108, 111, 97, 100, 101, 114, 95, 95])), (ts [95, 95, 108, 111, 97, 100, 101, 114, 95, 95] 168), (.builtin PySem.W.SL.s7097527257260152453x26)⟩, ⟨(PyData.keyHash P (tx [95, 95, 115, 112, 101, 99, 95, 95])), (ts [95, 95, 115, 112, 101, 99, 95, 95] 169), .none⟩, ⟨(PyData.keyHash P (tx [95, 95, 97, 110, 110, 111, 116, 97, 116, 105, 111, 110, 115, 95, 95])), (ts [95, 95, 97, 110, 110, 111, 116, 97, 116, 105, 111, 110, 115, 95, 95] 170), (.ref 6)⟩, ⟨(PyData.keyHash P (tx [95, 95, 98, 117, 105, 108, 116, 105, 110, 115, 95, 95])), (ts [95, 95, 98, 117, 105, 108, 116, 105, 110, 115, 95, 95] 171), (.ref 4)⟩, ⟨(PyData.keyHash P (tx [95, 95, 102, 105, 108, 101, 95, 95])), (ts [95, 95, 102, 105, 108, 101, 95, 95] 173), (ts [47, 99, 108, 97, 105, 109, 47, 99, 117, 116, 46, 112, 121] 172)⟩, ⟨(PyData.keyHash P (tx [95, 95, 99, 97, 99, 104, 101, 100, 95, 95])), (ts [95, 95, 99, 97, 99, 104, 101, 100, 95, 95] 174), .none⟩, ⟨(PyData.keyHash P (tx [95, 115, 114, 101])), (ts [95, 115, 114, 101] 275), (.ref 12)⟩, ⟨(PyData.keyHash P (tx [95, 116, 119, 105, 110, 95, 114, 101, 95, 49])), (ts [95, 116, 119, 105, 110, 95, 114, 101, 95, 49] 316), (.ref 36)⟩, ⟨(PyData.keyHash P (tx [78, 76])), (ts [78, 76] 318), (x1 10 317)⟩]) 12), Array.mk []⟩
noncomputable def o30 (R : OpenLaw) (P : Params) : Obj := ⟨(.type PySem.W.SL.s9222952809800978799x4), none, (.seq (Array.mk [(.int 14 285), (.int 8 286), (.int 1 287), (.int 3 288), (.int 3 289), (.int 1 290), (.int 1 291), (.int 61 292), (.int 0 293), (.int 16 294), (.int 61 295), (.int 24 296), (.int 16 297), (.int 2 298), (.int 2 299), (.int 13 300), (.int 11 301), (.int 9 302), (.int 0 303), (.int 67043328 304), (.int 126 305), (.int 126 306), (.int 0 307), (.int 0 308), (.int 0 309), (.int 0 310), (.int 0 311), (.int 1 312), (.int 1 313)]) 0), Array.mk []⟩
noncomputable def o31 (R : OpenLaw) (P : Params) : Obj := ⟨(.type PySem.W.SL.s2766695959194262286x5), none, (.seq (Array.mk [.none]) 0), Array.mk []⟩
noncomputable def o32 (R : OpenLaw) (P : Params) : Obj := ⟨(.type PySem.W.SL.s2766695959194262286x5), none, (.seq (Array.mk [(.int 14 0), (.int 8 0), (.int 1 0), (.int 3 0), (.int 3 0), (.int 1 0), (.int 1 0), (.int 61 0), (.int 0 0), (.int 16 0), (.int 61 0), (.int 24 0), (.int 16 0), (.int 2 0), (.int 2 0), (.int 13 0), (.int 11 0), (.int 9 0), (.int 0 0), (.int 67043328 0), (.int 126 0), (.int 126 0), (.int 0 0), (.int 0 0), (.int 0 0), (.int 0 0), (.int 0 0), (.int 1 0), (.int 1 0)]) 0), Array.mk []⟩
noncomputable def o33 (R : OpenLaw) (P : Params) : Obj := ⟨(.type PySem.W.SL.s12171344214640291687x10), none, (.fields (Array.mk [(ts [61, 91, 97, 45, 102, 65, 45, 70, 48, 45, 57, 93, 123, 50, 125] 283), (.int 256 315), (.int 0 0), .none, .none, (.ref 35), (.int 0 0)])), Array.mk []⟩
noncomputable def tr1 (R : OpenLaw) (P : Params) : BT := (.node (o0 R P) (.node (o1 R P) (.node (o29 R P) (.node (o7 R P) (.node (o7 R P) (.node (o28 R P) .nil .nil) .nil) (.node (o22 R P) .nil .nil)) (.node (o11 R P) (.node (o18 R P) (.node (o32 R P) .nil .nil) .nil) (.node (o26 R P) .nil .nil))) (.node (o5 R P) (.node (o9 R P) (.node (o16 R P) (.node (o6 R P) .nil .nil) .nil) (.node (o24 R P) .nil .nil)) (.node (o13 R P) (.node (o20 R P) .nil .nil) (.node (o8 R P) .nil .nil)))) (.node (o2 R P) (.node (o4 R P) (.node (o8 R P) (.node (o15 R P) (.node (o30 R P) .nil .nil) .nil) (.node (o23 R P) .nil .nil)) (.node (o12 R P) (.node (o19 R P) (.node (o33 R P) .nil .nil) .nil) (.node (o7 R P) .nil .nil))) (.node (o6 R P) (.node (o10 R P) (.node (o17 R P) (.node (o31 R P) .nil .nil) .nil) (.node (o25 R P) .nil .nil)) (.node (o14 R P) (.node (o21 R P) .nil .nil) (.node (o27 R P) .nil .nil)))))
noncomputable def S1 : St := fun R w os => ⟨tr1 R w.params, 37, {}, Array.mk [], {}, 319, os⟩
noncomputable def o34 (R : OpenLaw) (P : Params) : Obj := ⟨(.type PySem.W.SL.s14018661285674007319x4), none, (.dict (Array.mk [⟨(PyData.keyHash P (tx [95, 95, 110, 97, 109, 101, 95, 95])), (ts [95, 95, 110, 97, 109, 101, 95, 95] 165), (ts [95, 95, 109, 97, 105, 110, 95, 95] 164)⟩, ⟨(PyData.keyHash P (tx [95, 95, 100, 111, 99, 95, 95])), (ts [95, 95, 100, 111, 99, 95, 95] 166), .none⟩, ⟨(PyData.keyHash P (tx [95, 95, 112, 97, 99, 107, 97, 103, 101, 95, 95])), (ts [95, 95, 112, 97, 99, 107, 97, 103, 101, 95, 95] 167), .none⟩, ⟨(PyData.keyHash P (tx [95, 95, 108, 111, 97, 100, 101, 114, 95, 95])), (ts [95, 95, 108, 111, 97, 100, 101, 114, 95, 95] 168), (.builtin PySem.W.SL.s7097527257260152453x26)⟩, ⟨(PyData.keyHash P (tx [95, 95, 115, 112, 101, 99, 95, 95])), (ts [95, 95, 115, 112, 101, 99, 95, 95] 169), .none⟩, ⟨(PyData.keyHash P (tx [95, 95, 97, 110, 110, 111, 116, 97, 116, 105, 111, 110, 115, 95, 95])), (ts [95, 95, 97, 110, 110, 111, 116, 97, 116, 105, 111, 110, 115, 95, 95] 170), (.ref 6)⟩, ⟨(PyData.keyHash P (tx [95, 95, 98, 117, 105, 108, 116, 105, 110, 115, 95, 95])), (ts [95, 95, 98, 117, 105, 108, 116, 105, 110, 115, 95, 95] 171), (.ref 4)⟩, ⟨(PyData.keyHash P (tx [95, 95, 102, 105, 108, 101, 95, 95])), (ts [95, 95, 102, 105, 108, 101, 95, 95] 173), (ts [47, 99, 108, 97, 105, 109, 47, 99, 117, 116, 46, 112, 121] 172)⟩, ⟨(PyData.keyHash P (tx [95, 95, 99, 97, 99, 104, 101, 100, 95, 95])), (ts [95, 95, 99, 97, 99, 104, 101, 100, 95, 95] 174), .none⟩, ⟨(PyData.keyHash P (tx [95, 115, 114, 101])), (ts [95, 115, 114, 101] 275), (.ref 12)⟩, ⟨(PyData.keyHash P (tx [95, 116, 119, 105, 110, 95, 114, 101, 95, 49])), (ts [95, 116, 119, 105, 110, 95, 114, 101, 95, 49] 316), (.ref 36)⟩, ⟨(PyData.keyHash P (tx [78, 76])), (ts [78, 76] 318), (x1 10 317)⟩, ⟨(PyData.keyHash P (tx [95, 81, 85, 79, 80, 82, 73, 95, 77, 65, 80])), (ts [95, 81, 85, 79, 80, 82, 73, 95, 77, 65, 80] 1346), (.ref 39)⟩]) 13), Array.mk []⟩
noncomputable def o35 (R : OpenLaw) (P : Params) : Obj := ⟨(.type PySem.W.SL.s1438033511350832697x5), none, (.fields (Array.mk [(.int 0 320), (.int 256 319), (.int 1 321)])), Array.mk []⟩
noncomputable def o36 (R : OpenLaw) (P : Params) : Obj := ⟨(.type PySem.W.SL.s15992201931430999065x14), none, (.fields (Array.mk [(.int 256 0), (.int 0 0), (.int 1 0)])), Array.mk []⟩
noncomputable def k38 : List Value := [(x3 48 48 325), (x3 48 49 329), (x3 48 50 333), (x3 48 51 337), (x3 48 52 341), (x3 48 53 345), (x3 48 54 349), (x3 48 55 353), (x3 48 56 357), (x3 48 57 361), (x3 48 65 365), (x3 48 66 369), (x3 48 67 373), (x3 48 68 377), (x3 48 69 381), (x3 48 70 385)]
noncomputable def k39 : List Value := [(x3 49 48 389), (x3 49 49 393), (x3 49 50 397), (x3 49 51 401), (x3 49 52 405), (x3 49 53 409), (x3 49 54 413), (x3 49 55 417), (x3 49 56 421), (x3 49 57 425), (x3 49 65 429), (x3 49 66 433), (x3 49 67 437), (x3 49 68 441), (x3 49 69 445), (x3 49 70 449)]
noncomputable def k40 : List Value := [(x3 50 48 453), (x3 50 49 457), (x3 50 50 461), (x3 50 51 465), (x3 50 52 469), (x3 50 53 473), (x3 50 54 477), (x3 50 55 481), (x3 50 56 485), (x3 50 57 489), (x3 50 65 493), (x3 50 66 497), (x3 50 67 501), (x3 50 68 505), (x3 50 69 509), (x3 50 70 513)]
noncomputable def k41 : List Value := [(x3 51 48 517), (x3 51 49 521), (x3 51 50 525), (x3 51 51 529), (x3 51 52 533), (x3 51 53 537), (x3 51 54 541), (x3 51 55 545), (x3 51 56 549), (x3 51 57 553), (x3 51 65 557), (x3 51 66 561), (x3 51 67 565), (x3 51 68 569), (x3 51 69 573), (x3 51 70 577)]
noncomputable def k42 : List Value := [(x3 52 48 581), (x3 52 49 585), (x3 52 50 589), (x3 52 51 593), (x3 52 52 597), (x3 52 53 601), (x3 52 54 605), (x3 52 55 609), (x3 52 56 613), (x3 52 57 617), (x3 52 65 621), (x3 52 66 625), (x3 52 67 629), (x3 52 68 633), (x3 52 69 637), (x3 52 70 641)]
noncomputable def k43 : List Value := [(x3 53 48 645), (x3 53 49 649), (x3 53 50 653), (x3 53 51 657), (x3 53 52 661), (x3 53 53 665), (x3 53 54 669), (x3 53 55 673), (x3 53 56 677), (x3 53 57 681), (x3 53 65 685), (x3 53 66 689), (x3 53 67 693), (x3 53 68 697), (x3 53 69 701), (x3 53 70 705)]
noncomputable def k44 : List Value := [(x3 54 48 709), (x3 54 49 713), (x3 54 50 717), (x3 54 51 721), (x3 54 52 725), (x3 54 53 729), (x3 54 54 733), (x3 54 55 737), (x3 54 56 741), (x3 54 57 745), (x3 54 65 749), (x3 54 66 753), (x3 54 67 757), (x3 54 68 761), (x3 54 69 765), (x3 54 70 769)]
noncomputable def k45 : List Value := [(x3 55 48 773), (x3 55 49 777), (x3 55 50 781), (x3 55 51 785), (x3 55 52 789), (x3 55 53 793), (x3 55 54 797), (x3 55 55 801), (x3 55 56 805), (x3 55 57 809), (x3 55 65 813), (x3 55 66 817), (x3 55 67 821), (x3 55 68 825), (x3 55 69 829), (x3 55 70 833)]
noncomputable def k46 : List Value := [(x3 56 48 837), (x3 56 49 841), (x3 56 50 845), (x3 56 51 849), (x3 56 52 853), (x3 56 53 857), (x3 56 54 861), (x3 56 55 865), (x3 56 56 869), (x3 56 57 873), (x3 56 65 877), (x3 56 66 881), (x3 56 67 885), (x3 56 68 889), (x3 56 69 893), (x3 56 70 897)]
noncomputable def k47 : List Value := [(x3 57 48 901), (x3 57 49 905), (x3 57 50 909), (x3 57 51 913), (x3 57 52 917), (x3 57 53 921), (x3 57 54 925), (x3 57 55 929), (x3 57 56 933), (x3 57 57 937), (x3 57 65 941), (x3 57 66 945), (x3 57 67 949), (x3 57 68 953), (x3 57 69 957), (x3 57 70 961)]
noncomputable def k48 : List Value := [(x3 65 48 965), (x3 65 49 969), (x3 65 50 973), (x3 65 51 977), (x3 65 52 981), (x3 65 53 985), (x3 65 54 989), (x3 65 55 993), (x3 65 56 997), (x3 65 57 1001), (x3 65 65 1005), (x3 65 66 1009), (x3 65 67 1013), (x3 65 68 1017), (x3 65 69 1021), (x3 65 70 1025)]
noncomputable def k49 : List Value := [(x3 66 48 1029), (x3 66 49 1033), (x3 66 50 1037), (x3 66 51 1041), (x3 66 52 1045), (x3 66 53 1049), (x3 66 54 1053), (x3 66 55 1057), (x3 66 56 1061), (x3 66 57 1065), (x3 66 65 1069), (x3 66 66 1073), (x3 66 67 1077), (x3 66 68 1081), (x3 66 69 1085), (x3 66 70 1089)]
noncomputable def k50 : List Value := [(x3 67 48 1093), (x3 67 49 1097), (x3 67 50 1101), (x3 67 51 1105), (x3 67 52 1109), (x3 67 53 1113), (x3 67 54 1117), (x3 67 55 1121), (x3 67 56 1125), (x3 67 57 1129), (x3 67 65 1133), (x3 67 66 1137), (x3 67 67 1141), (x3 67 68 1145), (x3 67 69 1149), (x3 67 70 1153)]
noncomputable def k51 : List Value := [(x3 68 48 1157), (x3 68 49 1161), (x3 68 50 1165), (x3 68 51 1169), (x3 68 52 1173), (x3 68 53 1177), (x3 68 54 1181), (x3 68 55 1185), (x3 68 56 1189), (x3 68 57 1193), (x3 68 65 1197), (x3 68 66 1201), (x3 68 67 1205), (x3 68 68 1209), (x3 68 69 1213), (x3 68 70 1217)]
noncomputable def k52 : List Value := [(x3 69 48 1221), (x3 69 49 1225), (x3 69 50 1229), (x3 69 51 1233), (x3 69 52 1237), (x3 69 53 1241), (x3 69 54 1245), (x3 69 55 1249), (x3 69 56 1253), (x3 69 57 1257), (x3 69 65 1261), (x3 69 66 1265), (x3 69 67 1269), (x3 69 68 1273), (x3 69 69 1277), (x3 69 70 1281)]
noncomputable def k53 : List Value := [(x3 70 48 1285), (x3 70 49 1289), (x3 70 50 1293), (x3 70 51 1297), (x3 70 52 1301), (x3 70 53 1305), (x3 70 54 1309), (x3 70 55 1313), (x3 70 56 1317), (x3 70 57 1321), (x3 70 65 1325), (x3 70 66 1329), (x3 70 67 1333), (x3 70 68 1337), (x3 70 69 1341), (x3 70 70 1345)]
noncomputable def o37 (R : OpenLaw) (P : Params) : Obj := ⟨(.type PySem.W.SL.s9222952809800978799x4), none, (.seq (Array.mk (k38 ++ (k39 ++ (k40 ++ (k41 ++ (k42 ++ (k43 ++ (k44 ++ (k45 ++ (k46 ++ (k47 ++ (k48 ++ (k49 ++ (k50 ++ (k51 ++ (k52 ++ (k53))))))))))))))))) 256), Array.mk []⟩
noncomputable def o54 (R : OpenLaw) (P : Params) : Obj := ⟨(.type PySem.W.SL.s14018661285674007319x4), none, (.dict (Array.mk []) 2), Array.mk []⟩
noncomputable def o55 (R : OpenLaw) (P : Params) : Obj := ⟨(.type PySem.W.SL.s5991306692159431302x13), none, (.fields (Array.mk [(.ref 41), .none, .none, .none, (.bool false), .none])), Array.mk []⟩
noncomputable def tr2 (R : OpenLaw) (P : Params) : BT := (.node (o0 R P) (.node (o1 R P) (.node (o34 R P) (.node (o7 R P) (.node (o7 R P) (.node (o28 R P) .nil .nil) .nil) (.node (o22 R P) (.node (o37 R P) .nil .nil) .nil)) (.node (o11 R P) (.node (o18 R P) (.node (o32 R P) .nil .nil) .nil) (.node (o26 R P) .nil .nil))) (.node (o5 R P) (.node (o9 R P) (.node (o16 R P) (.node (o6 R P) .nil .nil) .nil) (.node (o24 R P) (.node (o7 R P) .nil .nil) .nil)) (.node (o13 R P) (.node (o20 R P) (.node (o35 R P) .nil .nil) .nil) (.node (o8 R P) .nil .nil)))) (.node (o2 R P) (.node (o4 R P) (.node (o8 R P) (.node (o15 R P) (.node (o30 R P) .nil .nil) .nil) (.node (o23 R P) (.node (o54 R P) .nil .nil) .nil)) (.node (o12 R P) (.node (o19 R P) (.node (o33 R P) .nil .nil) .nil) (.node (o7 R P) .nil .nil))) (.node (o6 R P) (.node (o10 R P) (.node (o17 R P) (.node (o31 R P) .nil .nil) .nil) (.node (o25 R P) (.node (o55 R P) .nil .nil) .nil)) (.node (o14 R P) (.node (o21 R P) (.node (o36 R P) .nil .nil) .nil) (.node (o27 R P) .nil .nil)))))
noncomputable def S2 : St := fun R w os => ⟨tr2 R w.params, 43, {}, Array.mk [], {}, 1347, os⟩
noncomputable def o56 (R : OpenLaw) (P : Params) : Obj := ⟨(.type PySem.W.SL.s14018661285674007319x4), none, (.dict (Array.mk [⟨(PyData.keyHash P (tx [95, 95, 110, 97, 109, 101, 95, 95])), (ts [95, 95, 110, 97, 109, 101, 95, 95] 165), (ts [99, 112, 121, 51, 49, 51, 46, 101, 109, 97, 105, 108, 46, 113, 117, 111, 112, 114, 105, 109, 105, 109, 101] 1362)⟩, ⟨(PyData.keyHash P (tx [95, 95, 100, 111, 99, 95, 95])), (ts [95, 95, 100, 111, 99, 95, 95] 166), .none⟩, ⟨(PyData.keyHash P (tx [95, 95, 112, 97, 99, 107, 97, 103, 101, 95, 95])), (ts [95, 95, 112, 97, 99, 107, 97, 103, 101, 95, 95] 167), .none⟩, ⟨(PyData.keyHash P (tx [95, 95, 108, 111, 97, 100, 101, 114, 95, 95])), (ts [95, 95, 108, 111, 97, 100, 101, 114, 95, 95] 168), (.builtin PySem.W.SL.s7097527257260152453x26)⟩, ⟨(PyData.keyHash P (tx [95, 95, 115, 112, 101, 99, 95, 95])), (ts [95, 95, 115, 112, 101, 99, 95, 95] 169), .none⟩, ⟨(PyData.keyHash P (tx [95, 95, 97, 110, 110, 111, 116, 97, 116, 105, 111, 110, 115, 95, 95])), (ts [95, 95, 97, 110, 110, 111, 116, 97, 116, 105, 111, 110, 115, 95, 95] 170), (.ref 6)⟩, ⟨(PyData.keyHash P (tx [95, 95, 98, 117, 105, 108, 116, 105, 110, 115, 95, 95])), (ts [95, 95, 98, 117, 105, 108, 116, 105, 110, 115, 95, 95] 171), (.ref 4)⟩, ⟨(PyData.keyHash P (tx [95, 95, 102, 105, 108, 101, 95, 95])), (ts [95, 95, 102, 105, 108, 101, 95, 95] 173), (ts [47, 99, 108, 97, 105, 109, 47, 99, 117, 116, 46, 112, 121] 172)⟩, ⟨(PyData.keyHash P (tx [95, 95, 99, 97, 99, 104, 101, 100, 95, 95])), (ts [95, 95, 99, 97, 99, 104, 101, 100, 95, 95] 174), .none⟩, ⟨(PyData.keyHash P (tx [95, 115, 114, 101])), (ts [95, 115, 114, 101] 275), (.ref 12)⟩, ⟨(PyData.keyHash P (tx [95, 116, 119, 105, 110, 95, 114, 101, 95, 49])), (ts [95, 116, 119, 105, 110, 95, 114, 101, 95, 49] 316), (.ref 36)⟩, ⟨(PyData.keyHash P (tx [78, 76])), (ts [78, 76] 318), (x1 10 317)⟩, ⟨(PyData.keyHash P (tx [95, 81, 85, 79, 80, 82, 73, 95, 77, 65, 80])), (ts [95, 81, 85, 79, 80, 82, 73, 95, 77, 65, 80] 1346), (.ref 39)⟩, ⟨(PyData.keyHash P (tx [95, 81, 85, 79, 80, 82, 73, 95, 72, 69, 65, 68, 69, 82, 95, 77, 65, 80])), (ts [95, 81, 85, 79, 80, 82, 73, 95, 72, 69, 65, 68, 69, 82, 95, 77, 65, 80] 1347), (.ref 44)⟩, ⟨(PyData.keyHash P (tx [95, 81, 85, 79, 80, 82, 73, 95, 66, 79, 68, 89, 95, 77, 65, 80])), (ts [95, 81, 85, 79, 80, 82, 73, 95, 66, 79, 68, 89, 95, 77, 65, 80] 1348), (.ref 46)⟩, ⟨(PyData.keyHash P (tx [97, 115, 99, 105, 105, 95, 108, 111, 119, 101, 114, 99, 97, 115, 101])), (ts [97, 115, 99, 105, 105, 95, 108, 111, 119, 101, 114, 99, 97, 115, 101] 1350), (ts [97, 98, 99, 100, 101, 102, 103, 104, 105, 106, 107, 108, 109, 110, 111, 112, 113, 114, 115, 116, 117, 118, 119, 120, 121, 122] 1349)⟩, ⟨(PyData.keyHash P (tx [97, 115, 99, 105, 105, 95, 117, 112, 112, 101, 114, 99, 97, 115, 101])), (ts [97, 115, 99, 105, 105, 95, 117, 112, 112, 101, 114, 99, 97, 115, 101] 1352), (ts [65, 66, 67, 68, 69, 70, 71, 72, 73, 74, 75, 76, 77, 78, 79, 80, 81, 82, 83, 84, 85, 86, 87, 88, 89, 90] 1351)⟩, ⟨(PyData.keyHash P (tx [97, 115, 99, 105, 105, 95, 108, 101, 116, 116, 101, 114, 115])), (ts [97, 115, 99, 105, 105, 95, 108, 101, 116, 116, 101, 114, 115] 1354), (ts [97, 98, 99, 100, 101, 102, 103, 104, 105, 106, 107, 108, 109, 110, 111, 112, 113, 114, 115, 116, 117, 118, 119, 120, 121, 122, 65, 66, 67, 68, 69, 70, 71, 72, 73, 74, 75, 76, 77, 78, 79, 80, 81, 82, 83, 84, 85, 86, 87, 88, 89, 90] 1353)⟩, ⟨(PyData.keyHash P (tx [100, 105, 103, 105, 116, 115])), (ts [100, 105, 103, 105, 116, 115] 1356), (ts [48, 49, 50, 51, 52, 53, 54, 55, 56, 57] 1355)⟩, ⟨(PyData.keyHash P (tx [104, 101, 120, 100, 105, 103, 105, 116, 115])), (ts [104, 101, 120, 100, 105, 103, 105, 116, 115] 1361), (ts [48, 49, 50, 51, 52, 53, 54, 55, 56, 57, 97, 98, 99, 100, 101, 102, 65, 66, 67, 68, 69, 70] 1360)⟩]) 20), Array.mk []⟩
noncomputable def o57 (R : OpenLaw) (P : Params) : Obj := ⟨(.type PySem.W.SL.s4674234679698826739x5), none, (.fields (Array.mk [.none, .none, .none])), Array.mk []⟩
noncomputable def o58 (R : OpenLaw) (P : Params) : Obj := ⟨(.type PySem.W.SL.s9222952809800978799x4), none, (.seq (Array.mk (k38 ++ (k39 ++ (k40 ++ (k41 ++ (k42 ++ (k43 ++ (k44 ++ (k45 ++ (k46 ++ (k47 ++ (k48 ++ (k49 ++ (k50 ++ (k51 ++ (k52 ++ (k53))))))))))))))))) 0), Array.mk []⟩
noncomputable def tr3 (R : OpenLaw) (P : Params) : BT := (.node (o0 R P) (.node (o1 R P) (.node (o56 R P) (.node (o7 R P) (.node (o7 R P) (.node (o28 R P) .nil .nil) .nil) (.node (o22 R P) (.node (o37 R P) .nil .nil) .nil)) (.node (o11 R P) (.node (o18 R P) (.node (o32 R P) .nil .nil) .nil) (.node (o26 R P) (.node (o57 R P) .nil .nil) .nil))) (.node (o5 R P) (.node (o9 R P) (.node (o16 R P) (.node (o6 R P) .nil .nil) .nil) (.node (o24 R P) (.node (o7 R P) .nil .nil) .nil)) (.node (o13 R P) (.node (o20 R P) (.node (o35 R P) .nil .nil) .nil) (.node (o8 R P) (.node (o57 R P) .nil .nil) .nil)))) (.node (o2 R P) (.node (o4 R P) (.node (o8 R P) (.node (o15 R P) (.node (o30 R P) .nil .nil) .nil) (.node (o23 R P) (.node (o54 R P) .nil .nil) .nil)) (.node (o12 R P) (.node (o19 R P) (.node (o33 R P) .nil .nil) .nil) (.node (o7 R P) (.node (o58 R P) .nil .nil) .nil))) (.node (o6 R P) (.node (o10 R P) (.node (o17 R P) (.node (o31 R P) .nil .nil) .nil) (.node (o25 R P) (.node (o55 R P) .nil .nil) .nil)) (.node (o14 R P) (.node (o21 R P) (.node (o36 R P) .nil .nil) .nil) (.node (o27 R P) (.node (o58 R P) .nil .nil) .nil)))))
noncomputable def S3 : St := fun R w os => ⟨tr3 R w.params, 47, {}, Array.mk [], {}, 1364, os⟩
noncomputable def o59 (R : OpenLaw) (P : Params) : Obj := ⟨(.type PySem.W.SL.s14018661285674007319x4), none, (.dict (Array.mk [⟨(PyData.keyHash P (tx [95, 95, 110, 97, 109, 101, 95, 95])), (ts [95, 95, 110, 97, 109, 101, 95, 95] 165), (ts [99, 112, 121, 51, 49, 51, 46, 101, 109, 97, 105, 108, 46, 113, 117, 111, 112, 114, 105, 109, 105, 109, 101] 1362)⟩, ⟨(PyData.keyHash P (tx [95, 95, 100, 111, 99, 95, 95])), (ts [95, 95, 100, 111, 99, 95, 95] 166), .none⟩, ⟨(PyData.keyHash P (tx [95, 95, 112, 97, 99, 107, 97, 103, 101, 95, 95])), (ts [95, 95, 112, 97, 99, 107, 97, 103, 101, 95, 95] 167), .none⟩, ⟨(PyData.keyHash P (tx [95, 95, 108, 111, 97, 100, 101, 114, 95, 95])), (ts [95, 95, 108, 111, 97, 100, 101, 114, 95, 95] 168), (.builtin PySem.W.SL.s7097527257260152453x26)⟩, ⟨(PyData.keyHash P (tx [95, 95, 115, 112, 101, 99, 95, 95])), (ts [95, 95, 115, 112, 101, 99, 95, 95] 169), .none⟩, ⟨(PyData.keyHash P (tx [95, 95, 97, 110, 110, 111, 116, 97, 116, 105, 111, 110, 115, 95, 95])), (ts [95, 95, 97, 110, 110, 111, 116, 97, 116, 105, 111, 110, 115, 95, 95] 170), (.ref 6)⟩, ⟨(PyData.keyHash P (tx [95, 95, 98, 117, 105, 108, 116, 105, 110, 115, 95, 95])), (ts [95, 95, 98, 117, 105, 108, 116, 105, 110, 115, 95, 95] 171), (.ref 4)⟩, ⟨(PyData.keyHash P (tx [95, 95, 102, 105, 108, 101, 95, 95])), (ts [95, 95, 102, 105, 108, 101, 95, 95] 173), (ts [47, 99, 108, 97, 105, 109, 47, 99, 117, 116, 46, 112, 121] 172)⟩, ⟨(PyData.keyHash P (tx [95, 95, 99, 97, 99, 104, 101, 100, 95, 95])), (ts [95, 95, 99, 97, 99, 104, 101, 100, 95, 95] 174), .none⟩, ⟨(PyData.keyHash P (tx [95, 115, 114, 101])), (ts [95, 115, 114, 101] 275), (.ref 12)⟩, ⟨(PyData.keyHash P (tx [95, 116, 119, 105, 110, 95, 114, 101, 95, 49])), (ts [95, 116, 119, 105, 110, 95, 114, 101, 95, 49] 316), (.ref 36)⟩, ⟨(PyData.keyHash P (tx [78, 76])), (ts [78, 76] 318), (x1 10 317)⟩, ⟨(PyData.keyHash P (tx [95, 81, 85, 79, 80, 82, 73, 95, 77, 65, 80])), (ts [95, 81, 85, 79, 80, 82, 73, 95, 77, 65, 80] 1346), (.ref 39)⟩, ⟨(PyData.keyHash P (tx [95, 81, 85, 79, 80, 82, 73, 95, 72, 69, 65, 68, 69, 82, 95, 77, 65, 80])), (ts [95, 81, 85, 79, 80, 82, 73, 95, 72, 69, 65, 68, 69, 82, 95, 77, 65, 80] 1347), (.ref 44)⟩, ⟨(PyData.keyHash P (tx [95, 81, 85, 79, 80, 82, 73, 95, 66, 79, 68, 89, 95, 77, 65, 80])), (ts [95, 81, 85, 79, 80, 82, 73, 95, 66, 79, 68, 89, 95, 77, 65, 80] 1348), (.ref 46)⟩, ⟨(PyData.keyHash P (tx [97, 115, 99, 105, 105, 95, 108, 111, 119, 101, 114, 99, 97, 115, 101])), (ts [97, 115, 99, 105, 105, 95, 108, 111, 119, 101, 114, 99, 97, 115, 101] 1350), (ts [97, 98, 99, 100, 101, 102, 103, 104, 105, 106, 107, 108, 109, 110, 111, 112, 113, 114, 115, 116, 117, 118, 119, 120, 121, 122] 1349)⟩, ⟨(PyData.keyHash P (tx [97, 115, 99, 105, 105, 95, 117, 112, 112, 101, 114, 99, 97, 115, 101])), (ts [97, 115, 99, 105, 105, 95, 117, 112, 112, 101, 114, 99, 97, 115, 101] 1352), (ts [65, 66, 67, 68, 69, 70, 71, 72, 73, 74, 75, 76, 77, 78, 79, 80, 81, 82, 83, 84, 85, 86, 87, 88, 89, 90] 1351)⟩, ⟨(PyData.keyHash P (tx [97, 115, 99, 105, 105, 95, 108, 101, 116, 116, 101, 114, 115])), (ts [97, 115, 99, 105, 105, 95, 108, 101, 116, 116, 101, 114, 115] 1354), (ts [97, 98, 99, 100, 101, 102, 103, 104, 105, 106, 107, 108, 109, 110, 111, 112, 113, 114, 115, 116, 117, 118, 119, 120, 121, 122, 65, 66, 67, 68, 69, 70, 71, 72, 73, 74, 75, 76, 77, 78, 79, 80, 81, 82, 83, 84, 85, 86, 87, 88, 89, 90] 1353)⟩, ⟨(PyData.keyHash P (tx [100, 105, 103, 105, 116, 115])), (ts [100, 105, 103, 105, 116, 115] 1356), (ts [48, 49, 50, 51, 52, 53, 54, 55, 56, 57] 1355)⟩, ⟨(PyData.keyHash P (tx [104, 101, 120, 100, 105, 103, 105, 116, 115])), (ts [104, 101, 120, 100, 105, 103, 105, 116, 115] 1361), (ts [48, 49, 50, 51, 52, 53, 54, 55, 56, 57, 97, 98, 99, 100, 101, 102, 65, 66, 67, 68, 69, 70] 1360)⟩, ⟨(PyData.keyHash P (tx [99])), (x1 99 1372), (.int 57 1569)⟩]) 21), Array.mk []⟩
noncomputable def k61 : List Value := [(x3 50 48 453), (x1 33 1376), (x3 50 50 461), (x3 50 51 465), (x3 50 52 469), (x3 50 53 473), (x3 50 54 477), (x3 50 55 481), (x3 50 56 485), (x3 50 57 489), (x1 42 1379), (x1 43 1382), (x3 50 67 501), (x1 45 1373), (x3 50 69 509), (x1 47 1385)]
noncomputable def k62 : List Value := [(x1 48 1544), (x1 49 1547), (x1 50 1550), (x1 51 1553), (x1 52 1556), (x1 53 1559), (x1 54 1562), (x1 55 1565), (x1 56 1568), (x1 57 1571), (x3 51 65 557), (x3 51 66 561), (x3 51 67 565), (x3 51 68 569), (x3 51 69 573), (x3 51 70 577)]
noncomputable def k63 : List Value := [(x3 52 48 581), (x1 65 1466), (x1 66 1469), (x1 67 1472), (x1 68 1475), (x1 69 1478), (x1 70 1481), (x1 71 1484), (x1 72 1487), (x1 73 1490), (x1 74 1493), (x1 75 1496), (x1 76 1499), (x1 77 1502), (x1 78 1505), (x1 79 1508)]
noncomputable def k64 : List Value := [(x1 80 1511), (x1 81 1514), (x1 82 1517), (x1 83 1520), (x1 84 1523), (x1 85 1526), (x1 86 1529), (x1 87 1532), (x1 88 1535), (x1 89 1538), (x1 90 1541), (x3 53 66 689), (x3 53 67 693), (x3 53 68 697), (x3 53 69 701), (x3 53 70 705)]
noncomputable def k65 : List Value := [(x3 54 48 709), (x1 97 1388), (x1 98 1391), (x1 99 1394), (x1 100 1397), (x1 101 1400), (x1 102 1403), (x1 103 1406), (x1 104 1409), (x1 105 1412), (x1 106 1415), (x1 107 1418), (x1 108 1421), (x1 109 1424), (x1 110 1427), (x1 111 1430)]
noncomputable def k66 : List Value := [(x1 112 1433), (x1 113 1436), (x1 114 1439), (x1 115 1442), (x1 116 1445), (x1 117 1448), (x1 118 1451), (x1 119 1454), (x1 120 1457), (x1 121 1460), (x1 122 1463), (x3 55 66 817), (x3 55 67 821), (x3 55 68 825), (x3 55 69 829), (x3 55 70 833)]
noncomputable def o60 (R : OpenLaw) (P : Params) : Obj := ⟨(.type PySem.W.SL.s9222952809800978799x4), none, (.seq (Array.mk (k38 ++ (k39 ++ (k61 ++ (k62 ++ (k63 ++ (k64 ++ (k65 ++ (k66 ++ (k46 ++ (k47 ++ (k48 ++ (k49 ++ (k50 ++ (k51 ++ (k52 ++ (k53))))))))))))))))) 0), Array.mk []⟩
noncomputable def o67 (R : OpenLaw) (P : Params) : Obj := ⟨(.type PySem.W.SL.s1378417608194177226x14), none, (.fields (Array.mk [.none, (.int 67 0)])), Array.mk []⟩
noncomputable def o68 (R : OpenLaw) (P : Params) : Obj := ⟨(.type PySem.W.SL.s5991306692159431302x13), none, (.fields (Array.mk [(.ref 48), .none, .none, .none, (.bool false), .none])), Array.mk []⟩
noncomputable def tr4 (R : OpenLaw) (P : Params) : BT := (.node (o0 R P) (.node (o1 R P) (.node (o59 R P) (.node (o7 R P) (.node (o7 R P) (.node (o28 R P) .nil .nil) (.node (o67 R P) .nil .nil)) (.node (o22 R P) (.node (o37 R P) .nil .nil) .nil)) (.node (o11 R P) (.node (o18 R P) (.node (o32 R P) .nil .nil) .nil) (.node (o26 R P) (.node (o57 R P) .nil .nil) .nil))) (.node (o5 R P) (.node (o9 R P) (.node (o16 R P) (.node (o6 R P) .nil .nil) (.node (o68 R P) .nil .nil)) (.node (o24 R P) (.node (o7 R P) .nil .nil) .nil)) (.node (o13 R P) (.node (o20 R P) (.node (o35 R P) .nil .nil) .nil) (.node (o8 R P) (.node (o57 R P) .nil .nil) .nil)))) (.node (o2 R P) (.node (o4 R P) (.node (o8 R P) (.node (o15 R P) (.node (o30 R P) .nil .nil) (.node (o7 R P) .nil .nil)) (.node (o23 R P) (.node (o54 R P) .nil .nil) .nil)) (.node (o12 R P) (.node (o19 R P) (.node (o33 R P) .nil .nil) .nil) (.node (o7 R P) (.node (o60 R P) .nil .nil) .nil))) (.node (o6 R P) (.node (o10 R P) (.node (o17 R P) (.node (o31 R P) .nil .nil) .nil) (.node (o25 R P) (.node (o55 R P) .nil .nil) .nil)) (.node (o14 R P) (.node (o21 R P) (.node (o36 R P) .nil .nil) .nil) (.node (o27 R P) (.node (o58 R P) .nil .nil) .nil)))))
noncomputable def S4 : St := fun R w os => ⟨tr4 R w.params, 50, {}, Array.mk [], {}, 1572, os⟩
noncomputable def k70 : List Value := [(x1 95 1572), (x1 33 1376), (x3 50 50 461), (x3 50 51 465), (x3 50 52 469), (x3 50 53 473), (x3 50 54 477), (x3 50 55 481), (x3 50 56 485), (x3 50 57 489), (x1 42 1379), (x1 43 1382), (x3 50 67 501), (x1 45 1373), (x3 50 69 509), (x1 47 1385)]
noncomputable def o69 (R : OpenLaw) (P : Params) : Obj := ⟨(.type PySem.W.SL.s9222952809800978799x4), none, (.seq (Array.mk (k38 ++ (k39 ++ (k70 ++ (k62 ++ (k63 ++ (k64 ++ (k65 ++ (k66 ++ (k46 ++ (k47 ++ (k48 ++ (k49 ++ (k50 ++ (k51 ++ (k52 ++ (k53))))))))))))))))) 0), Array.mk []⟩
noncomputable def tr5 (R : OpenLaw) (P : Params) : BT := (.node (o0 R P) (.node (o1 R P) (.node (o59 R P) (.node (o7 R P) (.node (o7 R P) (.node (o28 R P) .nil .nil) (.node (o67 R P) .nil .nil)) (.node (o22 R P) (.node (o37 R P) .nil .nil) .nil)) (.node (o11 R P) (.node (o18 R P) (.node (o32 R P) .nil .nil) .nil) (.node (o26 R P) (.node (o57 R P) .nil .nil) .nil))) (.node (o5 R P) (.node (o9 R P) (.node (o16 R P) (.node (o6 R P) .nil .nil) (.node (o68 R P) .nil .nil)) (.node (o24 R P) (.node (o7 R P) .nil .nil) .nil)) (.node (o13 R P) (.node (o20 R P) (.node (o35 R P) .nil .nil) .nil) (.node (o8 R P) (.node (o57 R P) .nil .nil) .nil)))) (.node (o2 R P) (.node (o4 R P) (.node (o8 R P) (.node (o15 R P) (.node (o30 R P) .nil .nil) (.node (o7 R P) .nil .nil)) (.node (o23 R P) (.node (o54 R P) .nil .nil) .nil)) (.node (o12 R P) (.node (o19 R P) (.node (o33 R P) .nil .nil) .nil) (.node (o7 R P) (.node (o69 R P) .nil .nil) .nil))) (.node (o6 R P) (.node (o10 R P) (.node (o17 R P) (.node (o31 R P) .nil .nil) .nil) (.node (o25 R P) (.node (o55 R P) .nil .nil) .nil)) (.node (o14 R P) (.node (o21 R P) (.node (o36 R P) .nil .nil) .nil) (.node (o27 R P) (.node (o58 R P) .nil .nil) .nil)))))
noncomputable def S5 : St := fun R w os => ⟨tr5 R w.params, 50, {}, Array.mk [], {}, 1575, os⟩
noncomputable def o71 (R : OpenLaw) (P : Params) : Obj := ⟨(.type PySem.W.SL.s14018661285674007319x4), none, (.dict (Array.mk [⟨(PyData.keyHash P (tx [95, 95, 110, 97, 109, 101, 95, 95])), (ts [95, 95, 110, 97, 109, 101, 95, 95] 165), (ts [99, 112, 121, 51, 49, 51, 46, 101, 109, 97, 105, 108, 46, 113, 117, 111, 112, 114, 105, 109, 105, 109, 101] 1362)⟩, ⟨(PyData.keyHash P (tx [95, 95, 100, 111, 99, 95, 95])), (ts [95, 95, 100, 111, 99, 95, 95] 166), .none⟩, ⟨(PyData.keyHash P (tx [95, 95, 112, 97, 99, 107, 97, 103, 101, 95, 95])), (ts [95, 95, 112, 97, 99, 107, 97, 103, 101, 95, 95] 167), .none⟩, ⟨(PyData.keyHash P (tx [95, 95, 108, 111, 97, 100, 101, 114, 95, 95])), (ts [95, 95, 108, 111, 97, 100, 101, 114, 95, 95] 168), (.builtin PySem.W.SL.s7097527257260152453x26)⟩, ⟨(PyData.keyHash P (tx [95, 95, 115, 112, 101, 99, 95, 95])), (ts [95, 95, 115, 112, 101, 99, 95, 95] 169), .none⟩, ⟨(PyData.keyHash P (tx [95, 95, 97, 110, 110, 111, 116, 97, 116, 105, 111, 110, 115, 95, 95])), (ts [95, 95, 97, 110, 110, 111, 116, 97, 116, 105, 111, 110, 115, 95, 95] 170), (.ref 6)⟩, ⟨(PyData.keyHash P (tx [95, 95, 98, 117, 105, 108, 116, 105, 110, 115, 95, 95])), (ts [95, 95, 98, 117, 105, 108, 116, 105, 110, 115, 95, 95] 171), (.ref 4)⟩, ⟨(PyData.keyHash P (tx [95, 95, 102, 105, 108, 101, 95, 95])), (ts [95, 95, 102, 105, 108, 101, 95, 95] 173), (ts [47, 99, 108, 97, 105, 109, 47, 99, 117, 116, 46, 112, 121] 172)⟩, ⟨(PyData.keyHash P (tx [95, 95, 99, 97, 99, 104, 101, 100, 95, 95])), (ts [95, 95, 99, 97, 99, 104, 101, 100, 95, 95] 174), .none⟩, ⟨(PyData.keyHash P (tx [95, 115, 114, 101])), (ts [95, 115, 114, 101] 275), (.ref 12)⟩, ⟨(PyData.keyHash P (tx [95, 116, 119, 105, 110, 95, 114, 101, 95, 49])), (ts [95, 116, 119, 105, 110, 95, 114, 101, 95, 49] 316), (.ref 36)⟩, ⟨(PyData.keyHash P (tx [78, 76])), (ts [78, 76] 318), (x1 10 317)⟩, ⟨(PyData.keyHash P (tx [95, 81, 85, 79, 80, 82, 73, 95, 77, 65, 80])), (ts [95, 81, 85, 79, 80, 82, 73, 95, 77, 65, 80] 1346), (.ref 39)⟩, ⟨(PyData.keyHash P (tx [95, 81, 85, 79, 80, 82, 73, 95, 72, 69, 65, 68, 69, 82, 95, 77, 65, 80])), (ts [95, 81, 85, 79, 80, 82, 73, 95, 72, 69, 65, 68, 69, 82, 95, 77, 65, 80] 1347), (.ref 44)⟩, ⟨(PyData.keyHash P (tx [95, 81, 85, 79, 80, 82, 73, 95, 66, 79, 68, 89, 95, 77, 65, 80])), (ts [95, 81, 85, 79, 80, 82, 73, 95, 66, 79, 68, 89, 95, 77, 65, 80] 1348), (.ref 46)⟩, ⟨(PyData.keyHash P (tx [97, 115, 99, 105, 105, 95, 108, 111, 119, 101, 114, 99, 97, 115, 101])), (ts [97, 115, 99, 105, 105, 95, 108, 111, 119, 101, 114, 99, 97, 115, 101] 1350), (ts [97, 98, 99, 100, 101, 102, 103, 104, 105, 106, 107, 108, 109, 110, 111, 112, 113, 114, 115, 116, 117, 118, 119, 120, 121, 122] 1349)⟩, ⟨(PyData.keyHash P (tx [97, 115, 99, 105, 105, 95, 117, 112, 112, 101, 114, 99, 97, 115, 101])), (ts [97, 115, 99, 105, 105, 95, 117, 112, 112, 101, 114, 99, 97, 115, 101] 1352), (ts [65, 66, 67, 68, 69, 70, 71, 72, 73, 74, 75, 76, 77, 78, 79, 80, 81, 82, 83, 84, 85, 86, 87, 88, 89, 90] 1351)⟩, ⟨(PyData.keyHash P (tx [97, 115, 99, 105, 105, 95, 108, 101, 116, 116, 101, 114, 115])), (ts [97, 115, 99, 105, 105, 95, 108, 101, 116, 116, 101, 114, 115] 1354), (ts [97, 98, 99, 100, 101, 102, 103, 104, 105, 106, 107, 108, 109, 110, 111, 112, 113, 114, 115, 116, 117, 118, 119, 120, 121, 122, 65, 66, 67, 68, 69, 70, 71, 72, 73, 74, 75, 76, 77, 78, 79, 80, 81, 82, 83, 84, 85, 86, 87, 88, 89, 90] 1353)⟩, ⟨(PyData.keyHash P (tx [100, 105, 103, 105, 116, 115])), (ts [100, 105, 103, 105, 116, 115] 1356), (ts [48, 49, 50, 51, 52, 53, 54, 55, 56, 57] 1355)⟩, ⟨(PyData.keyHash P (tx [104, 101, 120, 100, 105, 103, 105, 116, 115])), (ts [104, 101, 120, 100, 105, 103, 105, 116, 115] 1361), (ts [48, 49, 50, 51, 52, 53, 54, 55, 56, 57, 97, 98, 99, 100, 101, 102, 65, 66, 67, 68, 69, 70] 1360)⟩, ⟨(PyData.keyHash P (tx [99])), (x1 99 1372), (.int 9 1858)⟩]) 21), Array.mk []⟩
noncomputable def k73 : List Value := [(x3 48 48 325), (x3 48 49 329), (x3 48 50 333), (x3 48 51 337), (x3 48 52 341), (x3 48 53 345), (x3 48 54 349), (x3 48 55 353), (x3 48 56 357), (x1 9 1860), (x3 48 65 365), (x3 48 66 369), (x3 48 67 373), (x3 48 68 377), (x3 48 69 381), (x3 48 70 385)]
noncomputable def k74 : List Value := [(x1 32 1578), (x1 33 1581), (x1 34 1584), (x1 35 1587), (x1 36 1590), (x1 37 1593), (x1 38 1596), (x1 39 1599), (x1 40 1602), (x1 41 1605), (x1 42 1608), (x1 43 1611), (x1 44 1614), (x1 45 1617), (x1 46 1620), (x1 47 1623)]
noncomputable def k75 : List Value := [(x1 48 1626), (x1 49 1629), (x1 50 1632), (x1 51 1635), (x1 52 1638), (x1 53 1641), (x1 54 1644), (x1 55 1647), (x1 56 1650), (x1 57 1653), (x1 58 1656), (x1 59 1659), (x1 60 1662), (x3 51 68 569), (x1 62 1665), (x1 63 1668)]
noncomputable def k76 : List Value := [(x1 64 1671), (x1 65 1674), (x1 66 1677), (x1 67 1680), (x1 68 1683), (x1 69 1686), (x1 70 1689), (x1 71 1692), (x1 72 1695), (x1 73 1698), (x1 74 1701), (x1 75 1704), (x1 76 1707), (x1 77 1710), (x1 78 1713), (x1 79 1716)]
noncomputable def k77 : List Value := [(x1 80 1719), (x1 81 1722), (x1 82 1725), (x1 83 1728), (x1 84 1731), (x1 85 1734), (x1 86 1737), (x1 87 1740), (x1 88 1743), (x1 89 1746), (x1 90 1749), (x1 91 1752), (x1 92 1755), (x1 93 1758), (x1 94 1761), (x1 95 1764)]
noncomputable def k78 : List Value := [(x1 96 1767), (x1 97 1770), (x1 98 1773), (x1 99 1776), (x1 100 1779), (x1 101 1782), (x1 102 1785), (x1 103 1788), (x1 104 1791), (x1 105 1794), (x1 106 1797), (x1 107 1800), (x1 108 1803), (x1 109 1806), (x1 110 1809), (x1 111 1812)]
noncomputable def k79 : List Value := [(x1 112 1815), (x1 113 1818), (x1 114 1821), (x1 115 1824), (x1 116 1827), (x1 117 1830), (x1 118 1833), (x1 119 1836), (x1 120 1839), (x1 121 1842), (x1 122 1845), (x1 123 1848), (x1 124 1851), (x1 125 1854), (x1 126 1857), (x3 55 70 833)]
noncomputable def o72 (R : OpenLaw) (P : Params) : Obj := ⟨(.type PySem.W.SL.s9222952809800978799x4), none, (.seq (Array.mk (k73 ++ (k39 ++ (k74 ++ (k75 ++ (k76 ++ (k77 ++ (k78 ++ (k79 ++ (k46 ++ (k47 ++ (k48 ++ (k49 ++ (k50 ++ (k51 ++ (k52 ++ (k53))))))))))))))))) 0), Array.mk []⟩
noncomputable def o80 (R : OpenLaw) (P : Params) : Obj := ⟨(.type PySem.W.SL.s1378417608194177226x14), none, (.fields (Array.mk [.none, (.int 95 0)])), Array.mk []⟩
noncomputable def o81 (R : OpenLaw) (P : Params) : Obj := ⟨(.type PySem.W.SL.s5991306692159431302x13), none, (.fields (Array.mk [(.ref 51), .none, .none, .none, (.bool false), .none])), Array.mk []⟩
noncomputable def tr6 (R : OpenLaw) (P : Params) : BT := (.node (o0 R P) (.node (o1 R P) (.node (o71 R P) (.node (o7 R P) (.node (o7 R P) (.node (o28 R P) .nil .nil) (.node (o67 R P) .nil .nil)) (.node (o22 R P) (.node (o37 R P) .nil .nil) .nil)) (.node (o11 R P) (.node (o18 R P) (.node (o32 R P) .nil .nil) (.node (o7 R P) .nil .nil)) (.node (o26 R P) (.node (o57 R P) .nil .nil) .nil))) (.node (o5 R P) (.node (o9 R P) (.node (o16 R P) (.node (o6 R P) .nil .nil) (.node (o68 R P) .nil .nil)) (.node (o24 R P) (.node (o7 R P) .nil .nil) .nil)) (.node (o13 R P) (.node (o20 R P) (.node (o35 R P) .nil .nil) .nil) (.node (o8 R P) (.node (o57 R P) .nil .nil) .nil)))) (.node (o2 R P) (.node (o4 R P) (.node (o8 R P) (.node (o15 R P) (.node (o30 R P) .nil .nil) (.node (o7 R P) .nil .nil)) (.node (o23 R P) (.node (o54 R P) .nil .nil) .nil)) (.node (o12 R P) (.node (o19 R P) (.node (o33 R P) .nil .nil) (.node (o81 R P) .nil .nil)) (.node (o7 R P) (.node (o69 R P) .nil .nil) .nil))) (.node (o6 R P) (.node (o10 R P) (.node (o17 R P) (.node (o31 R P) .nil .nil) (.node (o80 R P) .nil .nil)) (.node (o25 R P) (.node (o55 R P) .nil .nil) .nil)) (.node (o14 R P) (.node (o21 R P) (.node (o36 R P) .nil .nil) .nil) (.node (o27 R P) (.node (o72 R P) .nil .nil) .nil)))))
noncomputable def S6 : St := fun R w os => ⟨tr6 R w.params, 53, {}, Array.mk [], {}, 1861, os⟩
noncomputable def o82 (R : OpenLaw) (P : Params) : Obj := ⟨(.type PySem.W.SL.s14018661285674007319x4), none, (.dict (Array.mk [⟨(PyData.keyHash P (tx [95, 95, 110, 97, 109, 101, 95, 95])), (ts [95, 95, 110, 97, 109, 101, 95, 95] 165), (ts [108, 97, 119, 95, 100, 109, 48, 48, 57, 53, 95, 48, 55] 1911)⟩, ⟨(PyData.keyHash P (tx [95, 95, 100, 111, 99, 95, 95])), (ts [95, 95, 100, 111, 99, 95, 95] 166), .none⟩, ⟨(PyData.keyHash P (tx [95, 95, 112, 97, 99, 107, 97, 103, 101, 95, 95])), (ts [95, 95, 112, 97, 99, 107, 97, 103, 101, 95, 95] 167), .none⟩, ⟨(PyData.keyHash P (tx [95, 95, 108, 111, 97, 100, 101, 114, 95, 95])), (ts [95, 95, 108, 111, 97, 100, 101, 114, 95, 95] 168), (.builtin PySem.W.SL.s7097527257260152453x26)⟩, ⟨(PyData.keyHash P (tx [95, 95, 115, 112, 101, 99, 95, 95])), (ts [95, 95, 115, 112, 101, 99, 95, 95] 169), .none⟩, ⟨(PyData.keyHash P (tx [95, 95, 97, 110, 110, 111, 116, 97, 116, 105, 111, 110, 115, 95, 95])), (ts [95, 95, 97, 110, 110, 111, 116, 97, 116, 105, 111, 110, 115, 95, 95] 170), (.ref 6)⟩, ⟨(PyData.keyHash P (tx [95, 95, 98, 117, 105, 108, 116, 105, 110, 115, 95, 95])), (ts [95, 95, 98, 117, 105, 108, 116, 105, 110, 115, 95, 95] 171), (.ref 4)⟩, ⟨(PyData.keyHash P (tx [95, 95, 102, 105, 108, 101, 95, 95])), (ts [95, 95, 102, 105, 108, 101, 95, 95] 173), (ts [47, 99, 108, 97, 105, 109, 47, 99, 117, 116, 46, 112, 121] 172)⟩, ⟨(PyData.keyHash P (tx [95, 95, 99, 97, 99, 104, 101, 100, 95, 95])), (ts [95, 95, 99, 97, 99, 104, 101, 100, 95, 95] 174), .none⟩, ⟨(PyData.keyHash P (tx [95, 115, 114, 101])), (ts [95, 115, 114, 101] 275), (.ref 12)⟩, ⟨(PyData.keyHash P (tx [95, 116, 119, 105, 110, 95, 114, 101, 95, 49])), (ts [95, 116, 119, 105, 110, 95, 114, 101, 95, 49] 316), (.ref 36)⟩, ⟨(PyData.keyHash P (tx [78, 76])), (ts [78, 76] 318), (x1 10 317)⟩, ⟨(PyData.keyHash P (tx [95, 81, 85, 79, 80, 82, 73, 95, 77, 65, 80])), (ts [95, 81, 85, 79, 80, 82, 73, 95, 77, 65, 80] 1346), (.ref 39)⟩, ⟨(PyData.keyHash P (tx [95, 81, 85, 79, 80, 82, 73, 95, 72, 69, 65, 68, 69, 82, 95, 77, 65, 80])), (ts [95, 81, 85, 79, 80, 82, 73, 95, 72, 69, 65, 68, 69, 82, 95, 77, 65, 80] 1347), (.ref 44)⟩, ⟨(PyData.keyHash P (tx [95, 81, 85, 79, 80, 82, 73, 95, 66, 79, 68, 89, 95, 77, 65, 80])), (ts [95, 81, 85, 79, 80, 82, 73, 95, 66, 79, 68, 89, 95, 77, 65, 80] 1348), (.ref 46)⟩, ⟨(PyData.keyHash P (tx [97, 115, 99, 105, 105, 95, 108, 111, 119, 101, 114, 99, 97, 115, 101])), (ts [97, 115, 99, 105, 105, 95, 108, 111, 119, 101, 114, 99, 97, 115, 101] 1350), (ts [97, 98, 99, 100, 101, 102, 103, 104, 105, 106, 107, 108, 109, 110, 111, 112, 113, 114, 115, 116, 117, 118, 119, 120, 121, 122] 1349)⟩, ⟨(PyData.keyHash P (tx [97, 115, 99, 105, 105, 95, 117, 112, 112, 101, 114, 99, 97, 115, 101])), (ts [97, 115, 99, 105, 105, 95, 117, 112, 112, 101, 114, 99, 97, 115, 101] 1352), (ts [65, 66, 67, 68, 69, 70, 71, 72, 73, 74, 75, 76, 77, 78, 79, 80, 81, 82, 83, 84, 85, 86, 87, 88, 89, 90] 1351)⟩, ⟨(PyData.keyHash P (tx [97, 115, 99, 105, 105, 95, 108, 101, 116, 116, 101, 114, 115])), (ts [97, 115, 99, 105, 105, 95, 108, 101, 116, 116, 101, 114, 115] 1354), (ts [97, 98, 99, 100, 101, 102, 103, 104, 105, 106, 107, 108, 109, 110, 111, 112, 113, 114, 115, 116, 117, 118, 119, 120, 121, 122, 65, 66, 67, 68, 69, 70, 71, 72, 73, 74, 75, 76, 77, 78, 79, 80, 81, 82, 83, 84, 85, 86, 87, 88, 89, 90] 1353)⟩, ⟨(PyData.keyHash P (tx [100, 105, 103, 105, 116, 115])), (ts [100, 105, 103, 105, 116, 115] 1356), (ts [48, 49, 50, 51, 52, 53, 54, 55, 56, 57] 1355)⟩, ⟨(PyData.keyHash P (tx [104, 101, 120, 100, 105, 103, 105, 116, 115])), (ts [104, 101, 120, 100, 105, 103, 105, 116, 115] 1361), (ts [48, 49, 50, 51, 52, 53, 54, 55, 56, 57, 97, 98, 99, 100, 101, 102, 65, 66, 67, 68, 69, 70] 1360)⟩, ⟨(PyData.keyHash P (tx [117, 110, 113, 117, 111, 116, 101])), (ts [117, 110, 113, 117, 111, 116, 101] 1867), (.ref 59)⟩, ⟨(PyData.keyHash P (tx [113, 117, 111, 116, 101])), (ts [113, 117, 111, 116, 101] 1874), (.ref 66)⟩, ⟨(PyData.keyHash P (tx [95, 81, 85, 79, 80, 82, 73, 95, 66, 79, 68, 89, 95, 69, 78, 67, 79, 68, 69, 95, 77, 65, 80])), (ts [95, 81, 85, 79, 80, 82, 73, 95, 66, 79, 68, 89, 95, 69, 78, 67, 79, 68, 69, 95, 77, 65, 80] 1875), (.ref 68)⟩, ⟨(PyData.keyHash P (tx [100, 101, 99, 111, 100, 101])), (ts [100, 101, 99, 111, 100, 101] 1895), (.ref 79)⟩, ⟨(PyData.keyHash P (tx [95, 117, 110, 113, 117, 111, 116, 101, 95, 109, 97, 116, 99, 104])), (ts [95, 117, 110, 113, 117, 111, 116, 101, 95, 109, 97, 116, 99, 104] 1903), (.ref 86)⟩, ⟨(PyData.keyHash P (tx [104, 101, 97, 100, 101, 114, 95, 100, 101, 99, 111, 100, 101])), (ts [104, 101, 97, 100, 101, 114, 95, 100, 101, 99, 111, 100, 101] 1910), (.ref 93)⟩, ⟨(PyData.keyHash P (tx [95, 108, 97, 119, 95, 116, 111, 108, 100])), (ts [95, 108, 97, 119, 95, 116, 111, 108, 100] 1919), (.ref 100)⟩, ⟨(PyData.keyHash P (tx [95, 108, 97, 119, 95, 100, 117, 101])), (ts [95, 108, 97, 119, 95, 100, 117, 101] 1928), (.ref 107)⟩, ⟨(PyData.keyHash P (tx [108, 97, 119])), (ts [108, 97, 119] 1934), (.ref 112)⟩]) 31), Array.mk []⟩
noncomputable def o83 (R : OpenLaw) (P : Params) : Obj := ⟨.none, none, (.fields (Array.mk [(.int 18 0), (.int 0 0), (.ref 58), (.int 20 0), (.int 0 0), (.ref 65), (.int 26 0), (.int 0 0), (.ref 78), (.int 56 0), (.int 0 0), (.ref 85), (.int 59 0), (.int 0 0), (.ref 92), (.int 63 0), (.int 0 0), (.ref 99), (.int 70 0), (.int 0 0), (.ref 106), (.int 77 0), (.int 0 0), (.ref 111)])), Array.mk []⟩
noncomputable def o84 (R : OpenLaw) (P : Params) : Obj := ⟨(.type PySem.W.SL.s2766695959194262286x5), none, (.seq (Array.mk [(x1 115 1864)]) 0), Array.mk []⟩
noncomputable def o85 (R : OpenLaw) (P : Params) : Obj := ⟨.none, none, (.func (fdOf (stI R 15) 0 [] .none .none .none .none none .none .none 0)), Array.mk []⟩
noncomputable def o86 (R : OpenLaw) (P : Params) : Obj := ⟨(.type PySem.W.SL.s5856160107412720595x4), none, (.fields (Array.mk [(ts [117, 110, 113, 117, 111, 116, 101] 1861), (ts [117, 110, 113, 117, 111, 116, 101] 1862), (ts [47, 99, 108, 97, 105, 109, 47, 99, 117, 116, 46, 112, 121] 1863), (.int 18 0), (.int 1 0), (.int 0 0), (.int 0 0), (.int 3 0), (.ref 53), (.bool true), (.int 276 0), (.ref 54), .none, (.ref 55), (.ref 56), (.ref 57), (.int 1865 0), (.int 18 0), (ts [47, 99, 108, 97, 105, 109, 47, 99, 117, 116, 46, 112, 121] 1866)])), Array.mk []⟩
noncomputable def o87 (R : OpenLaw) (P : Params) : Obj := ⟨(.type PySem.W.SL.s7174869446012820540x8), none, (.func (fdOf (stI R 15) 3 [] .none .none .none (ts [99, 112, 121, 51, 49, 51, 46, 101, 109, 97, 105, 108, 46, 113, 117, 111, 112, 114, 105, 109, 105, 109, 101] 1362) none (.ref 58) .none 0)), Array.mk []⟩
noncomputable def o88 (R : OpenLaw) (P : Params) : Obj := ⟨(.type PySem.W.SL.s2766695959194262286x5), none, (.seq (Array.mk [(x1 99 1871)]) 0), Array.mk []⟩
noncomputable def o89 (R : OpenLaw) (P : Params) : Obj := ⟨.none, none, (.func (fdOf (stI R 16) 0 [] .none .none .none .none none .none .none 0)), Array.mk []⟩
noncomputable def o90 (R : OpenLaw) (P : Params) : Obj := ⟨(.type PySem.W.SL.s5856160107412720595x4), none, (.fields (Array.mk [(ts [113, 117, 111, 116, 101] 1868), (ts [113, 117, 111, 116, 101] 1869), (ts [47, 99, 108, 97, 105, 109, 47, 99, 117, 116, 46, 112, 121] 1870), (.int 20 0), (.int 1 0), (.int 0 0), (.int 0 0), (.int 3 0), (.ref 60), (.bool true), (.int 276 0), (.ref 61), .none, (.ref 62), (.ref 63), (.ref 64), (.int 1872 0), (.int 20 0), (ts [47, 99, 108, 97, 105, 109, 47, 99, 117, 116, 46, 112, 121] 1873)])), Array.mk []⟩
noncomputable def o91 (R : OpenLaw) (P : Params) : Obj := ⟨(.type PySem.W.SL.s7174869446012820540x8), none, (.func (fdOf (stI R 16) 3 [] .none .none .none (ts [99, 112, 121, 51, 49, 51, 46, 101, 109, 97, 105, 108, 46, 113, 117, 111, 112, 114, 105, 109, 105, 109, 101] 1362) none (.ref 65) .none 0)), Array.mk []⟩
noncomputable def k93 : List Value := [(x3 48 48 325), (x3 48 49 329), (x3 48 50 333), (x3 48 51 337), (x3 48 52 341), (x3 48 53 345), (x3 48 54 349), (x3 48 55 353), (x3 48 56 357), (x1 9 1860), (x1 10 1882), (x3 48 66 369), (x3 48 67 373), (x1 13 1879), (x3 48 69 381), (x3 48 70 385)]
noncomputable def o92 (R : OpenLaw) (P : Params) : Obj := ⟨(.type PySem.W.SL.s9222952809800978799x4), none, (.seq (Array.mk (k93 ++ (k39 ++ (k74 ++ (k75 ++ (k76 ++ (k77 ++ (k78 ++ (k79 ++ (k46 ++ (k47 ++ (k48 ++ (k49 ++ (k50 ++ (k51 ++ (k52 ++ (k53))))))))))))))))) 0), Array.mk []⟩
noncomputable def o94 (R : OpenLaw) (P : Params) : Obj := ⟨(.type PySem.W.SL.s1378417608194177226x14), none, (.fields (Array.mk [.none, (.int 2 0)])), Array.mk []⟩
noncomputable def o95 (R : OpenLaw) (P : Params) : Obj := ⟨(.type PySem.W.SL.s5991306692159431302x13), none, (.fields (Array.mk [(.ref 70), .none, .none, .none, (.bool false), .none])), Array.mk []⟩
noncomputable def o96 (R : OpenLaw) (P : Params) : Obj := ⟨(.type PySem.W.SL.s2766695959194262286x5), none, (.seq (Array.mk [(x1 10 317)]) 0), Array.mk []⟩
noncomputable def o97 (R : OpenLaw) (P : Params) : Obj := ⟨(.type PySem.W.SL.s2766695959194262286x5), none, (.seq (Array.mk [(ts [101, 110, 99, 111, 100, 101, 100] 1886), (ts [101, 111, 108] 1887), (ts [100, 101, 99, 111, 100, 101, 100] 1888), (ts [108, 105, 110, 101] 1889), (x1 105 1890), (x1 110 1891), (x1 99 1892)]) 0), Array.mk []⟩
noncomputable def o98 (R : OpenLaw) (P : Params) : Obj := ⟨.none, none, (.func (fdOf (stI R 20) 0 [] .none .none .none .none none .none .none 0)), Array.mk []⟩
noncomputable def o99 (R : OpenLaw) (P : Params) : Obj := ⟨(.type PySem.W.SL.s5856160107412720595x4), none, (.fields (Array.mk [(ts [100, 101, 99, 111, 100, 101] 1883), (ts [100, 101, 99, 111, 100, 101] 1884), (ts [47, 99, 108, 97, 105, 109, 47, 99, 117, 116, 46, 112, 121] 1885), (.int 26 0), (.int 2 0), (.int 0 0), (.int 0 0), (.int 3 0), (.ref 73), (.bool true), (.int 276 0), (.ref 74), .none, (.ref 75), (.ref 76), (.ref 77), (.int 1893 0), (.int 26 0), (ts [47, 99, 108, 97, 105, 109, 47, 99, 117, 116, 46, 112, 121] 1894)])), Array.mk []⟩
noncomputable def o100 (R : OpenLaw) (P : Params) : Obj := ⟨(.type PySem.W.SL.s7174869446012820540x8), none, (.func (fdOf (stI R 20) 3 [] (.ref 72) .none .none (ts [99, 112, 121, 51, 49, 51, 46, 101, 109, 97, 105, 108, 46, 113, 117, 111, 112, 114, 105, 109, 105, 109, 101] 1362) none (.ref 78) .none 0)), Array.mk []⟩
noncomputable def o101 (R : OpenLaw) (P : Params) : Obj := ⟨(.type PySem.W.SL.s2766695959194262286x5), none, (.seq (Array.mk [(ts [109, 97, 116, 99, 104] 1899), (x1 115 1900)]) 0), Array.mk []⟩
noncomputable def o102 (R : OpenLaw) (P : Params) : Obj := ⟨.none, none, (.func (fdOf (stI R 21) 0 [] .none .none .none .none none .none .none 0)), Array.mk []⟩
noncomputable def o103 (R : OpenLaw) (P : Params) : Obj := ⟨(.type PySem.W.SL.s5856160107412720595x4), none, (.fields (Array.mk [(ts [95, 117, 110, 113, 117, 111, 116, 101, 95, 109, 97, 116, 99, 104] 1896), (ts [95, 117, 110, 113, 117, 111, 116, 101, 95, 109, 97, 116, 99, 104] 1897), (ts [47, 99, 108, 97, 105, 109, 47, 99, 117, 116, 46, 112, 121] 1898), (.int 56 0), (.int 1 0), (.int 0 0), (.int 0 0), (.int 3 0), (.ref 80), (.bool true), (.int 276 0), (.ref 81), .none, (.ref 82), (.ref 83), (.ref 84), (.int 1901 0), (.int 56 0), (ts [47, 99, 108, 97, 105, 109, 47, 99, 117, 116, 46, 112, 121] 1902)])), Array.mk []⟩
noncomputable def o104 (R : OpenLaw) (P : Params) : Obj := ⟨(.type PySem.W.SL.s7174869446012820540x8), none, (.func (fdOf (stI R 21) 3 [] .none .none .none (ts [99, 112, 121, 51, 49, 51, 46, 101, 109, 97, 105, 108, 46, 113, 117, 111, 112, 114, 105, 109, 105, 109, 101] 1362) none (.ref 85) .none 0)), Array.mk []⟩
noncomputable def o105 (R : OpenLaw) (P : Params) : Obj := ⟨(.type PySem.W.SL.s2766695959194262286x5), none, (.seq (Array.mk [(x1 115 1907)]) 0), Array.mk []⟩
noncomputable def o106 (R : OpenLaw) (P : Params) : Obj := ⟨.none, none, (.func (fdOf (stI R 22) 0 [] .none .none .none .none none .none .none 0)), Array.mk []⟩
noncomputable def o107 (R : OpenLaw) (P : Params) : Obj := ⟨(.type PySem.W.SL.s5856160107412720595x4), none, (.fields (Array.mk [(ts [104, 101, 97, 100, 101, 114, 95, 100, 101, 99, 111, 100, 101] 1904), (ts [104, 101, 97, 100, 101, 114, 95, 100, 101, 99, 111, 100, 101] 1905), (ts [47, 99, 108, 97, 105, 109, 47, 99, 117, 116, 46, 112, 121] 1906), (.int 59 0), (.int 1 0), (.int 0 0), (.int 0 0), (.int 3 0), (.ref 87), (.bool true), (.int 276 0), (.ref 88), .none, (.ref 89), (.ref 90), (.ref 91), (.int 1908 0), (.int 59 0), (ts [47, 99, 108, 97, 105, 109, 47, 99, 117, 116, 46, 112, 121] 1909)])), Array.mk []⟩
noncomputable def o108 (R : OpenLaw) (P : Params) : Obj := ⟨(.type PySem.W.SL.s7174869446012820540x8), none, (.func (fdOf (stI R 22) 3 [] .none .none .none (ts [99, 112, 121, 51, 49, 51, 46, 101, 109, 97, 105, 108, 46, 113, 117, 111, 112, 114, 105, 109, 105, 109, 101] 1362) none (.ref 92) .none 0)), Array.mk []⟩
noncomputable def o109 (R : OpenLaw) (P : Params) : Obj := ⟨(.type PySem.W.SL.s2766695959194262286x5), none, (.seq (Array.mk [(ts [116, 101, 120, 116] 1916)]) 0), Array.mk []⟩
noncomputable def o110 (R : OpenLaw) (P : Params) : Obj := ⟨.none, none, (.func (fdOf (stI R 24) 0 [] .none .none .none .none none .none .none 0)), Array.mk []⟩
noncomputable def o111 (R : OpenLaw) (P : Params) : Obj := ⟨(.type PySem.W.SL.s5856160107412720595x4), none, (.fields (Array.mk [(ts [95, 108, 97, 119, 95, 116, 111, 108, 100] 1913), (ts [95, 108, 97, 119, 95, 116, 111, 108, 100] 1914), (ts [47, 99, 108, 97, 105, 109, 47, 99, 117, 116, 46, 112, 121] 1915), (.int 63 0), (.int 1 0), (.int 0 0), (.int 0 0), (.int 3 0), (.ref 94), (.bool true), (.int 276 0), (.ref 95), .none, (.ref 96), (.ref 97), (.ref 98), (.int 1917 0), (.int 63 0), (ts [47, 99, 108, 97, 105, 109, 47, 99, 117, 116, 46, 112, 121] 1918)])), Array.mk []⟩
noncomputable def o112 (R : OpenLaw) (P : Params) : Obj := ⟨(.type PySem.W.SL.s7174869446012820540x8), none, (.func (fdOf (stI R 24) 3 [] .none .none .none (ts [108, 97, 119, 95, 100, 109, 48, 48, 57, 53, 95, 48, 55] 1911) none (.ref 99) .none 0)), Array.mk []⟩
noncomputable def o113 (R : OpenLaw) (P : Params) : Obj := ⟨(.type PySem.W.SL.s2766695959194262286x5), none, (.seq (Array.mk [(ts [116, 101, 120, 116] 1923), (ts [104, 105, 103, 104] 1924), (ts [108, 111, 119] 1925)]) 0), Array.mk []⟩
noncomputable def o114 (R : OpenLaw) (P : Params) : Obj := ⟨.none, none, (.func (fdOf (stI R 25) 0 [] .none .none .none .none none .none .none 0)), Array.mk []⟩
noncomputable def o115 (R : OpenLaw) (P : Params) : Obj := ⟨(.type PySem.W.SL.s5856160107412720595x4), none, (.fields (Array.mk [(ts [95, 108, 97, 119, 95, 100, 117, 101] 1920), (ts [95, 108, 97, 119, 95, 100, 117, 101] 1921), (ts [47, 99, 108, 97, 105, 109, 47, 99, 117, 116, 46, 112, 121] 1922), (.int 70 0), (.int 1 0), (.int 0 0), (.int 0 0), (.int 3 0), (.ref 101), (.bool true), (.int 276 0), (.ref 102), .none, (.ref 103), (.ref 104), (.ref 105), (.int 1926 0), (.int 70 0), (ts [47, 99, 108, 97, 105, 109, 47, 99, 117, 116, 46, 112, 121] 1927)])), Array.mk []⟩
noncomputable def o116 (R : OpenLaw) (P : Params) : Obj := ⟨(.type PySem.W.SL.s7174869446012820540x8), none, (.func (fdOf (stI R 25) 3 [] .none .none .none (ts [108, 97, 119, 95, 100, 109, 48, 48, 57, 53, 95, 48, 55] 1911) none (.ref 106) .none 0)), Array.mk []⟩
noncomputable def o117 (R : OpenLaw) (P : Params) : Obj := ⟨.none, none, (.func (fdOf (stI R 26) 0 [] .none .none .none .none none .none .none 0)), Array.mk []⟩
noncomputable def o118 (R : OpenLaw) (P : Params) : Obj := ⟨(.type PySem.W.SL.s5856160107412720595x4), none, (.fields (Array.mk [(ts [108, 97, 119] 1929), (ts [108, 97, 119] 1930), (ts [47, 99, 108, 97, 105, 109, 47, 99, 117, 116, 46, 112, 121] 1931), (.int 77 0), (.int 1 0), (.int 0 0), (.int 0 0), (.int 3 0), (.ref 108), (.bool true), (.int 276 0), (.ref 109), .none, .none, .none, (.ref 110), (.int 1932 0), (.int 77 0), (ts [47, 99, 108, 97, 105, 109, 47, 99, 117, 116, 46, 112, 121] 1933)])), Array.mk []⟩
noncomputable def o119 (R : OpenLaw) (P : Params) : Obj := ⟨(.type PySem.W.SL.s7174869446012820540x8), none, (.func (fdOf (stI R 26) 3 [] .none .none .none (ts [108, 97, 119, 95, 100, 109, 48, 48, 57, 53, 95, 48, 55] 1911) none (.ref 111) .none 0)), Array.mk []⟩
noncomputable def tr7 (R : OpenLaw) (P : Params) : BT := (.node (o0 R P) (.node (o1 R P) (.node (o82 R P) (.node (o7 R P) (.node (o7 R P) (.node (o28 R P) (.node (o7 R P) .nil .nil) (.node (o8 R P) .nil .nil)) (.node (o67 R P) (.node (o100 R P) .nil .nil) (.node (o118 R P) .nil .nil))) (.node (o22 R P) (.node (o37 R P) (.node (o95 R P) .nil .nil) (.node (o113 R P) .nil .nil)) (.node (o84 R P) (.node (o7 R P) .nil .nil) .nil))) (.node (o11 R P) (.node (o18 R P) (.node (o32 R P) (.node (o57 R P) .nil .nil) (.node (o111 R P) .nil .nil)) (.node (o7 R P) (.node (o7 R P) .nil .nil) .nil)) (.node (o26 R P) (.node (o57 R P) (.node (o97 R P) .nil .nil) (.node (o116 R P) .nil .nil)) (.node (o87 R P) (.node (o106 R P) .nil .nil) .nil)))) (.node (o5 R P) (.node (o9 R P) (.node (o16 R P) (.node (o6 R P) (.node (o90 R P) .nil .nil) (.node (o7 R P) .nil .nil)) (.node (o68 R P) (.node (o8 R P) .nil .nil) .nil)) (.node (o24 R P) (.node (o7 R P) (.node (o7 R P) .nil .nil) (.node (o114 R P) .nil .nil)) (.node (o85 R P) (.node (o105 R P) .nil .nil) .nil))) (.node (o13 R P) (.node (o20 R P) (.node (o35 R P) (.node (o94 R P) .nil .nil) (.node (o7 R P) .nil .nil)) (.node (o7 R P) (.node (o103 R P) .nil .nil) .nil)) (.node (o83 R P) (.node (o57 R P) (.node (o98 R P) .nil .nil) (.node (o8 R P) .nil .nil)) (.node (o8 R P) (.node (o108 R P) .nil .nil) .nil))))) (.node (o2 R P) (.node (o4 R P) (.node (o8 R P) (.node (o15 R P) (.node (o30 R P) (.node (o89 R P) .nil .nil) (.node (o109 R P) .nil .nil)) (.node (o7 R P) (.node (o7 R P) .nil .nil) (.node (o119 R P) .nil .nil))) (.node (o23 R P) (.node (o54 R P) (.node (o96 R P) .nil .nil) (.node (o7 R P) .nil .nil)) (.node (o7 R P) (.node (o8 R P) .nil .nil) .nil))) (.node (o12 R P) (.node (o19 R P) (.node (o33 R P) (.node (o92 R P) .nil .nil) (.node (o112 R P) .nil .nil)) (.node (o81 R P) (.node (o102 R P) .nil .nil) .nil)) (.node (o7 R P) (.node (o69 R P) (.node (o7 R P) .nil .nil) (.node (o7 R P) .nil .nil)) (.node (o7 R P) (.node (o107 R P) .nil .nil) .nil)))) (.node (o6 R P) (.node (o10 R P) (.node (o17 R P) (.node (o31 R P) (.node (o91 R P) .nil .nil) (.node (o110 R P) .nil .nil)) (.node (o80 R P) (.node (o101 R P) .nil .nil) .nil)) (.node (o25 R P) (.node (o55 R P) (.node (o8 R P) .nil .nil) (.node (o115 R P) .nil .nil)) (.node (o86 R P) (.node (o7 R P) .nil .nil) .nil))) (.node (o14 R P) (.node (o21 R P) (.node (o36 R P) (.node (o7 R P) .nil .nil) (.node (o8 R P) .nil .nil)) (.node (o8 R P) (.node (o104 R P) .nil .nil) .nil)) (.node (o27 R P) (.node (o72 R P) (.node (o99 R P) .nil .nil) (.node (o117 R P) .nil .nil)) (.node (o88 R P) (.node (o7 R P) .nil .nil) .nil))))))
noncomputable def S7 : St := fun R w os => ⟨tr7 R w.params, 113, {}, Array.mk [], {}, 1935, os⟩
noncomputable def trf (R : OpenLaw) (P : Params) : BT := (.node (o0 R P) (.node (o1 R P) (.node (o82 R P) (.node (o7 R P) (.node (o7 R P) (.node (o28 R P) (.node (o7 R P) .nil .nil) (.node (o8 R P) .nil .nil)) (.node (o67 R P) (.node (o100 R P) .nil .nil) (.node (o118 R P) .nil .nil))) (.node (o22 R P) (.node (o37 R P) (.node (o95 R P) .nil .nil) (.node (o113 R P) .nil .nil)) (.node (o84 R P) (.node (o7 R P) .nil .nil) .nil))) (.node (o11 R P) (.node (o18 R P) (.node (o32 R P) (.node (o57 R P) .nil .nil) (.node (o111 R P) .nil .nil)) (.node (o7 R P) (.node (o7 R P) .nil .nil) .nil)) (.node (o26 R P) (.node (o57 R P) (.node (o97 R P) .nil .nil) (.node (o116 R P) .nil .nil)) (.node (o87 R P) (.node (o106 R P) .nil .nil) .nil)))) (.node (o5 R P) (.node (o9 R P) (.node (o16 R P) (.node (o6 R P) (.node (o90 R P) .nil .nil) (.node (o7 R P) .nil .nil)) (.node (o68 R P) (.node (o8 R P) .nil .nil) .nil)) (.node (o24 R P) (.node (o7 R P) (.node (o7 R P) .nil .nil) (.node (o114 R P) .nil .nil)) (.node (o85 R P) (.node (o105 R P) .nil .nil) .nil))) (.node (o13 R P) (.node (o20 R P) (.node (o35 R P) (.node (o94 R P) .nil .nil) (.node (o7 R P) .nil .nil)) (.node (o7 R P) (.node (o103 R P) .nil .nil) .nil)) (.node (o83 R P) (.node (o57 R P) (.node (o98 R P) .nil .nil) (.node (o8 R P) .nil .nil)) (.node (o8 R P) (.node (o108 R P) .nil .nil) .nil))))) (.node (o2 R P) (.node (o4 R P) (.node (o8 R P) (.node (o15 R P) (.node (o30 R P) (.node (o89 R P) .nil .nil) (.node (o109 R P) .nil .nil)) (.node (o7 R P) (.node (o7 R P) .nil .nil) (.node (o119 R P) .nil .nil))) (.node (o23 R P) (.node (o54 R P) (.node (o96 R P) .nil .nil) (.node (o7 R P) .nil .nil)) (.node (o7 R P) (.node (o8 R P) .nil .nil) .nil))) (.node (o12 R P) (.node (o19 R P) (.node (o33 R P) (.node (o92 R P) .nil .nil) (.node (o112 R P) .nil .nil)) (.node (o81 R P) (.node (o102 R P) .nil .nil) .nil)) (.node (o7 R P) (.node (o69 R P) (.node (o7 R P) .nil .nil) (.node (o7 R P) .nil .nil)) (.node (o7 R P) (.node (o107 R P) .nil .nil) .nil)))) (.node (o6 R P) (.node (o10 R P) (.node (o17 R P) (.node (o31 R P) (.node (o91 R P) .nil .nil) (.node (o110 R P) .nil .nil)) (.node (o80 R P) (.node (o101 R P) .nil .nil) .nil)) (.node (o25 R P) (.node (o55 R P) (.node (o8 R P) .nil .nil) (.node (o115 R P) .nil .nil)) (.node (o86 R P) (.node (o7 R P) .nil .nil) .nil))) (.node (o14 R P) (.node (o21 R P) (.node (o36 R P) (.node (o7 R P) .nil .nil) (.node (o8 R P) .nil .nil)) (.node (o8 R P) (.node (o104 R P) .nil .nil) .nil)) (.node (o27 R P) (.node (o72 R P) (.node (o99 R P) .nil .nil) (.node (o117 R P) .nil .nil)) (.node (o88 R P) (.node (o7 R P) .nil .nil) .nil))))))
noncomputable def Sf : St := fun R w os => ⟨trf R w.params, 113, {}, Array.mk [], {}, 1935, os⟩
end Mine.Hd
end

section
namespace Mine.Hd
theorem pre' (w : World) : Pre F 12 ⟨0, 0, 0, 0⟩ Sz Sa PySem.W.Fast.tw15667345088766844465 PySem.W.Fast.tw14364793385576792824 PySem.W.Fast.tw11892475500146522536 Rt w := by delta Pre; kernel_rfl
theorem pre (w : World) : Pre F 12 ⟨0, 0, 0, 0⟩ Sz Sa topGo treeTable denote Rw w := by rw [PySem.W.Fast.te15667345088766844465, PySem.W.Fast.te14364793385576792824, PySem.W.Fast.te11892475500146522536, Rw, PySem.W.Fast.te16071055481911462028]; exact pre' w
theorem blk' (w : World) : Blk F 1 ⟨0, 0, 0, 0⟩ ⟨0, 0, 0, 0⟩ Sa S0 PySem.W.Fast.tw10110043849684766642 PySem.W.Fast.tw14364793385576792824 PySem.W.Fast.tw1066825118222455980 Rt w := by delta Blk; kernel_rfl
theorem blk (w : World) : Blk F 1 ⟨0, 0, 0, 0⟩ ⟨0, 0, 0, 0⟩ Sa S0 segRunT treeTable blockStart Rw w := by rw [PySem.W.Fast.te10110043849684766642, PySem.W.Fast.te14364793385576792824, PySem.W.Fast.te1066825118222455980, Rw, PySem.W.Fast.te16071055481911462028]; exact blk' w
theorem p0' (w : World) : Piece F 88 0 2 ⟨0, 0, 0, 0⟩ ⟨3, 0, 3, 2⟩ S0 S1 PySem.W.Fast.tw10110043849684766642 PySem.W.Fast.tw14364793385576792824 PySem.W.Fast.tw12563942051412417395 Rt w := by delta Piece; kernel_rfl
theorem p0 (w : World) : Piece F 88 0 2 ⟨0, 0, 0, 0⟩ ⟨3, 0, 3, 2⟩ S0 S1 segRunT treeTable execs Rw w := by rw [PySem.W.Fast.te10110043849684766642, PySem.W.Fast.te14364793385576792824, PySem.W.Fast.te12563942051412417395, Rw, PySem.W.Fast.te16071055481911462028]; exact p0' w
theorem p1ff (w : World) : Piece F 9552 2 1 ⟨3, 0, 3, 2⟩ ⟨4, 0, 4, 11⟩ S1 S2 PySem.W.Fast.tw10110043849684766642 PySem.W.Fast.tw14364793385576792824 PySem.W.Fast.tw12563942051412417395 Rt ((w.withFollow "comprehension-iter-twice" false).withFollow "special-get-raises" false) := by delta Piece; kernel_rfl
theorem p1ft (w : World) : Piece F 9552 2 1 ⟨3, 0, 3, 2⟩ ⟨4, 0, 4, 11⟩ S1 S2 PySem.W.Fast.tw10110043849684766642 PySem.W.Fast.tw14364793385576792824 PySem.W.Fast.tw12563942051412417395 Rt ((w.withFollow "comprehension-iter-twice" false).withFollow "special-get-raises" true) := by delta Piece; kernel_rfl
theorem p1tf (w : World) : Piece F 9552 2 1 ⟨3, 0, 3, 2⟩ ⟨4, 0, 4, 11⟩ S1 S2 PySem.W.Fast.tw10110043849684766642 PySem.W.Fast.tw14364793385576792824 PySem.W.Fast.tw12563942051412417395 Rt ((w.withFollow "comprehension-iter-twice" true).withFollow "special-get-raises" false) := by delta Piece; kernel_rfl
theorem p1tt (w : World) : Piece F 9552 2 1 ⟨3, 0, 3, 2⟩ ⟨4, 0, 4, 11⟩ S1 S2 PySem.W.Fast.tw10110043849684766642 PySem.W.Fast.tw14364793385576792824 PySem.W.Fast.tw12563942051412417395 Rt ((w.withFollow "comprehension-iter-twice" true).withFollow "special-get-raises" true) := by delta Piece; kernel_rfl
theorem p1 (w : World) : Piece F 9552 2 1 ⟨3, 0, 3, 2⟩ ⟨4, 0, 4, 11⟩ S1 S2 segRunT treeTable execs Rw w := by rw [PySem.W.Fast.te10110043849684766642, PySem.W.Fast.te14364793385576792824, PySem.W.Fast.te12563942051412417395, Rw, PySem.W.Fast.te16071055481911462028]; exact two_rows "comprehension-iter-twice" "special-get-raises" p1ff p1ft p1tf p1tt w
theorem p2' (w : World) : Piece F 133 3 8 ⟨4, 0, 4, 11⟩ ⟨12, 0, 12, 8⟩ S2 S3 PySem.W.Fast.tw10110043849684766642 PySem.W.Fast.tw14364793385576792824 PySem.W.Fast.tw12563942051412417395 Rt w := by delta Piece; kernel_rfl
theorem p2 (w : World) : Piece F 133 3 8 ⟨4, 0, 4, 11⟩ ⟨12, 0, 12, 8⟩ S2 S3 segRunT treeTable execs Rw w := by rw [PySem.W.Fast.te10110043849684766642, PySem.W.Fast.te14364793385576792824, PySem.W.Fast.te12563942051412417395, Rw, PySem.W.Fast.te16071055481911462028]; exact p2' w
theorem p3f (w : World) : Piece F 3077 11 1 ⟨12, 0, 12, 8⟩ ⟨13, 9, 13, 74⟩ S3 S4 PySem.W.Fast.tw10110043849684766642 PySem.W.Fast.tw14364793385576792824 PySem.W.Fast.tw12563942051412417395 Rt (w.withFollow "special-get-raises" false) := by delta Piece; kernel_rfl
theorem p3t (w : World) : Piece F 3077 11 1 ⟨12, 0, 12, 8⟩ ⟨13, 9, 13, 74⟩ S3 S4 PySem.W.Fast.tw10110043849684766642 PySem.W.Fast.tw14364793385576792824 PySem.W.Fast.tw12563942051412417395 Rt (w.withFollow "special-get-raises" true) := by delta Piece; kernel_rfl
theorem p3 (w : World) : Piece F 3077 11 1 ⟨12, 0, 12, 8⟩ ⟨13, 9, 13, 74⟩ S3 S4 segRunT treeTable execs Rw w := by rw [PySem.W.Fast.te10110043849684766642, PySem.W.Fast.te14364793385576792824, PySem.W.Fast.te12563942051412417395, Rw, PySem.W.Fast.te16071055481911462028]; exact byRow2 "special-get-raises" p3f p3t w
theorem p4' (w : World) : Piece F 25 12 1 ⟨13, 9, 13, 74⟩ ⟨15, 0, 15, 28⟩ S4 S5 PySem.W.Fast.tw10110043849684766642 PySem.W.Fast.tw14364793385576792824 PySem.W.Fast.tw12563942051412417395 Rt w := by delta Piece; kernel_rfl
theorem p4 (w : World) : Piece F 25 12 1 ⟨13, 9, 13, 74⟩ ⟨15, 0, 15, 28⟩ S4 S5 segRunT treeTable execs Rw w := by rw [PySem.W.Fast.te10110043849684766642, PySem.W.Fast.te14364793385576792824, PySem.W.Fast.te12563942051412417395, Rw, PySem.W.Fast.te16071055481911462028]; exact p4' w
theorem p5f (w : World) : Piece F 4303 13 1 ⟨15, 0, 15, 28⟩ ⟨16, 9, 16, 110⟩ S5 S6 PySem.W.Fast.tw10110043849684766642 PySem.W.Fast.tw14364793385576792824 PySem.W.Fast.tw12563942051412417395 Rt (w.withFollow "special-get-raises" false) := by delta Piece; kernel_rfl
theorem p5t (w : World) : Piece F 4303 13 1 ⟨15, 0, 15, 28⟩ ⟨16, 9, 16, 110⟩ S5 S6 PySem.W.Fast.tw10110043849684766642 PySem.W.Fast.tw14364793385576792824 PySem.W.Fast.tw12563942051412417395 Rt (w.withFollow "special-get-raises" true) := by delta Piece; kernel_rfl
theorem p5 (w : World) : Piece F 4303 13 1 ⟨15, 0, 15, 28⟩ ⟨16, 9, 16, 110⟩ S5 S6 segRunT treeTable execs Rw w := by rw [PySem.W.Fast.te10110043849684766642, PySem.W.Fast.te14364793385576792824, PySem.W.Fast.te12563942051412417395, Rw, PySem.W.Fast.te16071055481911462028]; exact byRow2 "special-get-raises" p5f p5t w
theorem p6f (w : World) : Piece F 401 14 12 ⟨16, 9, 16, 110⟩ ⟨77, 0, 94, 15⟩ S6 S7 PySem.W.Fast.tw10110043849684766642 PySem.W.Fast.tw14364793385576792824 PySem.W.Fast.tw12563942051412417395 Rt (w.withFollow "special-get-raises" false) := by delta Piece; kernel_rfl
theorem p6t (w : World) : Piece F 401 14 12 ⟨16, 9, 16, 110⟩ ⟨77, 0, 94, 15⟩ S6 S7 PySem.W.Fast.tw10110043849684766642 PySem.W.Fast.tw14364793385576792824 PySem.W.Fast.tw12563942051412417395 Rt (w.withFollow "special-get-raises" true) := by delta Piece; kernel_rfl
theorem p6 (w : World) : Piece F 401 14 12 ⟨16, 9, 16, 110⟩ ⟨77, 0, 94, 15⟩ S6 S7 segRunT treeTable execs Rw w := by rw [PySem.W.Fast.te10110043849684766642, PySem.W.Fast.te14364793385576792824, PySem.W.Fast.te12563942051412417395, Rw, PySem.W.Fast.te16071055481911462028]; exact byRow2 "special-get-raises" p6f p6t w
theorem fin' (w : World) : Last F 2 26 ⟨77, 0, 94, 15⟩ S7 Sf PySem.W.Fast.tw14082659384304107361 PySem.W.Fast.tw14364793385576792824 PySem.W.Fast.tw12563942051412417395 Rt w := by delta Last; kernel_rfl
theorem fin (w : World) : Last F 2 26 ⟨77, 0, 94, 15⟩ S7 Sf topRun treeTable execs Rw w := by rw [PySem.W.Fast.te14082659384304107361, PySem.W.Fast.te14364793385576792824, PySem.W.Fast.te12563942051412417395, Rw, PySem.W.Fast.te16071055481911462028]; exact fin' w
theorem run (w : World) (os : OsState) : topRun treeTable Rw.prog w F.m0 F.ann (12 + (1 + (88 + (9552 + (133 + (3077 + (25 + (4303 + (401 + 2))))))))) (Sz Rw w os).abs (topStub Rw.prog) = some (Sf Rw w os).abs :=
  begin_ pre blk w os (chain p0 w os (chain p1 w os (chain p2 w os (chain p3 w os (chain p4 w os (chain p5 w os (chain p6 w os (last_ fin w os))))))))
abbrev steps : Nat := (12 + (1 + (88 + (9552 + (133 + (3077 + (25 + (4303 + (401 + 2)))))))))
abbrev N : Nat := 35270
abbrev keep : List Nat := [0, 1, 2, 3, 4, 5, 6, 7, 8, 9, 10, 15, 16, 17, 21, 22, 24, 25, 26]
abbrev loose : List Str := [(tx [95, 116, 119, 105, 110, 95, 114, 101, 95, 49]), (tx [95, 81, 85, 79, 80, 82, 73, 95, 77, 65, 80]), (tx [95, 81, 85, 79, 80, 82, 73, 95, 72, 69, 65, 68, 69, 82, 95, 77, 65, 80]), (tx [95, 81, 85, 79, 80, 82, 73, 95, 66, 79, 68, 89, 95, 77, 65, 80]), (tx [97, 115, 99, 105, 105, 95, 108, 101, 116, 116, 101, 114, 115]), (tx [104, 101, 120, 100, 105, 103, 105, 116, 115]), (tx [95, 81, 85, 79, 80, 82, 73, 95, 66, 79, 68, 89, 95, 69, 78, 67, 79, 68, 69, 95, 77, 65, 80]), (tx [100, 101, 99, 111, 100, 101])]
abbrev toks0 : Nat := 276
abbrev toks1 : Nat := 1935
abbrev size0 : Nat := 28
abbrev size1 : Nat := 113
abbrev lv : List (Str × WData) := [((tx [97, 115, 99, 105, 105, 95, 108, 101, 116, 116, 101, 114, 115]), WData.str (tx [97, 98, 99, 100, 101, 102, 103, 104, 105, 106, 107, 108, 109, 110, 111, 112, 113, 114, 115, 116, 117, 118, 119, 120, 121, 122, 65, 66, 67, 68, 69, 70, 71, 72, 73, 74, 75, 76, 77, 78, 79, 80, 81, 82, 83, 84, 85, 86, 87, 88, 89, 90])), ((tx [104, 101, 120, 100, 105, 103, 105, 116, 115]), WData.str (tx [48, 49, 50, 51, 52, 53, 54, 55, 56, 57, 97, 98, 99, 100, 101, 102, 65, 66, 67, 68, 69, 70]))]
end Mine.Hd
end

section
namespace Mine.Hd
abbrev qR (R : OpenLaw) : Program := view R.prog keep
noncomputable abbrev H0 (R : OpenLaw) (P : Params) : Heap := absHeap (trz R P) size0 {}
noncomputable abbrev H1 (R : OpenLaw) (P : Params) : Heap := absHeap (trf R P) size1 {}
noncomputable abbrev Sh (R : OpenLaw) (w : World) (os : OsState) : Shared := ⟨H1 R w.params, Array.mk [], {}, toks1, os⟩
abbrev Xt (R : OpenLaw) (s : Shared) : Bool := xlAt (qR R) lv s && recOk (RowW.records R.row.toRowW) s
def Z0 (R : OpenLaw) (w : World) : Prop := ((H0 R w.params).isNs mainGlobals && (Array.mk [] : Array GenState).size == 0, (H0 R w.params).objs.size, (H0 R w.params).nsMap mainGlobals "__annotations__") = (true, F.m0, F.ann)
def L1 (R : OpenLaw) (w : World) : Prop := (fun os => (staticsOk (importedModules R.prog.main.body) (H0 R w.params) (H1 R w.params) && namesBound R.prog (H1 R w.params) && gensDone (Sh R w os) && laidKept (H0 R w.params) (H1 R w.params))) = fun _ => true
def L2 (R : OpenLaw) (w : World) : Prop := (fun os => seen ((recsOf (qR R)).map (·.name)) (ownsOf (qR R)) [] { (Sh R w os) with gens := #[] }) = fun _ => expectedOf (qR R)
def L3 (R : OpenLaw) (w : World) : Prop := (fun os => (Sh R w os).heap.bltView) = fun (_ : OsState) => bltViewBooted
def L4 (R : OpenLaw) (w : World) : Prop := (fun os => (Sh R w os).heap.keysOk (looseW (qR R) loose) ((recsOf (qR R)).map (·.name)) ((litsOf (qR R)).map (·.1)) ((clssOf (qR R) (looseW (qR R) loose)).map (·.name)) && (Sh R w os).heap.accountedOkI (importedModules R.prog.main.body) && (Sh R w os).heap.isNs mainGlobals && (Sh R w os).heap.isNs builtinsNs && tablesOk (qR R) (Sh R w os).heap && Xt R (Sh R w os) && (if true then (Sh R w os).gens.size == 0 else !leftWithCleanup (Sh R w os).gens)) = fun (_ : OsState) => true
def L5 (R : OpenLaw) (w : World) : Prop := (fun os => tabsOk (qR R) (Sh R w os)) = fun (_ : OsState) => true
def L6 (R : OpenLaw) (w : World) : Prop := (fun os => pinSeenD (qR R) (drecsOf (qR R)) (Sh R w os)) = fun (_ : OsState) => pinGoodD (drecsOf (qR R))
def L7 (R : OpenLaw) (w : World) : Prop := (fun os => plainSeenE (qR R) (looseW (qR R) loose) (Sh R w os)) = fun (_ : OsState) => plainGoodE (qR R) (looseW (qR R) loose)
def L8 (R : OpenLaw) (w : World) : Prop := (fun os => plainSeenD (qR R) loose (Sh R w os)) = fun (_ : OsState) => plainGoodD (qR R) loose
def L9 (R : OpenLaw) (w : World) : Prop := (fun os => wideSeen (qR R) (Sh R w os)) = fun (_ : OsState) => wideGood (qR R)
def L10 (R : OpenLaw) (w : World) : Prop := (fun os => clsSeenW (qR R) loose (Sh R w os)) = fun (_ : OsState) => clsGoodW (qR R) loose
theorem z0 (w : World) : Z0 Rt w := by delta Z0; kernel_rfl
theorem l1 (w : World) : L1 Rt w := by delta L1; kernel_rfl
theorem l2 (w : World) : L2 Rt w := by delta L2; kernel_rfl
theorem l3 (w : World) : L3 Rt w := by delta L3; kernel_rfl
theorem l4 (w : World) : L4 Rt w := by delta L4; kernel_rfl
theorem l5 (w : World) : L5 Rt w := by delta L5; kernel_rfl
theorem l6 (w : World) : L6 Rt w := by delta L6; kernel_rfl
theorem l7 (w : World) : L7 Rt w := by delta L7; kernel_rfl
theorem l8 (w : World) : L8 Rt w := by delta L8; kernel_rfl
theorem l9 (w : World) : L9 Rt w := by delta L9; kernel_rfl
theorem l10 (w : World) : L10 Rt w := by delta L10; kernel_rfl
def Opn (imp : Tb → Program → World → Nat → Shared → Thread → Option Shared) (tb : Tb) (R : OpenLaw) (w : World) : Prop :=
  (((imp tb (opening R.prog) w N (start (opening R.prog)).1 (start (opening R.prog)).2).bind (fenceModules? R.prog)).map fun s => (s.heap, s.gens, s.drawn, s.toks)) = some (H0 R w.params, Array.mk [], {}, toks0)
theorem opens' (w : World) : Opn PySem.W.Fast.tw10274390034422433532 PySem.W.Fast.tw14364793385576792824 Rt w := by delta Opn; kernel_rfl
theorem opens (w : World) : (fencedOpening treeTable Rw.prog w N).map (fun s => (s.heap, s.gens, s.drawn, s.toks)) = some (H0 Rw w.params, Array.mk [], {}, toks0) := by
  show Opn importEnds treeTable Rw w
  rw [PySem.W.Fast.te10274390034422433532, PySem.W.Fast.te14364793385576792824, Rw, PySem.W.Fast.te16071055481911462028]; exact opens' w
theorem looks {α : Type} {Yf : Shared → α} {Ya : World → α} (hY : ∀ w os, Yf (Sh Rw w os) = Ya w) (w : World) : (fun os => ((staticsOk (importedModules Rw.prog.main.body) (H0 Rw w.params) (H1 Rw w.params) && namesBound Rw.prog (H1 Rw w.params) && gensDone ⟨H1 Rw w.params, Array.mk [], {}, toks1, os⟩ && laidKept (H0 Rw w.params) (H1 Rw w.params)),
        openSeen (qR Rw) loose (importedModules Rw.prog.main.body) (Xt Rw) true ⟨H1 Rw w.params, Array.mk [], {}, toks1, os⟩, Yf ⟨H1 Rw w.params, Array.mk [], {}, toks1, os⟩)) = fun _ => (true, openGood (qR Rw) loose, Ya w) := by
  have te : Rw = Rt := PySem.W.Fast.te16071055481911462028
  funext os
  have e1 : L1 Rw w := te ▸ l1 w
  have e2 : L2 Rw w := te ▸ l2 w
  have e3 : L3 Rw w := te ▸ l3 w
  have e4 : L4 Rw w := te ▸ l4 w
  have e5 : L5 Rw w := te ▸ l5 w
  have e6 : L6 Rw w := te ▸ l6 w
  have e7 : L7 Rw w := te ▸ l7 w
  have e8 : L8 Rw w := te ▸ l8 w
  have e9 : L9 Rw w := te ▸ l9 w
  have e10 : L10 Rw w := te ▸ l10 w
  exact looks_pair (congrFun e1 os) (looks_pair (looks_pair (congrFun e2 os) (looks_pair (congrFun e3 os) (looks_pair (congrFun e4 os) (looks_pair (congrFun e5 os) (looks_pair (congrFun e6 os) (looks_pair (congrFun e7 os) (looks_pair (congrFun e8 os) (looks_pair (congrFun e9 os) (congrFun e10 os))))))))) (hY w os))
theorem zz (w : World) : Z0 Rw w := by
  have te : Rw = Rt := PySem.W.Fast.te16071055481911462028
  exact te ▸ z0 w
theorem left {α : Type} {Yf : Shared → α} {Ya : World → α} (hY : ∀ w os, Yf (Sh Rw w os) = Ya w) : LeftO Rw.prog (qR Rw) loose (Xt Rw) Yf Ya N :=
  LeftO.of_pieces (H₀ := H0 Rw) (H₁ := H1 Rw) (gs₀ := Array.mk []) (gs₁ := Array.mk []) (d₀ := {}) (d₁ := {}) (k₀ := toks0) (k₁ := toks1) (m₀ := F.m0) (ann := F.ann) (M := steps)
    opens (fun w => zz w) run (by decide) (looks hY)
end Mine.Hd
local macro_rules
  | `(tactic| o_head $H) => do
    let hw := Lean.mkIdent `hw
    let hc := Lean.mkIdent `hc
    `(tactic| refine holds_open (q := Mine.Hd.qR Mine.Hd.Rw) (loose := Mine.Hd.loose) (Xt := Mine.Hd.Xt Mine.Hd.Rw) (XP := XL (Mine.Hd.qR Mine.Hd.Rw) Mine.Hd.lv) (Yf := Hook.obs $H) (Ya := Hook.val $H) (YP := Hook.says $H) (N := Mine.Hd.N) (Mine.Hd.left (fun w os => by kernel_rfl)) (Hook.of $H) (Hook.keeps $H) (fun s e => xl_of s (Bool.and_eq_true_iff.mp e).1) XL.keeps (by rfl) (by rfl) (by rfl) (fun s e => recFacts_of (Bool.and_eq_true_iff.mp e).2) (by rfl) (by first | assumption | decide +kernel) (by decide +kernel) ⟨rfl, rfl, rfl, rfl, rfl, by decide +kernel⟩ ?$hw ?$hc)
namespace Mine
open_top hd for PySem.Challenge.rw_dm0095_07
end Mine
end

section
namespace Mine
/-- no run takes a token back -/
theorem runs_toks {M : Model} {Γ : Ctx} {p : Pos} {t : Sem Fin} {fs : List Frame} {s s' : Shared} {e : End} (h : Runs M Γ p t fs s e s') : s.toks ≤ s'.toks := by
  induction h with
  | done => exact Nat.le_refl _
  | raise => exact Nat.le_refl _
  | yield => exact Nat.le_refl _
  | fresh _ ih => exact Nat.le_trans (Nat.le_succ _) ih
  | call _ _ i1 i2 => exact Nat.le_trans i1 i2
  | resumeFresh _ _ _ _ i1 i2 => exact Nat.le_trans i1 i2
  | resumeSuspended _ _ _ _ i1 i2 => exact Nat.le_trans i1 i2
  | segRet _ _ i1 i2 => exact Nat.le_trans i1 i2
  | segGen _ _ i1 i2 => exact Nat.le_trans i1 i2
  | segSuspGen _ _ _ _ i1 i2 => exact Nat.le_trans i1 i2
  | _ => assumption
theorem wakes_toks {M : Model} {Γ : Ctx} {p : Pos} {g : Nat} {r : Resume} {s s' : Shared} {res : GenResult} (h : Wakes M Γ p g r s res s') : s.toks ≤ s'.toks := by
  unfold Wakes at h
  split at h
  · exact h.elim
  · split at h
    · obtain ⟨e, s₁, h1, _, _, rfl⟩ := h
      have := runs_toks h1
      exact this
    · obtain ⟨_, rfl⟩ := h; exact Nat.le_refl _
    · obtain ⟨_, rfl⟩ := h; exact Nat.le_refl _
  · obtain ⟨e, s₁, h1, _, _, rfl⟩ := h
    have := runs_toks h1
    exact this
  · obtain ⟨_, rfl⟩ := h; exact Nat.le_refl _
  · obtain ⟨_, rfl⟩ := h; exact Nat.le_refl _
theorem wp_free {α : Type} {M : Model} {Γ : Ctx} {n : Nat} (t : Sem α) : ∀ {Q : α → Pos → Shared → Prop} {E : Value → Pos → Shared → Prop} {p : Pos} {s : Shared}, n ≤ s.toks →
    Sem.wp M Γ t (fun a p' s' => n ≤ s'.toks → Q a p' s') (fun e p' s' => n ≤ s'.toks → E e p' s') p s → Sem.wp M Γ t Q E p s := by
  induction t with
  | pure a => intro Q E p s hn h; exact h hn
  | raise e => intro Q E p s hn h; exact h hn
  | unsupported => intro Q E p s hn h; exact h
  | finish => intro Q E p s hn h; exact h
  | rule _ k ih => intro Q E p s hn h; exact ih () hn h
  | «at» p' k ih => intro Q E p s hn h; exact ih () hn h
  | load a _ k ih => intro Q E p s hn h; obtain ⟨o, h1, h2⟩ := h; exact ⟨o, h1, ih o hn h2⟩
  | update a _ f k ih => intro Q E p s hn h; exact ⟨h.1, ih () hn h.2⟩
  | alloc o k ih => intro Q E p s hn h; exact ih _ hn h
  | loadIfAlive a k ih => intro Q E p s hn h; exact ih _ hn h
  | point _ k ih => intro Q E p s hn h; exact ih () hn h
  | register => intro Q E p s hn h; exact h
  | fresh k ih => intro Q E p s hn h; exact ih _ (Nat.le_succ_of_le hn) h
  | ask k ih => intro Q E p s hn h; exact ih _ hn h
  | choose src m k ih => intro Q E p s hn h; exact ⟨h.1, ih _ hn h.2⟩
  | os q _ k ih => intro Q E p s hn h; exact ih _ hn h
  | call c hh g l k ih =>
    intro Q E p s hn h
    obtain ⟨r, s₁, h1, h2⟩ := h
    exact ⟨r, s₁, h1, ih r (Nat.le_trans hn (runs_toks h1)) h2⟩
  | handled own k ih => intro Q E p s hn h; exact ih _ hn h
  | newGen c k ih => intro Q E p s hn h; exact ih _ hn h
  | genState g k ih => intro Q E p s hn h; obtain ⟨st, h1, h2⟩ := h; exact ⟨st, h1, ih _ hn h2⟩
  | resume g r l k ih =>
    intro Q E p s hn h
    obtain ⟨res, s₁, h1, h2⟩ := h
    exact ⟨res, s₁, h1, ih res (Nat.le_trans hn (wakes_toks h1)) h2⟩
  | yield => intro Q E p s hn h; exact h
  | stack k ih => intro Q E p s hn h; exact ih _ hn h
  | fork => intro Q E p s hn h; exact h
  | thread k ih => intro Q E p s hn h; exact ih _ hn h
  | await => intro Q E p s hn h; exact h
theorem wpAny_free {α : Type} {M : Model} {A : Around} {t : Sem α} {Q : α → Shared → Prop} {E : Value → Shared → Prop} {s : Shared}
    (h : wpAny M A t (fun a s' => s.toks ≤ s'.toks → Q a s') (fun e s' => s.toks ≤ s'.toks → E e s') s) : wpAny M A t Q E s := fun Γ p hΓ => wp_free t (Nat.le_refl _) (h Γ p hΓ)
end Mine
end

section
namespace Mine

/-- a text from its signs' numbers -/
abbrev mkS (l : List Nat) : Str := ⟨l.toArray⟩

/-- deep data -/
inductive D where
  | none
  | bool (b : Bool)
  | int (i : Int)
  | str (x : List Nat)
  | bytes (x : List UInt8)
  | list (xs : List D)
  | tup (xs : List D)
  | rng (a b c : Int)
  | val (v : Value)
  | frag (f : List (Addr × Obj)) (v : Value)
  deriving Inhabited

mutual
inductive Is (Z : Addr → Prop) (h : Heap) : Value → D → Prop where
  | none : Is Z h .none .none
  | bool {b : Bool} : Is Z h (.bool b) (.bool b)
  | int {i : Int} {t : Tok} : Is Z h (.int i t) (.int i)
  | str {x : List Nat} {t : Tok} : Is Z h (.str (mkS x) t) (.str x)
  | bytes {x : List UInt8} {t : Tok} : Is Z h (.bytes x.toArray t) (.bytes x)
  | list {a : Addr} {vs : List Value} {ds : List D} : ¬ Z a → h.IsList a vs.toArray → IsAll Z h vs ds → Is Z h (.ref a) (.list ds)
  | tup {a : Addr} {vs : List Value} {ds : List D} : ¬ Z a → h.IsTuple a vs.toArray → IsAll Z h vs ds → Is Z h (.ref a) (.tup ds)
  | rng {r : Addr} {a b c : Int} {t u w : Tok} : ¬ Z r → IsRange h r a b c t u w → Is Z h (.ref r) (.rng a b c)
  | val {v : Value} : Is Z h v (.val v)
  | frag {v : Value} {f : List (Addr × Obj)} : (∀ p ∈ f, ¬ Z p.1 ∧ h.get? p.1 = some p.2) → Is Z h v (.frag f v)
inductive IsAll (Z : Addr → Prop) (h : Heap) : List Value → List D → Prop where
  | nil : IsAll Z h [] []
  | cons {v : Value} {d : D} {vs : List Value} {ds : List D} : Is Z h v d → IsAll Z h vs ds → IsAll Z h (v :: vs) (d :: ds)
end

theorem tup_at {h h' : Heap} {a : Addr} {items : Array Value} (x : h.IsTuple a items) (e : ∀ o, h.get? a = some o → h'.get? a = some o) : h'.IsTuple a items :=
  let ⟨o, ho, r⟩ := x; ⟨o, e _ ho, r⟩

mutual
theorem Is.move {Z Z' : Addr → Prop} {h h' : Heap} {v : Value} {d : D} (x : Is Z h v d) (hk : ∀ b o, ¬ Z b → h.get? b = some o → ¬ Z' b ∧ h'.get? b = some o) : Is Z' h' v d := by
  cases x with
  | none => exact .none
  | bool => exact .bool
  | int => exact .int
  | str => exact .str
  | bytes => exact .bytes
  | list hz hl hs =>
    obtain ⟨o, ho, _⟩ := id hl
    exact .list (hk _ _ hz ho).1 (hl.at fun o e => (hk _ _ hz e).2) (IsAll.move hs hk)
  | tup hz hl hs =>
    obtain ⟨o, ho, _⟩ := id hl
    exact .tup (hk _ _ hz ho).1 (tup_at hl fun o e => (hk _ _ hz e).2) (IsAll.move hs hk)
  | rng hz hr => exact .rng (hk _ _ hz hr).1 (hk _ _ hz hr).2
  | val => exact .val
  | frag hf => exact .frag fun p hp => hk _ _ (hf p hp).1 (hf p hp).2
theorem IsAll.move {Z Z' : Addr → Prop} {h h' : Heap} {vs : List Value} {ds : List D} (x : IsAll Z h vs ds) (hk : ∀ b o, ¬ Z b → h.get? b = some o → ¬ Z' b ∧ h'.get? b = some o) : IsAll Z' h' vs ds := by
  cases x with
  | nil => exact .nil
  | cons a b => exact .cons (Is.move a hk) (IsAll.move b hk)
end

theorem IsAll.keeps {Z : Addr → Prop} {h h' : Heap} {vs : List Value} {ds : List D} (x : IsAll Z h vs ds) (hk : ∀ b o, h.get? b = some o → h'.get? b = some o) : IsAll Z h' vs ds :=
  x.move fun b o hz e => ⟨hz, hk b o e⟩

theorem IsAll.length {Z : Addr → Prop} {h : Heap} {vs : List Value} {ds : List D} (x : IsAll Z h vs ds) : vs.length = ds.length := by
  induction ds generalizing vs with
  | nil => cases x; rfl
  | cons d ds ih => cases x with | cons a b => simp [ih b]
theorem IsAll.get {Z : Addr → Prop} {h : Heap} {vs : List Value} {ds : List D} (x : IsAll Z h vs ds) {i : Nat} {d : D} (e : ds[i]? = some d) : ∃ v, vs[i]? = some v ∧ Is Z h v d := by
  induction ds generalizing vs i with
  | nil => simp at e
  | cons d' ds ih => cases x with
    | cons a b => cases i with
      | zero => simp at e; subst e; exact ⟨_, rfl, a⟩
      | succ i => simp at e; simpa using ih b e
theorem IsAll.get' {Z : Addr → Prop} {h : Heap} {vs : List Value} {ds : List D} (x : IsAll Z h vs ds) {i : Nat} {v : Value} (e : vs[i]? = some v) : ∃ d, ds[i]? = some d ∧ Is Z h v d := by
  induction ds generalizing vs i with
  | nil => cases x; simp at e
  | cons d' ds ih => cases x with
    | cons a b => cases i with
      | zero => simp at e; subst e; exact ⟨_, rfl, a⟩
      | succ i => simp at e; simpa using ih b e
theorem IsAll.append {Z : Addr → Prop} {h : Heap} {vs ws : List Value} {ds es : List D} (x : IsAll Z h vs ds) (y : IsAll Z h ws es) : IsAll Z h (vs ++ ws) (ds ++ es) := by
  induction ds generalizing vs with
  | nil => cases x; exact y
  | cons d ds ih => cases x with | cons a b => exact .cons a (ih b)
theorem IsAll.one {Z : Addr → Prop} {h : Heap} {v : Value} {d : D} (x : Is Z h v d) : IsAll Z h [v] [d] := .cons x .nil

/-- names and data of a frame -/
abbrev Loc := List (Str × D)
def get : Loc → Str → Option D
  | [], _ => none
  | (y, d) :: r, x => if x = y then some d else get r x
def put : Loc → Str → D → Loc
  | [], x, d => [(x, d)]
  | (y, e) :: r, x, d => if x = y then (y, d) :: r else (y, e) :: put r x d
theorem get_put (r : Loc) (x y : Str) (d : D) : get (put r x d) y = if y = x then some d else get r y := by
  induction r with
  | nil => simp only [put, get]
  | cons p r ih =>
    obtain ⟨z, e⟩ := p
    simp only [put]
    by_cases h : x = z
    · subst h; simp only [if_true, get]; split <;> rfl
    · rw [if_neg h]; simp only [get, ih]
      by_cases h1 : y = z
      · subst h1; simp [Ne.symm h]
      · simp [h1]

abbrev Own := List (Addr × List D)

structure Cx where
  prog : Program
  w : World
  A : Around
  env : Env
  h₀ : Heap
  mg : Str → Option Value
  mb : Str → Option Value

abbrev Cx.M (C : Cx) : Model := model C.prog C.w
def Cx.Mu (C : Cx) (ω : Own) (a : Addr) : Prop := a = C.env.locals ∨ (∃ x, C.env.cells.lookup x = some a) ∨ a ∈ ω.map (·.1)
def Cx.Z (C : Cx) (Zo : Addr → Prop) (ω : Own) (a : Addr) : Prop := Zo a ∨ C.Mu ω a

/-- room around a call -/
structure Room (A : Around) (l : Nat) : Prop where
  hd : A.handled = none
  depth : A.depth + l < 900
  units : A.units + 10 * l < 9000

structure Cx.Ok (C : Cx) (l : Nat) : Prop where
  room : Room C.A l
  kind : C.env.scope.kind = .function
  gl : C.env.globals = mainGlobals
  bl : C.env.builtins = builtinsNs
  g : C.h₀.Ns mainGlobals C.mg
  b : C.h₀.Ns builtinsNs C.mb
  nolimit : C.h₀.NoLimit

def Live (Z : Addr → Prop) (h : Heap) : Prop := ∀ a, Z a → ∃ o, h.get? a = some o

/-- a dict's object (frames are such) -/
def DictD (o : Obj) : Prop := ∃ es ep, o.data = .dict es ep
/-- the frames around stand: dicts, in the zone -/
def FrOk (C : Cx) (Z : Addr → Prop) (h : Heap) : Prop := ∃ l, C.A.frames = some l ∧ ∀ e ∈ l, e.scope.kind ≠ .module ∧ ∃ L o, e.frame = some L ∧ Z L ∧ h.get? L = some o ∧ DictD o
theorem FrOk.of {C : Cx} {Z Z' : Addr → Prop} {h h' : Heap} (x : FrOk C Z h) (k : ∀ b o, Z b → h.get? b = some o → DictD o → Z' b ∧ ∃ o', h'.get? b = some o' ∧ DictD o') : FrOk C Z' h' :=
  let ⟨l, e, f⟩ := x; ⟨l, e, fun a ha => let ⟨h1, L, o, h2, h3, h4, h5⟩ := f a ha; let ⟨z, o', h6, h7⟩ := k L o h3 h4 h5; ⟨h1, L, o', h2, z, h6, h7⟩⟩
abbrev Cx.Zf (C : Cx) (Zo : Addr → Prop) (a : Addr) : Prop := Zo a ∨ a = C.env.locals
structure Sta (C : Cx) (Zo : Addr → Prop) (ρ : Loc) (ω : Own) (s : Shared) : Prop where
  base : ∀ b o, C.h₀.get? b = some o → s.heap.get? b = some o
  new : ∀ a, C.Z Zo ω a → C.h₀.get? a = none
  ns : ∃ m, s.heap.Ns C.env.locals m ∧ ∀ x d, get ρ x = some d → C.env.kindOf x = some .local → ∃ v, m x = some v ∧ Is (C.Z Zo ω) s.heap v d
  cell : ∀ x d, get ρ x = some d → (C.env.kindOf x = some .cell ∨ C.env.kindOf x = some .free) → ∃ c v, C.env.cells.lookup x = some c ∧ s.heap.IsCell c (some v) ∧ Is (C.Z Zo ω) s.heap v d
  cells : ∀ x c, C.env.cells.lookup x = some c → ∃ v, s.heap.IsCell c v
  inj : ∀ x y c, C.env.cells.lookup x = some c → C.env.cells.lookup y = some c → x = y
  own : ∀ p ∈ ω, ∃ vs, s.heap.PlainList p.1 vs.toArray ∧ IsAll (C.Z Zo ω) s.heap vs p.2
  nodup : (ω.map (·.1)).Nodup
  apart : ∀ a ∈ ω.map (·.1), ¬ Zo a
  zo : Live Zo s.heap
  tok : 0 < s.toks
  fr : FrOk C (C.Zf Zo) s.heap

/-- every object stays; only dicts within the zone (frames) may change their slots -/
def KG (Z : Addr → Prop) (h h' : Heap) : Prop := ∀ b o, h.get? b = some o → (¬ (Z b ∧ DictD o) → h'.get? b = some o) ∧ ∃ sl, h'.get? b = some { o with slots := sl }
section
variable {Z Z' : Addr → Prop} {h h' h'' : Heap}
theorem KG.of (k : ∀ b o, h.get? b = some o → h'.get? b = some o) : KG Z h h' := fun b o e => ⟨fun _ => k b o e, o.slots, k b o e⟩
theorem KG.refl : KG Z h h := .of fun _ _ e => e
theorem KG.trans (x : KG Z h h') (y : KG Z h' h'') : KG Z h h'' := fun b o e =>
  ⟨fun hz => (y b o ((x b o e).1 hz)).1 hz, let ⟨_, e1⟩ := (x b o e).2; let ⟨sl, e2⟩ := (y b _ e1).2; ⟨sl, e2⟩⟩
theorem KG.out (x : KG Z h h') {b : Addr} {o : Obj} (hz : ¬ Z b) (e : h.get? b = some o) : h'.get? b = some o := (x b o e).1 fun q => hz q.1
theorem KG.nd (x : KG Z h h') {b : Addr} {o : Obj} (hz : ¬ DictD o) (e : h.get? b = some o) : h'.get? b = some o := (x b o e).1 fun q => hz q.2
theorem KG.trans2 (x : KG Z h h') (y : KG Z' h' h'') (hz : ∀ b o, h.get? b = some o → Z' b → Z b) : KG Z h h'' := fun b o e =>
  ⟨fun q => (y b o ((x b o e).1 q)).1 fun z => q ⟨hz b o e z.1, z.2⟩, let ⟨_, e1⟩ := (x b o e).2; let ⟨sl, e2⟩ := (y b _ e1).2; ⟨sl, e2⟩⟩
theorem KG.after (x : KG Z h h') (k : ∀ b o o', h.get? b = some o → h'.get? b = some o' → h''.get? b = some o') : KG Z h h'' := fun b o e =>
  ⟨fun q => k b o o e ((x b o e).1 q), let ⟨sl, e1⟩ := (x b o e).2; ⟨sl, k b o _ e e1⟩⟩
theorem KG.live (x : KG Z h h') {b : Addr} {o : Obj} (e : h.get? b = some o) : ∃ o', h'.get? b = some o' := let ⟨_, e1⟩ := (x b o e).2; ⟨_, e1⟩
theorem KG.cell {c : Addr} {v : Option Value} (x : KG Z h h') (hc : h.IsCell c v) : h'.IsCell c v := by
  obtain ⟨o, ho, hd⟩ := hc
  exact ⟨o, x.nd (fun ⟨es, ep, q⟩ => by rw [hd] at q; cases q) ho, hd⟩
theorem KG.ns {a : Addr} {m : Str → Option Value} (x : KG Z h h') (hn : h.Ns a m) : h'.Ns a m := by
  obtain ⟨o, es, ep, ho, hd, r⟩ := hn
  obtain ⟨sl, hs⟩ := (x a o ho).2
  exact ⟨_, es, ep, hs, hd, r⟩
theorem KG.plain {a : Addr} {vs : Array Value} (x : KG Z h h') (hl : h.PlainList a vs) : h'.PlainList a vs := by
  obtain ⟨n, ho⟩ := hl
  exact ⟨n, x.nd (by rintro ⟨es, ep, e⟩; cases e) ho⟩
end
/-- keeps every object, in the zone up to its slots -/
def Kp (Z : Addr → Prop) (s s' : Shared) : Prop := ∃ h' tk, s' = { s with heap := h', toks := tk } ∧ KG Z s.heap h' ∧ s.toks ≤ tk
section
variable {Z : Addr → Prop}
theorem Kp.refl (s : Shared) : Kp Z s s := ⟨s.heap, s.toks, rfl, .refl, Nat.le_refl _⟩
theorem Kp.trans {s s' s'' : Shared} (x : Kp Z s s') (y : Kp Z s' s'') : Kp Z s s'' := by
  obtain ⟨h1, t1, rfl, k1, l1⟩ := x
  obtain ⟨h2, t2, rfl, k2, l2⟩ := y
  exact ⟨h2, t2, rfl, k1.trans k2, Nat.le_trans l1 l2⟩
theorem Kp.get {s s' : Shared} (x : Kp Z s s') : KG Z s.heap s'.heap := by
  obtain ⟨h1, t1, rfl, k1, _⟩ := x; exact k1
theorem Kp.toks {s s' : Shared} (x : Kp Z s s') : s.toks ≤ s'.toks := by
  obtain ⟨h1, t1, rfl, _, l1⟩ := x; exact l1
theorem Kp.of {s : Shared} {h' : Heap} {tk : Nat} (k : ∀ b o, s.heap.get? b = some o → h'.get? b = some o) (l : s.toks ≤ tk) : Kp Z s { s with heap := h', toks := tk } := ⟨h', tk, rfl, .of k, l⟩
theorem Kp.tok (s : Shared) (k : Nat) (h : s.toks ≤ k := by first | exact Nat.le_succ _ | exact Nat.le_refl _ | assumption | exact Nat.le_add_right _ _ | exact Nat.le_trans (Nat.le_succ _) (Nat.le_succ _)) : Kp Z s { s with toks := k } := ⟨s.heap, k, rfl, .refl, h⟩
theorem Kp.push (s : Shared) (o : Obj) : Kp Z s { s with heap := s.heap.push o } := ⟨_, s.toks, rfl, .of fun _ _ e => Heap.get?_push_of_some _ e, Nat.le_refl _⟩
theorem Kp.push_tok (s : Shared) (o : Obj) (k : Nat) (h : s.toks ≤ k := by first | exact Nat.le_succ _ | exact Nat.le_refl _ | assumption | exact Nat.le_add_right _ _ | exact Nat.le_trans (Nat.le_succ _) (Nat.le_succ _)) : Kp Z s { s with heap := s.heap.push o, toks := k } := ⟨_, k, rfl, .of fun _ _ e => Heap.get?_push_of_some _ e, h⟩
theorem Is.keepsK {s s' : Shared} {v : Value} {d : D} (x : Is Z s.heap v d) (k : Kp Z s s') : Is Z s'.heap v d := x.move fun b o hz e => ⟨hz, k.get.out hz e⟩
theorem IsAll.keepsK {s s' : Shared} {vs : List Value} {ds : List D} (x : IsAll Z s.heap vs ds) (k : Kp Z s s') : IsAll Z s'.heap vs ds := x.move fun b o hz e => ⟨hz, k.get.out hz e⟩
end
theorem Sta.keeps {C : Cx} {Zo : Addr → Prop} {ρ : Loc} {ω : Own} {s s' : Shared} (x : Sta C Zo ρ ω s) (k : Kp (C.Z Zo ω) s s') : Sta C Zo ρ ω s' := by
  have hk := k.get
  refine ⟨fun b o e => hk.out (fun q => (by rw [x.new b q] at e; cases e)) (x.base b o e), x.new, ?_, ?_, ?_, x.inj, ?_, x.nodup, x.apart, (fun a ha => let ⟨o, ho⟩ := x.zo a ha; let ⟨_, e⟩ := (hk _ _ ho).2; ⟨_, e⟩), Nat.lt_of_lt_of_le x.tok k.toks, x.fr.of fun b o hz e hd => ⟨hz, let ⟨_, e'⟩ := (hk b o e).2; ⟨_, e', hd⟩⟩⟩
  · obtain ⟨m, hn, hm⟩ := x.ns
    exact ⟨m, hk.ns hn, fun y d hy hl => let ⟨v, h1, h2⟩ := hm y d hy hl; ⟨v, h1, h2.keepsK k⟩⟩
  · intro y d hy hl
    obtain ⟨c, v, h1, ⟨o, h2, h2'⟩, h3⟩ := x.cell y d hy hl
    obtain ⟨sl, e⟩ := (hk _ _ h2).2
    exact ⟨c, v, h1, ⟨_, e, h2'⟩, h3.keepsK k⟩
  · intro y c hy
    obtain ⟨v, o, h2, h2'⟩ := x.cells y c hy
    obtain ⟨sl, e⟩ := (hk _ _ h2).2
    exact ⟨v, _, e, h2'⟩
  · intro p hp
    obtain ⟨vs, h1, h2⟩ := x.own p hp
    exact ⟨vs, hk.plain h1, h2.keepsK k⟩

theorem Sta.ownL {C : Cx} {Zo : Addr → Prop} {ρ : Loc} {ω : Own} {s : Shared} (x : Sta C Zo ρ ω s) : ∀ p ∈ ω, ∃ vs, s.heap.IsList p.1 vs.toArray ∧ IsAll (C.Z Zo ω) s.heap vs p.2 := fun p hp =>
  let ⟨vs, h1, h2⟩ := x.own p hp; ⟨vs, h1.isList, h2⟩
theorem Sta.live {C : Cx} {Zo : Addr → Prop} {ρ : Loc} {ω : Own} {s : Shared} (hs : Sta C Zo ρ ω s) : Live (C.Z Zo ω) s.heap := by
  rintro a (h | h | ⟨x, h⟩ | h)
  · exact hs.zo a h
  · obtain ⟨m, ⟨o, _, _, ho, _⟩, _⟩ := hs.ns
    exact ⟨o, h ▸ ho⟩
  · obtain ⟨v, o, ho, _⟩ := hs.cells x _ h
    exact ⟨o, ho⟩
  · obtain ⟨p, hp, e⟩ := List.mem_map.mp h
    obtain ⟨vs, ⟨o, ho, _⟩, _⟩ := hs.ownL p hp
    exact ⟨o, e ▸ ho⟩
theorem Live.new {Z : Addr → Prop} {h : Heap} (x : Live Z h) : ¬ Z h.objs.size := fun hz =>
  let ⟨_, ho⟩ := x _ hz; Nat.lt_irrefl _ (Heap.lt_size ho)
theorem Live.keeps {Z : Addr → Prop} {h h' : Heap} (x : Live Z h) (hk : ∀ b o, h.get? b = some o → h'.get? b = some o) : Live Z h' := fun a ha =>
  let ⟨o, ho⟩ := x a ha; ⟨o, hk _ _ ho⟩

/-- what a pure tree gives -/
def Gv (Z : Addr → Prop) (s : Shared) (K : D → Prop) (v : Value) (s' : Shared) : Prop := Kp Z s s' ∧ ∃ d, Is Z s'.heap v d ∧ K d
abbrev NoE : Value → Shared → Prop := fun _ _ => False

/-- an expression that keeps the heap and gives a datum -/
structure Pe (C : Cx) (ρ : Loc) (ω : Own) (e : Expr) (K : D → Prop) : Prop where
  run : ∀ {Zo : Addr → Prop} s, Sta C Zo ρ ω s → wpAny C.M C.A (eval e C.env) (Gv (C.Z Zo ω) s K) NoE s
/-- a test -/
structure Pt (C : Cx) (ρ : Loc) (ω : Own) (e : Expr) (K : Bool → Prop) : Prop where
  run : ∀ {Zo : Addr → Prop} s, Sta C Zo ρ ω s → wpAny C.M C.A (isTrue e C.env (eval e C.env)) (fun b s' => Kp (C.Z Zo ω) s s' ∧ K b) NoE s
/-- a list of expressions -/
structure Pl (C : Cx) (ρ : Loc) (ω : Own) (es : List Expr) (K : List D → Prop) : Prop where
  run : ∀ {Zo : Addr → Prop} s pos, Sta C Zo ρ ω s → wpAny C.M C.A (spliced (backTo pos (starEach es C.env))) (fun vs s' => Kp (C.Z Zo ω) s s' ∧ ∃ ds, IsAll (C.Z Zo ω) s'.heap vs ds ∧ K ds) NoE s

theorem Gv.mono {Z : Addr → Prop} {s s' : Shared} {K K' : D → Prop} {v : Value} (x : Gv Z s K v s') (h : ∀ d, K d → K' d) : Gv Z s K' v s' :=
  ⟨x.1, let ⟨d, h1, h2⟩ := x.2; ⟨d, h1, h d h2⟩⟩
theorem Pe.mono {C : Cx} {ρ : Loc} {ω : Own} {e : Expr} {K K' : D → Prop} (x : Pe C ρ ω e K) (h : ∀ d, K d → K' d) : Pe C ρ ω e K' := .mk <|
  fun {Zo} s hs => wpAny_mono (x.run s hs) (fun _ _ g => g.mono h) fun _ _ e => e
/-- what stands under a call: the base, and nothing of it in the zone -/
structure Und (C : Cx) (Z : Addr → Prop) (s : Shared) : Prop where
  live : Live Z s.heap
  base : ∀ b o, C.h₀.get? b = some o → s.heap.get? b = some o
  new : ∀ a, Z a → C.h₀.get? a = none
  tok : 0 < s.toks
  fr : FrOk C Z s.heap
theorem Sta.und {C : Cx} {Zo : Addr → Prop} {ρ : Loc} {ω : Own} {s : Shared} (x : Sta C Zo ρ ω s) : Und C (C.Z Zo ω) s := ⟨x.live, x.base, x.new, x.tok, x.fr.of fun b o hz e hd => ⟨hz.elim .inl fun q => .inr (.inl q), _, e, hd⟩⟩

/-- an operation upon one, two data -/
structure Do1 (C : Cx) (f : Value → Sem Value) (a : D) (K : D → Prop) : Prop where
  run : ∀ {Z : Addr → Prop} s v, Und C Z s → Is Z s.heap v a → wpAny C.M C.A (f v) (Gv Z s K) NoE s
structure Do2 (C : Cx) (f : Value → Value → Sem Value) (a b : D) (K : D → Prop) : Prop where
  run : ∀ {Z : Addr → Prop} s v w, Und C Z s → Is Z s.heap v a → Is Z s.heap w b → wpAny C.M C.A (f v w) (Gv Z s K) NoE s
/-- a call upon data: a built-in, or a def under the base -/
structure DoC (C : Cx) (f : Value) (as : List D) (K : D → Prop) : Prop where
  run : ∀ {Z : Addr → Prop} s vs, Und C Z s → IsAll Z s.heap vs as → wpAny C.M C.A (call f vs) (Gv Z s K) NoE s
structure Tr1 (C : Cx) (a : D) (K : Bool → Prop) : Prop where
  run : ∀ {Z : Addr → Prop} s v, Und C Z s → Is Z s.heap v a → wpAny C.M C.A (truthy v) (fun b s' => Kp Z s s' ∧ K b) NoE s

section
variable {C : Cx} {Zo : Addr → Prop} {ρ : Loc} {ω : Own} {l : Nat} {K : D → Prop}

theorem pe_int {i : Int} {k : Nat} {p : Pos} (h : K (.int i)) : Pe C ρ ω (.Constant (.int i) k p) K := .mk fun {_} _ _ =>
  wpAny_Constant_int ⟨Kp.tok _ _, _, .int, h⟩
theorem pe_str {x : Str} {k : Nat} {p : Pos} (h : K (.str x.cps.toList)) : Pe C ρ ω (.Constant (.str x) k p) K := .mk fun {_} _ _ =>
  wpAny_Constant_str ⟨Kp.tok _ _, _, (by
    have : x = mkS x.cps.toList := by obtain ⟨a⟩ := x; simp [mkS]
    conv => arg 3; rw [this]
    exact .str), h⟩
theorem pe_bool {b : Bool} {k : Nat} {p : Pos} (h : K (.bool b)) : Pe C ρ ω (.Constant (.bool b) k p) K := .mk fun {_} _ _ =>
  wpAny_Constant_bool ⟨Kp.refl _, _, .bool, h⟩
theorem pe_loc {x : Str} {p : Pos} {d : D} (ok : C.Ok l) (hx : get ρ x = some d) (hk : C.env.kindOf x = some .local) (h : K d) (hd : (x == ("__debug__" : Str)) = false := by decide) : Pe C ρ ω (.Name x p) K := .mk fun {Zo} s hs => by
  obtain ⟨m, hn, hm⟩ := hs.ns
  obtain ⟨v, h1, h2⟩ := hm x d hx hk
  exact wpAny_Name (wpAny_loadName_local ok.kind hk hn h1 ⟨Kp.refl _, d, h2, h⟩) hd
theorem pe_glob {x : Str} {p : Pos} {v : Value} {d : D} (ok : C.Ok l) (hv : C.mg x = some v) (hi : Is (fun a => C.h₀.get? a = none) C.h₀ v d) (hk : C.env.kindOf x = some .globalImplicit) (h : K d) (hd : (x == ("__debug__" : Str)) = false := by decide) : Pe C ρ ω (.Name x p) K := .mk fun {Zo} s hs =>
  Calls.Name_function_global ok.kind hk (Calls.loadGlobal_global (by rw [ok.gl]; exact ok.g.keeps hs.base) hv ⟨Kp.refl _, d, hi.move (fun b o hz e => ⟨fun q => hz (hs.new b q), hs.base b o e⟩), h⟩) hd
theorem pe_blt {x : Str} {p : Pos} {v : Value} (ok : C.Ok l) (hm : C.mg x = none) (hv : C.mb x = some v) (hk : C.env.kindOf x = some .globalImplicit) (h : K (.val v)) (hd : (x == ("__debug__" : Str)) = false := by decide) : Pe C ρ ω (.Name x p) K := .mk fun {Zo} s hs =>
  Calls.Name_function_global ok.kind hk (Calls.loadGlobal_builtin (by rw [ok.gl]; exact ok.g.keeps hs.base) hm (by rw [ok.bl]; exact ok.b.keeps hs.base) hv ⟨Kp.refl _, _, .val, h⟩) hd

theorem pe_bin {a b : Expr} {op : Operator} {p : Pos} (h : Pe C ρ ω a (fun x => Pe C ρ ω b (fun y => Do2 C (binaryOp op) x y K))) : Pe C ρ ω (.BinOp a op b p) K := .mk fun {Zo} s hs =>
  wpAny_BinOp (wpAny_mono (h.run s hs) (fun v s₁ ⟨k1, x, i1, h1⟩ => wpAny_mono (h1.run s₁ (hs.keeps k1)) (fun w s₂ ⟨k2, y, i2, h2⟩ =>
    wpAny_mono (h2.run s₂ v w (hs.keeps (k1.trans k2)).und (i1.keepsK k2) i2) (fun r s₃ ⟨k3, z, i3, h3⟩ => ⟨(k1.trans k2).trans k3, z, i3, h3⟩) fun _ _ e => e) fun _ _ e => e) fun _ _ e => e)
theorem pe_un {a : Expr} {op : UnaryOp} {p : Pos} (h : Pe C ρ ω a (fun x => Do1 C (unaryOp op) x K)) : Pe C ρ ω (.UnaryOp op a p) K := .mk fun {Zo} s hs =>
  wpAny_UnaryOp (wpAny_mono (h.run s hs) (fun v s₁ ⟨k1, x, i1, h1⟩ => wpAny_mono (h1.run s₁ v (hs.keeps k1).und i1) (fun r s₃ ⟨k3, z, i3, h3⟩ => ⟨k1.trans k3, z, i3, h3⟩) fun _ _ e => e) fun _ _ e => e)
theorem pt_cmp {a b : Expr} {op : CmpOp} {p : Pos} {K : Bool → Prop} (h : Pe C ρ ω a (fun x => Pe C ρ ω b (fun y => Do2 C (compareOp op) x y (fun c => Tr1 C c K)))) (hm : behindInMarks op b = false) : Pt C ρ ω (.Compare a [op] [b] p) K := .mk fun {Zo} s hs =>
  wpAny_isTrue_Compare1 (wpAny_mono (h.run s hs) (fun v s₁ ⟨k1, x, i1, h1⟩ => wpAny_mono (h1.run s₁ (hs.keeps k1)) (fun w s₂ ⟨k2, y, i2, h2⟩ =>
    wpAny_mono (h2.run s₂ v w (hs.keeps (k1.trans k2)).und (i1.keepsK k2) i2) (fun r s₃ ⟨k3, z, i3, h3⟩ => wpAny_mono (h3.run s₃ r (hs.keeps ((k1.trans k2).trans k3)).und i3) (fun b s₄ ⟨k4, h4⟩ => ⟨((k1.trans k2).trans k3).trans k4, h4⟩) fun _ _ e => e) fun _ _ e => e) fun _ _ e => e) fun _ _ e => e) hm
theorem pt_not {a : Expr} {p : Pos} {K : Bool → Prop} (h : Pt C ρ ω a (fun b => K (!b))) : Pt C ρ ω (.UnaryOp .Not a p) K := .mk fun {Zo} s hs => wpAny_isTrue_Not (h.run s hs)
/-- a test by its value -/
theorem pt_val {a : Expr} {K : Bool → Prop} (h : Pe C ρ ω a (fun d => Tr1 C d K))
    (he : ∀ whole, isTrue a C.env whole = (do let v ← whole; standAt a.pos; holding [v] (truthy v))) : Pt C ρ ω a K := .mk fun {Zo} s hs =>
  wpAny_isTrue_value (wpAny_mono (h.run s hs) (fun v s₁ ⟨k1, x, i1, h1⟩ => wpAny_mono (h1.run s₁ v (hs.keeps k1).und i1) (fun b s₂ ⟨k2, h2⟩ => ⟨k1.trans k2, h2⟩) fun _ _ e => e) fun _ _ e => e) (he _)
/-- the rest of an and, an or -/
structure Pb (C : Cx) (ρ : Loc) (ω : Own) (op : BoolOp) (es : List Expr) (K : Bool → Prop) : Prop where
  run : ∀ {Zo : Addr → Prop} s, Sta C Zo ρ ω s → wpAny C.M C.A (allTrue op es C.env) (fun b s' => Kp (C.Z Zo ω) s s' ∧ K b) NoE s
theorem pt_bool {op : BoolOp} {es : List Expr} {p : Pos} {K : Bool → Prop} (h : Pb C ρ ω op es K) : Pt C ρ ω (.BoolOp op es p) K := .mk fun {Zo} s hs => wpAny_isTrue_BoolOp (h.run s hs)
theorem pb_and_nil {K : Bool → Prop} (h : K true) : Pb C ρ ω .And [] K := .mk fun _ _ => wpAny_allTrue_And_nil ⟨Kp.refl _, h⟩
theorem pb_and {x : Expr} {rest : List Expr} {K : Bool → Prop} (h : Pt C ρ ω x (fun b => if b then Pb C ρ ω .And rest K else K false)) : Pb C ρ ω .And (x :: rest) K := .mk fun {Zo} s hs =>
  wpAny_allTrue_And_cons (wpAny_mono (h.run s hs) (fun b s₁ ⟨k1, h1⟩ => by
    cases b with
    | true => exact wpAny_mono (h1.run s₁ (hs.keeps k1)) (fun _ _ ⟨k2, h2⟩ => ⟨k1.trans k2, h2⟩) fun _ _ e => e
    | false => exact ⟨k1, h1⟩) fun _ _ e => e)
theorem pb_or {x : Expr} {rest : List Expr} {K : Bool → Prop} (h : Pt C ρ ω x (fun b => if b then K true else Pb C ρ ω .Or rest K)) : Pb C ρ ω .Or (x :: rest) K := .mk fun {Zo} s hs =>
  wpAny_allTrue_Or_cons (wpAny_mono (h.run s hs) (fun b s₁ ⟨k1, h1⟩ => by
    cases b with
    | false => exact wpAny_mono (h1.run s₁ (hs.keeps k1)) (fun _ _ ⟨k2, h2⟩ => ⟨k1.trans k2, h2⟩) fun _ _ e => e
    | true => exact ⟨k1, h1⟩) fun _ _ e => e)
theorem pb_or_nil {K : Bool → Prop} (h : K false) : Pb C ρ ω .Or [] K := .mk fun _ _ => wpAny_allTrue_Or_nil ⟨Kp.refl _, h⟩
end
end Mine
end

section
namespace Mine

section
variable {C : Cx} {Zo : Addr → Prop} {ρ : Loc} {ω : Own} {l : Nat} {K : D → Prop}

theorem pl_nil {K : List D → Prop} (h : K []) : Pl C ρ ω [] K := .mk fun s pos _ => Calls.spliced_nil ⟨Kp.refl _, [], .nil, h⟩
theorem pl_cons {e : Expr} {es : List Expr} {K : List D → Prop} (h : Pe C ρ ω e (fun d => Pl C ρ ω es (fun ds => K (d :: ds))))
    (he : starEach (e :: es) C.env = (false, eval e C.env) :: starEach es C.env) : Pl C ρ ω (e :: es) K := .mk fun {Zo} s pos hs =>
  wpAny_items_cons (wpAny_mono (h.run s hs) (fun v s₁ ⟨k1, d, i1, h1⟩ => wpAny_mono (h1.run s₁ pos (hs.keeps k1)) (fun vs s₂ ⟨k2, ds, i2, h2⟩ =>
    ⟨k1.trans k2, d :: ds, .cons (i1.keepsK k2) i2, h2⟩) fun _ _ e => e) fun _ _ e => e) he

/-- what may be called -/
inductive Callable (h : Heap) : Value → Prop where
  | blt {id : String} : Callable h (.builtin id)
  | typ {T : String} : Callable h (.type T)
  | fn {q : Addr} : FnAt q h → Callable h (.ref q)

theorem FnAt.keeps {q : Addr} {h h' : Heap} (x : FnAt q h) (hk : ∀ b o, h.get? b = some o → h'.get? b = some o) : FnAt q h' :=
  let ⟨a, b, c, d, e⟩ := x; ⟨a, b, c, d, hk _ _ e⟩

theorem callWith_any {v : Value} {e : Expr} {es : List Expr} {pos : Pos} (hc : Callable C.h₀ v)
    (h : Pl C ρ ω (e :: es) (fun ds => DoC C v ds K))
    (he : starEach (e :: es) C.env = (false, eval e C.env) :: starEach es C.env) (hplain : (backTo pos (starEach es C.env)).any (·.1) = false) (s : Shared) (hs : Sta C Zo ρ ω s) :
    wpAny C.M C.A (callWith pos v [] (backTo pos (starEach (e :: es) C.env)) []) (Gv (C.Z Zo ω) s K) NoE s := by
  have hh : wpAny C.M C.A (spliced (backTo pos (starEach (e :: es) C.env))) (fun vs s₁ => Kp (C.Z Zo ω) s s₁ ∧ wpAny C.M C.A (call v vs) (Gv (C.Z Zo ω) s K) NoE s₁) NoE s :=
    wpAny_mono (h.run s pos hs) (fun vs s₁ ⟨k1, ds, i1, h1⟩ => ⟨k1, wpAny_mono (h1.run s₁ vs (hs.keeps k1).und i1) (fun r s₂ ⟨k2, d, i2, h2⟩ => ⟨k1.trans k2, d, i2, h2⟩) fun _ _ e => e⟩) fun _ _ e => e
  cases hc with
  | blt => exact callWith_method1 (first := []) (wpAny_mono hh (fun vs s₁ x => x.2) fun _ _ e => e) he hplain
  | typ => exact PyProof.Rows.callWith_type1 (wpAny_mono hh (fun vs s₁ x => x.2) fun _ _ e => e) he hplain
  | fn hf => exact callWith_F (first := []) (FnAt.keeps hf hs.base) (wpAny_mono hh (fun vs s₁ x => ⟨FnAt.keeps hf (hs.keeps x.1).base, x.2⟩) fun _ _ e => e) he hplain

theorem pe_call {f : Str} {np pos : Pos} {e : Expr} {es : List Expr} (h : Pe C ρ ω (.Name f np) (fun d => ∃ v, d = .val v ∧ Callable C.h₀ v ∧ Pl C ρ ω (e :: es) (fun ds => DoC C v ds K)))
    (he : starEach (e :: es) C.env = (false, eval e C.env) :: starEach es C.env) (hplain : (backTo pos (starEach es C.env)).any (·.1) = false) : Pe C ρ ω (.Call (.Name f np) (e :: es) [] pos) K := .mk fun {Zo} s hs => by
  refine wpAny_Call_NameR (wpAny_mono (h.run s hs) (fun fv s₁ x => ?_) fun _ _ e => e)
  obtain ⟨k1, d, i1, v, rfl, hc, h1⟩ := x
  cases i1
  exact wpAny_mono (callWith_any hc h1 he hplain s₁ (hs.keeps k1)) (fun r s₂ ⟨k2, d, i2, h2⟩ => ⟨k1.trans k2, d, i2, h2⟩) fun _ _ e => e

/-- a method of a text, with arguments -/
theorem pe_meth {o : Expr} {name : Str} {id : String} {apos pos : Pos} {e : Expr} {es : List Expr} (slot : Slot "str" name id) (ty : typeOf (.builtin id) = pure (.type "method_descriptor"))
    (h : Pe C ρ ω o (fun d => ∃ x, d = .str x ∧ Pl C ρ ω (e :: es) (fun ds => DoC C (.builtin id) (.str x :: ds) K)))
    (hbase : attributeBase o name C.env (eval o C.env) = eval o C.env)
    (hfew : ((backTo pos (starEach (e :: es) C.env)).all (fun x => !x.1) && (backToKw pos (keywordEach [] C.env)).all (fun x => x.1.isSome)
      && decide ((e :: es).length + ([] : List Keyword).length + (if ([] : List Keyword).isEmpty then 0 else 1) < 30)) = true)
    (hline : (apos.endLine == pos.line) = true)
    (he : starEach (e :: es) C.env = (false, eval e C.env) :: starEach es C.env) (hplain : (backTo pos (starEach es C.env)).any (·.1) = false) :
    Pe C ρ ω (.Call (.Attribute o name apos) (e :: es) [] pos) K := .mk fun {Zo} s hs => by
  refine wpAny_Call_method_lateS hbase hfew hline (wpAny_mono (h.run s hs) (fun ov s₁ x => ?_) fun _ _ e => e)
  obtain ⟨k1, d, i1, x, rfl, h1⟩ := x
  cases i1
  refine ⟨"str", id, F.plainAttrs_str, slot, ty, typeIs_str _ _ _, (fun _ e => nomatch e), ?_⟩
  refine callWith_method1 (first := [.str (mkS x) _]) (wpAny_mono (h1.run s₁ pos (hs.keeps k1)) (fun vs s₂ ⟨k2, ds, i2, h2⟩ => ?_) fun _ _ e => e) he hplain
  have hs2 := (hs.keeps k1).keeps k2
  exact wpAny_mono (h2.run s₂ _ hs2.und (.cons .str i2)) (fun r s₃ ⟨k3, d, i3, h3⟩ => ⟨(k1.trans k2).trans k3, d, i3, h3⟩) fun _ _ e => e
theorem pe_meth0 {o : Expr} {name : Str} {id : String} {apos pos : Pos} (slot : Slot "str" name id) (ty : typeOf (.builtin id) = pure (.type "method_descriptor"))
    (h : Pe C ρ ω o (fun d => ∃ x, d = .str x ∧ DoC C (.builtin id) [.str x] K))
    (hbase : attributeBase o name C.env (eval o C.env) = eval o C.env) (hline : (apos.endLine == pos.line) = true) :
    Pe C ρ ω (.Call (.Attribute o name apos) [] [] pos) K := .mk fun {Zo} s hs => by
  refine wpAny_Call_method_lateS hbase rfl hline (wpAny_mono (h.run s hs) (fun ov s₁ x => ?_) fun _ _ e => e)
  obtain ⟨k1, d, i1, x, rfl, h1⟩ := x
  cases i1
  refine ⟨"str", id, F.plainAttrs_str, slot, ty, typeIs_str _ _ _, (fun _ e => nomatch e), ?_⟩
  refine callWith_method0 ?_
  exact wpAny_mono (h1.run s₁ _ (hs.keeps k1).und (.cons .str .nil)) (fun r s₃ ⟨k3, d, i3, h3⟩ => ⟨k1.trans k3, d, i3, h3⟩) fun _ _ e => e

end
end Mine
end

section
namespace Mine

/-- Python's index into a list -/
def idx {α : Type} (xs : List α) (k : Int) : Option α := (seqIndex? k xs.length).bind (xs[·]?)
/-- Python's slice by ones -/
def sl {α : Type} (xs : List α) (lo hi : Option Int) : List α :=
  (xs.drop (lo.elim 0 (clipAt xs.length))).take (hi.elim xs.length (clipAt xs.length) - lo.elim 0 (clipAt xs.length))

def lim : Nat := 2 ^ 24
theorem lim_le {n : Nat} (h : n ≤ lim) : n ≤ sizeLine := by rw [sizeLine_eq]; simpa [lim] using h

def getO : Own → Addr → Option (List D)
  | [], _ => none
  | (b, ds) :: r, a => if a = b then some ds else getO r a
theorem getO_mem {ω : Own} {a : Addr} {ds : List D} (h : getO ω a = some ds) : (a, ds) ∈ ω := by
  induction ω with
  | nil => cases h
  | cons p r ih =>
    obtain ⟨b, es⟩ := p
    simp only [getO] at h
    split at h
    · rename_i e; cases h; subst e; exact .head _
    · exact .tail _ (ih h)

def SubK (ω : Own) (o i : D) (K : D → Prop) : Prop := match o, i with
  | .str x, .int k => ∃ c, idx x k = some c ∧ x.length ≤ lim ∧ K (.str [c])
  | .list ds, .int k => ∃ d, idx ds k = some d ∧ ds.length ≤ lim ∧ K d
  | .tup ds, .int k => ∃ d, idx ds k = some d ∧ ds.length ≤ lim ∧ K d
  | .val (.ref a), .int k => ∃ ds d, getO ω a = some ds ∧ idx ds k = some d ∧ ds.length ≤ lim ∧ K d
  | _, _ => False

theorem idx_bounds {α : Type} {xs : List α} {k : Int} {c : α} (h : idx xs k = some c) : -(xs.length : Int) ≤ k ∧ k < xs.length := by
  unfold idx seqIndex? at h
  obtain ⟨j, hj, hx⟩ := Option.bind_eq_some_iff.mp h
  simp only [] at hj
  split at hj
  · split at hj
    · rename_i q; simp only [Bool.and_eq_true, decide_eq_true_eq] at q; omega
    · cases hj
  · split at hj
    · rename_i q; simp only [Bool.and_eq_true, decide_eq_true_eq] at q; omega
    · cases hj

section
variable {C : Cx} {Zo : Addr → Prop} {ρ : Loc} {ω : Own} {l : Nat} {K : D → Prop}

theorem getItem_seq {s : Shared} {a : Addr} {vs : List Value} {ds : List D} {k : Int} {t : Tok} {d : D} {Z : Addr → Prop} (hl : s.heap.IsList a vs.toArray) (hi : IsAll Z s.heap vs ds) (hk : idx ds k = some d) (hlen : ds.length ≤ lim) (h : K d) :
    wpAny C.M C.A (getItem (.ref a) (.int k t)) (Gv Z s K) NoE s := by
  have hb := idx_bounds hk
  have hlen' := hi.length
  simp only [lim] at hlen
  unfold idx seqIndex? at hk
  obtain ⟨j, hj, hx⟩ := Option.bind_eq_some_iff.mp hk
  obtain ⟨v, hv, iv⟩ := hi.get hx
  simp only [] at hj
  by_cases h0 : k < 0
  · rw [if_pos h0] at hj
    split at hj
    · cases hj
      exact wpAny_getItem_list_neg hl h0 (by simp; omega) (by omega) (by simpa [hlen'] using hv) ⟨Kp.refl _, d, iv, h⟩
    · cases hj
  · rw [if_neg h0] at hj
    split at hj
    · cases hj
      exact wpAny_getItem_list hl (by omega) (by omega) (by simpa using hv) ⟨Kp.refl _, d, iv, h⟩
    · cases hj

theorem sub_doc {s : Shared} {o i : Value} {do' di : D} {value slice : Expr} (hs : Sta C Zo ρ ω s) (io : Is (C.Z Zo ω) s.heap o do') (ii : Is (C.Z Zo ω) s.heap i di) (h : SubK ω do' di K)
    (hsl : ∀ o i, subscripted slice false o i = operate [o, i] (getItem o i)) : wpAny C.M C.A (subscriptTail value slice o i) (Gv (C.Z Zo ω) s K) NoE s := by
  cases ii with
  | int =>
    cases io with
    | str =>
      rename_i ki ti xi tx
      obtain ⟨c, hc, hlen, hK⟩ := h
      have hb := idx_bounds hc
      simp only [lim] at hlen
      refine tail_any (typeIs_str _ _ _) F.slot_str_getitem.lookup (SB.getItem (fitsSsize_of (N := 9223372036854775808) (by omega) (by omega) (Int.le_refl _)) (charAt_isSome (by simpa [Str.length] using hb.1) (by simpa [Str.length] using hb.2)) ?_) (hsl _ _)
      refine ⟨Kp.tok _ _, _, ?_, hK⟩
      have : Txt.item (mkS xi) ki = mkS [c] := by
        unfold Txt.item Txt.charAt
        unfold idx at hc
        simp only [mkS, Str.length, List.size_toArray, List.getElem?_toArray] at hc ⊢
        rw [hc]; rfl
      rw [this]; exact .str
    | list hz hl hi =>
      obtain ⟨d, hk, hlen, hK⟩ := h
      exact tail_any hl.typeIs slot_list_getitem.lookup (getItem_seq hl hi hk hlen hK) (hsl _ _)
    | tup hz hl hi =>
      obtain ⟨d, hk, hlen, hK⟩ := h
      have hb := idx_bounds hk
      have hlen' := hi.length
      simp only [lim] at hlen
      unfold idx at hk
      obtain ⟨j, hj, hx⟩ := Option.bind_eq_some_iff.mp hk
      obtain ⟨v, hv, iv⟩ := hi.get hx
      obtain ⟨ob, hob, hcls, n, hdat⟩ := id hl
      exact tail_any (T := "tuple") ⟨ob, hob, hcls⟩ slot_tuple_getitem.lookup (PyProof.Rows.getItem_tuple (items := _) ⟨ob, hob, hcls, n, hdat⟩ (by omega) (by omega) (by simpa [hlen'] using hj) (by simpa using hv) ⟨Kp.refl _, d, iv, hK⟩) (hsl _ _)
    | val =>
      rename_i k t
      cases o with
      | ref a =>
        obtain ⟨ds, d, hg, hk, hlen, hK⟩ := h
        obtain ⟨vs, hl, hi⟩ := hs.ownL _ (getO_mem hg)
        exact tail_any hl.typeIs slot_list_getitem.lookup (getItem_seq hl hi hk hlen hK) (hsl _ _)
      | _ => exact h.elim
    | _ => exact h.elim
  | _ => cases do' <;> first | exact h.elim | (rename_i v; cases v <;> exact h.elim)

theorem pe_sub {value slice : Expr} {p : Pos} (h : Pe C ρ ω value (fun o => Pe C ρ ω slice (fun i => SubK ω o i K)))
    (hsl : ∀ o i, subscripted slice false o i = operate [o, i] (getItem o i)) : Pe C ρ ω (.Subscript value slice p) K := .mk fun {Zo} s hs => by
  refine Subscript_ (wpAny_mono (h.run s hs) (fun o s₁ ⟨k1, x, i1, h1⟩ => wpAny_mono (h1.run s₁ (hs.keeps k1)) (fun i s₂ ⟨k2, y, i2, h2⟩ => ?_) fun _ _ e => e) fun _ _ e => e)
  exact wpAny_mono (sub_doc (hs.keeps (k1.trans k2)) (i1.keepsK k2) i2 h2 hsl) (fun r s₃ ⟨k3, z, i3, h3⟩ => ⟨(k1.trans k2).trans k3, z, i3, h3⟩) fun _ _ e => e

/-- displays -/
theorem pe_list {es : List Expr} {p : Pos} (h : Pl C ρ ω es (fun ds => ds.length ≤ lim ∧ K (.list ds))) : Pe C ρ ω (.List es p) K := .mk fun {Zo} s hs =>
  wpAny_List (wpAny_mono (h.run s p hs) (fun vs s₁ ⟨k1, ds, i1, hlen, h1⟩ => ⟨lim_le (by rw [i1.length]; exact hlen), k1.trans (Kp.push _ _), .list ds,
    .list ((hs.keeps k1).live.new) ⟨_, Heap.get?_push_size _ rfl, rfl, 0, rfl⟩ (i1.keeps fun b o e => Heap.get?_push_of_some _ e), h1⟩) fun _ _ e => e)
/-- a slice's bound -/
structure Po (C : Cx) (ρ : Loc) (ω : Own) (e : Option Expr) (K : Option Int → Prop) : Prop where
  run : ∀ {Zo : Addr → Prop} s, Sta C Zo ρ ω s → wpAny C.M C.A (evalPart e C.env) (fun v s' => Kp (C.Z Zo ω) s s' ∧ ∃ i, IsPart v i ∧ K i) NoE s
theorem po_none {K : Option Int → Prop} (h : K none) : Po C ρ ω none K := .mk fun s _ => wpAny_evalPart_none ⟨Kp.refl _, none, .none, h⟩
theorem po_some {e : Expr} {K : Option Int → Prop} (h : Pe C ρ ω e (fun d => ∃ i, d = .int i ∧ K (some i))) : Po C ρ ω (some e) K := .mk fun {Zo} s hs =>
  wpAny_evalPart_some (wpAny_mono (h.run s hs) (fun v s₁ ⟨k1, d, i1, i, e, h1⟩ => ⟨k1, some i, by subst e; cases i1; exact .int _ _, h1⟩) fun _ _ e => e)

def SliceK (ω : Own) (o : D) (lo hi : Option Int) (K : D → Prop) : Prop := match o with
  | .str x => x.length ≤ lim ∧ K (.str (sl x lo hi))
  | .list ds => ds.length ≤ lim ∧ K (.list (sl ds lo hi))
  | .val (.ref a) => ∃ ds, getO ω a = some ds ∧ ds.length ≤ lim ∧ K (.list (sl ds lo hi))
  | _ => False

theorem strSlice_sl (x : List Nat) (lo hi : Option Int) : (Builtin.Str.strSliceIndices lo hi 1 x.length).filterMap (x[·]?) = sl x lo hi := by
  have e : Builtin.Str.strSliceIndices lo hi 1 x.length = sliceRange ((lo.elim 0 (clipAt x.length) : Nat) : Int) ((hi.elim x.length (clipAt x.length) : Nat) : Int) 1 := by
    cases lo <;> cases hi <;> simp [Builtin.Str.strSliceIndices, clipAt_cast]
  rw [e, sliceRange_one]
  have := pick_run x.toArray (lo.elim 0 (clipAt x.length)) (hi.elim x.length (clipAt x.length) - lo.elim 0 (clipAt x.length))
  simpa [sl] using this
theorem sl_length {α : Type} (xs : List α) (lo hi : Option Int) : (sl xs lo hi).length ≤ xs.length := by
  unfold sl; simp only [List.length_take, List.length_drop]; omega
theorem sl_same {α : Type} {xs : List α} {lo hi : Option Int} (h : (sl xs lo hi).length = xs.length) : sl xs lo hi = xs := by
  unfold sl at h ⊢
  simp only [List.length_take, List.length_drop] at h
  rcases Nat.eq_zero_or_pos xs.length with h0 | h0
  · have : xs = [] := List.length_eq_zero_iff.mp h0
    subst this; simp
  · have h1 : lo.elim 0 (clipAt xs.length) = 0 := by omega
    rw [h1] at h ⊢
    simp only [List.drop_zero, Nat.sub_zero] at h ⊢
    exact List.take_of_length_le (by omega)
theorem IsAll.sl {Z : Addr → Prop} {h : Heap} {vs : List Value} {ds : List D} (x : IsAll Z h vs ds) (lo hi : Option Int) : IsAll Z h (sl vs lo hi) (sl ds lo hi) := by
  have hd : ∀ (n : Nat) {vs : List Value} {ds : List D}, IsAll Z h vs ds → IsAll Z h (vs.drop n) (ds.drop n) := by
    intro n
    induction n with
    | zero => intro vs ds x; exact x
    | succ n ih => intro vs ds x; cases x with
      | nil => exact .nil
      | cons a b => exact ih b
  have ht : ∀ (n : Nat) {vs : List Value} {ds : List D}, IsAll Z h vs ds → IsAll Z h (vs.take n) (ds.take n) := by
    intro n
    induction n with
    | zero => intro vs ds x; exact .nil
    | succ n ih => intro vs ds x; cases x with
      | nil => exact .nil
      | cons a b => exact .cons a (ih b)
  unfold Mine.sl
  rw [x.length]
  exact ht _ (hd _ x)

theorem listSlice {s : Shared} {a sla : Addr} {vs : List Value} {ds : List D} {vl vu : Value} {lo hi : Option Int} {Z : Addr → Prop} (hl : s.heap.IsList a vs.toArray) (hi' : IsAll Z s.heap vs ds) (live : Live Z s.heap)
    (hs : s.heap.IsSliceOf sla vl vu .none) (pl : IsPart vl lo) (pu : IsPart vu hi) (hlen : ds.length ≤ lim) (h : K (.list (sl ds lo hi))) :
    wpAny C.M C.A (getItem (.ref a) (.ref sla)) (Gv Z s K) NoE s := by
  refine wpAny_getItem_list_slice hl hs pl pu .none (by simp) ?_ (by rw [List.size_toArray, hi'.length]; exact lim_le hlen)
  refine ⟨Kp.push _ _, _, .list live.new ⟨_, Heap.get?_push_size _ rfl, rfl, 0, ?_⟩ ((hi'.sl lo hi).keeps fun b o e => Heap.get?_push_of_some _ e), h⟩
  rw [slicePick_plain]; simp [sl]

theorem slice_doc {s : Shared} {o : Value} {sla : Addr} {do' : D} {vl vu : Value} {lo hi : Option Int} (hs : Sta C Zo ρ ω s) (io : Is (C.Z Zo ω) s.heap o do') (hsl : s.heap.IsSliceOf sla vl vu .none) (pl : IsPart vl lo) (pu : IsPart vu hi)
    (h : SliceK ω do' lo hi K) {value : Expr} {lower upper : Option Expr} {p : Pos} : wpAny C.M C.A (subscriptTail value (.Slice lower upper none p) o (.ref sla)) (Gv (C.Z Zo ω) s K) NoE s := by
  cases io with
  | str =>
    rename_i x t
    obtain ⟨hlen, hK⟩ := h
    refine tail_any (typeIs_str _ _ _) F.slot_str_getitem.lookup ?_ rfl
    obtain ⟨ob, hob, hc, hd⟩ := hsl
    have gen : ∀ (l u : Option (Int × Tok)), vl = partValue l → vu = partValue u → l.map (·.1) = lo → u.map (·.1) = hi → wpAny C.M C.A (getItem (.str (mkS x) t) (.ref sla)) (Gv (C.Z Zo ω) s K) NoE s := by
      intro l u e1 e2 e3 e4
      refine wpAny_getItem_str_slice (l := l) (u := u) (st := none) ⟨ob, hob, hc, by rw [hd, e1, e2]; rfl⟩ rfl ?_
      unfold sliceMade slicePicked
      rw [e3, e4]
      have hx : (mkS x).length = x.length := by simp [Str.length]
      have hf : (Builtin.Str.strSliceIndices lo hi ((Option.map (·.1) (none : Option (Int × Tok))).getD 1) (mkS x).length).filterMap ((mkS x).cps[·]?) = sl x lo hi := by
        rw [hx]; simpa using strSlice_sl x lo hi
      have hin : ∀ j ∈ Builtin.Str.strSliceIndices lo hi 1 x.length, j < x.length := by
        have e : Builtin.Str.strSliceIndices lo hi 1 x.length = sliceRange ((lo.elim 0 (clipAt x.length) : Nat) : Int) ((hi.elim x.length (clipAt x.length) : Nat) : Int) 1 := by
          cases lo <;> cases hi <;> simp [Builtin.Str.strSliceIndices, clipAt_cast]
        rw [e, sliceRange_one]
        intro j hj
        obtain ⟨k, hk, rfl⟩ := List.mem_map.mp hj
        have := List.mem_range.mp hk
        have hcl : ∀ i, clipAt x.length i ≤ x.length := fun i => by have := clipAt_cast x.length i; omega
        have h1 : hi.elim x.length (clipAt x.length) ≤ x.length := by cases hi <;> simp [hcl]
        omega
      have hlenEq : (Builtin.Str.strSliceIndices lo hi 1 x.length).length = (sl x lo hi).length := by
        rw [← strSlice_sl]
        have : ∀ (js : List Nat), (∀ j ∈ js, j < x.length) → js.length = (js.filterMap (x[·]?)).length := by
          intro js
          induction js with
          | nil => intro _; rfl
          | cons j js ih => intro h; rw [List.filterMap_cons, List.getElem?_eq_getElem (h j (.head _))]; simp [ih fun k hk => h k (.tail _ hk)]
        exact this _ hin
      split
      · rename_i hc
        refine ⟨Kp.refl _, .str (sl x lo hi), ?_, hK⟩
        simp only [Option.map_none, Option.getD_none, beq_self_eq_true, Bool.true_and, beq_iff_eq] at hc
        rw [hx, hlenEq] at hc
        rw [sl_same hc]; exact .str
      · rw [hf]
        refine ⟨?_, Kp.tok _ _, .str (sl x lo hi), .str, hK⟩
        have := sl_length x lo hi
        simp only [Str.length, List.size_toArray]
        exact lim_le (by omega)
    cases pl with
    | none => cases pu with
      | none => exact gen none none rfl rfl rfl rfl
      | int i t => exact gen none (some (i, t)) rfl rfl rfl rfl
    | int i t => cases pu with
      | none => exact gen (some (i, t)) none rfl rfl rfl rfl
      | int j u => exact gen (some (i, t)) (some (j, u)) rfl rfl rfl rfl
  | list hz hl hi' => exact tail_any hl.typeIs slot_list_getitem.lookup (listSlice hl hi' hs.live hsl pl pu h.1 h.2) rfl
  | val =>
    cases o with
    | ref a =>
      obtain ⟨ds, hg, hlen, hK⟩ := h
      obtain ⟨vs, hl, hi'⟩ := hs.ownL _ (getO_mem hg)
      exact tail_any hl.typeIs slot_list_getitem.lookup (listSlice hl hi' hs.live hsl pl pu hlen hK) rfl
    | _ => exact h.elim
  | _ => exact h.elim

theorem pe_slice {value : Expr} {lower upper : Option Expr} {p q : Pos} (h : Pe C ρ ω value (fun o => Po C ρ ω lower (fun lo => Po C ρ ω upper (fun hi => SliceK ω o lo hi K)))) :
    Pe C ρ ω (.Subscript value (.Slice lower upper none q) p) K := .mk fun {Zo} s hs => by
  refine Subscript_ (wpAny_mono (h.run s hs) (fun o s₁ ⟨k1, x, i1, h1⟩ => wpAny_Slice (wpAny_mono (h1.run s₁ (hs.keeps k1)) (fun vl s₂ ⟨k2, lo, pl, h2⟩ => wpAny_mono (h2.run s₂ (hs.keeps (k1.trans k2))) (fun vu s₃ ⟨k3, hi, pu, h3⟩ => wpAny_evalPart_none ?_) fun _ _ e => e) fun _ _ e => e)) fun _ _ e => e)
  have k4 := Kp.push (Z := C.Z Zo ω) s₃ { cls := .type "slice", data := .fields #[vl, vu, .none] }
  have kk := ((k1.trans k2).trans k3).trans k4
  exact wpAny_mono (slice_doc (hs.keeps kk) (i1.keepsK ((k2.trans k3).trans k4)) ⟨_, Heap.get?_push_size _ rfl, rfl, rfl⟩ pl pu h3) (fun r s₅ ⟨k5, z, i5, h5⟩ => ⟨kk.trans k5, z, i5, h5⟩) fun _ _ e => e
end
end Mine
end

section
namespace Mine

structure Step (C : Cx) (Zo : Addr → Prop) (ω ω' : Own) (s s' : Shared) : Prop where
  same : ∃ h' tk, s' = { s with heap := h', toks := tk } ∧ s.toks ≤ tk
  keep : ∀ b o, ¬ C.Mu ω b → s.heap.get? b = some o → (¬ (Zo b ∧ DictD o) → s'.heap.get? b = some o) ∧ ∃ sl, s'.heap.get? b = some { o with slots := sl }
  live : ∀ b o, s.heap.get? b = some o → ∃ o', s'.heap.get? b = some o' ∧ (DictD o → DictD o')
  grow : ∀ a, a ∈ ω'.map (·.1) → a ∈ ω.map (·.1) ∨ s.heap.get? a = none

theorem keep_ex {Zo : Addr → Prop} {h : Heap} {b : Addr} {o : Obj} (e : h.get? b = some o) : (¬ (Zo b ∧ DictD o) → h.get? b = some o) ∧ ∃ sl, h.get? b = some { o with slots := sl } := ⟨fun _ => e, o.slots, e⟩
theorem Step.refl (C : Cx) (Zo : Addr → Prop) (ω : Own) (s : Shared) : Step C Zo ω ω s s := ⟨⟨_, _, rfl, Nat.le_refl _⟩, fun _ _ _ e => keep_ex e, fun _ o e => ⟨o, e, id⟩, fun _ h => .inl h⟩
theorem Step.mu {C : Cx} {Zo : Addr → Prop} {ω ω' : Own} {s s' : Shared} (x : Step C Zo ω ω' s s') {b : Addr} {o : Obj} (hb : ¬ C.Mu ω b) (e : s.heap.get? b = some o) : ¬ C.Mu ω' b := by
  rintro (h | h | h)
  · exact hb (.inl h)
  · exact hb (.inr (.inl h))
  · rcases x.grow b h with h | h
    · exact hb (.inr (.inr h))
    · rw [h] at e; cases e
theorem Step.trans {C : Cx} {Zo : Addr → Prop} {ω ω' ω'' : Own} {s s' s'' : Shared} (x : Step C Zo ω ω' s s') (y : Step C Zo ω' ω'' s' s'') : Step C Zo ω ω'' s s'' := by
  refine ⟨?_, fun b o hb e => ⟨fun q => (y.keep b o (x.mu hb e) ((x.keep b o hb e).1 q)).1 q, ?_⟩, fun b o e => ?_, fun a ha => ?_⟩
  · obtain ⟨h1, t1, rfl, l1⟩ := x.same
    obtain ⟨h2, t2, rfl, l2⟩ := y.same
    exact ⟨h2, t2, rfl, Nat.le_trans l1 l2⟩
  · obtain ⟨sl, e1⟩ := (x.keep b o hb e).2
    obtain ⟨sl', e2⟩ := (y.keep b _ (x.mu hb e) e1).2
    exact ⟨sl', e2⟩
  · obtain ⟨o', e', d1⟩ := x.live b o e
    obtain ⟨o'', e'', d2⟩ := y.live b o' e'
    exact ⟨o'', e'', fun q => d2 (d1 q)⟩
  · rcases y.grow a ha with h | h
    · exact x.grow a h
    · cases e : s.heap.get? a with
      | none => exact .inr rfl
      | some o =>
        obtain ⟨o', e', _⟩ := x.live a o e
        rw [h] at e'; cases e'
theorem Kp.step {C : Cx} {Zo : Addr → Prop} {ω : Own} {s s' : Shared} (x : Kp (C.Z Zo ω) s s') : Step C Zo ω ω s s' := by
  have hg := x.get
  obtain ⟨h', tk, rfl, k, l⟩ := x
  exact ⟨⟨h', tk, rfl, l⟩, fun b o hb e => ⟨fun q => (hg b o e).1 fun z => q ⟨z.1.elim id fun m => (hb m).elim, z.2⟩, (hg b o e).2⟩, fun b o e => let ⟨_, e'⟩ := (hg b o e).2; ⟨_, e', id⟩, fun _ h => .inl h⟩
theorem Step.frOk {C : Cx} {Zo Z : Addr → Prop} {ω ω' : Own} {s s' : Shared} (x : Step C Zo ω ω' s s') (f : FrOk C Z s.heap) : FrOk C Z s'.heap :=
  f.of fun b o hz e hd => let ⟨o', e', d⟩ := x.live b o e; ⟨hz, o', e', d hd⟩

inductive Fl where
  | next | brk | cont
  | ret (d : D)
def FlIs (Z : Addr → Prop) (h : Heap) : Flow → Fl → Prop
  | .next, .next => True
  | .brk, .brk => True
  | .cont, .cont => True
  | .ret v, .ret d => Is Z h v d
  | _, _ => False

def Out (C : Cx) (Zo : Addr → Prop) (ω : Own) (s : Shared) (K : Fl → Loc → Own → Prop) (f : Flow) (s' : Shared) : Prop :=
  ∃ fl ρ' ω', FlIs (C.Z Zo ω') s'.heap f fl ∧ Sta C Zo ρ' ω' s' ∧ Step C Zo ω ω' s s' ∧ K fl ρ' ω'
structure Ex (C : Cx) (ρ : Loc) (ω : Own) (st : Stmt) (K : Fl → Loc → Own → Prop) : Prop where
  run : ∀ {Zo : Addr → Prop} s, Sta C Zo ρ ω s → wpAny C.M C.A (exec st C.env) (Out C Zo ω s K) NoE s
structure Exs (C : Cx) (ρ : Loc) (ω : Own) (sts : List Stmt) (K : Fl → Loc → Own → Prop) : Prop where
  run : ∀ {Zo : Addr → Prop} s, Sta C Zo ρ ω s → wpAny C.M C.A (execs sts C.env) (Out C Zo ω s K) NoE s

theorem Out.after {C : Cx} {Zo : Addr → Prop} {ω ω₁ : Own} {s s₁ : Shared} {K : Fl → Loc → Own → Prop} {f : Flow} {s' : Shared} (st : Step C Zo ω ω₁ s s₁) (x : Out C Zo ω₁ s₁ K f s') : Out C Zo ω s K f s' :=
  let ⟨fl, ρ', ω', a, b, c, d⟩ := x; ⟨fl, ρ', ω', a, b, st.trans c, d⟩

section
variable {C : Cx} {Zo : Addr → Prop} {ρ : Loc} {ω : Own} {l : Nat} {K : Fl → Loc → Own → Prop}

theorem exs_nil (h : K .next ρ ω) : Exs C ρ ω [] K := .mk fun s hs => wpAny_execs_nil ⟨.next, ρ, ω, trivial, hs, Step.refl _ _ _ _, h⟩
theorem exs_cons {st : Stmt} {rest : List Stmt} (h : Ex C ρ ω st (fun fl ρ' ω' => match fl with | .next => Exs C ρ' ω' rest K | fl => K fl ρ' ω')) : Exs C ρ ω (st :: rest) K := .mk fun s hs => by
  refine wpAny_execs_cons (wpAny_mono (h.run s hs) (fun f s' x => ?_) fun _ _ e => e)
  obtain ⟨fl, ρ', ω', hf, hs', hst, hk⟩ := x
  cases fl with
  | next => cases f with
    | next => exact wpAny_mono (hk.run s' hs') (fun _ _ o => o.after hst) fun _ _ e => e
    | _ => exact hf.elim
  | brk => cases f with
    | brk => exact ⟨.brk, ρ', ω', hf, hs', hst, hk⟩
    | _ => exact hf.elim
  | cont => cases f with
    | cont => exact ⟨.cont, ρ', ω', hf, hs', hst, hk⟩
    | _ => exact hf.elim
  | ret d => cases f with
    | ret v => exact ⟨.ret d, ρ', ω', hf, hs', hst, hk⟩
    | _ => exact hf.elim

theorem mu_locals : C.Z Zo ω C.env.locals := .inr (.inl rfl)
theorem mu_cell {x : Str} {c : Addr} (h : C.env.cells.lookup x = some c) : C.Z Zo ω c := .inr (.inr (.inl ⟨x, h⟩))
theorem mu_own {a : Addr} (h : a ∈ ω.map (·.1)) : C.Z Zo ω a := .inr (.inr (.inr h))

theorem own_not_cell {s : Shared} (hs : Sta C Zo ρ ω s) {p : Addr × List D} (hp : p ∈ ω) {x : Str} {c : Addr} (hc : C.env.cells.lookup x = some c) : p.1 ≠ c := by
  obtain ⟨vs, ⟨o, ho, _, n, hd⟩, _⟩ := hs.ownL p hp
  obtain ⟨v, o', ho', hd'⟩ := hs.cells x c hc
  intro e
  rw [e, ho'] at ho
  cases ho
  rw [hd'] at hd; cases hd
theorem own_not_loc {s : Shared} (hs : Sta C Zo ρ ω s) {p : Addr × List D} (hp : p ∈ ω) : p.1 ≠ C.env.locals := by
  obtain ⟨vs, ⟨o, ho, _, n, hd⟩, _⟩ := hs.ownL p hp
  obtain ⟨m, ⟨o', es, ep, ho', hd', _⟩, _⟩ := hs.ns
  intro e
  rw [e, ho'] at ho
  cases ho
  rw [hd'] at hd; cases hd
theorem cell_not_loc {s : Shared} (hs : Sta C Zo ρ ω s) {x : Str} {c : Addr} (hc : C.env.cells.lookup x = some c) : c ≠ C.env.locals := by
  obtain ⟨v, o, ho, hd⟩ := hs.cells x c hc
  obtain ⟨m, ⟨o', es, ep, ho', hd', _⟩, _⟩ := hs.ns
  intro e
  rw [e, ho'] at ho
  cases ho
  rw [hd'] at hd; cases hd

theorem store_doc {x : Str} {v : Value} {d : D} {s : Shared} (ok : C.Ok l) (hs : Sta C Zo ρ ω s) (iv : Is (C.Z Zo ω) s.heap v d) (hk : C.env.kindOf x = some .local ∨ (C.env.kindOf x = some .cell ∧ (C.env.cells.lookup x).isSome = true)) :
    wpAny C.M C.A (storeName C.env x v) (fun _ s' => Sta C Zo (put ρ x d) ω s' ∧ Step C Zo ω ω s s') NoE s := by
  rcases hk with hk | ⟨hk, hc⟩
  · obtain ⟨m, hn, hm⟩ := hs.ns
    refine wpAny_storeName_local hk hn (fun h' hn' hs' => ?_) (by rw [ok.kind]; rfl)
    have mv : ∀ b o, ¬ C.Z Zo ω b → s.heap.get? b = some o → ¬ C.Z Zo ω b ∧ h'.get? b = some o := fun b o hz e => ⟨hz, (hs'.2 b fun q => hz (q ▸ mu_locals)).trans e⟩
    refine ⟨⟨fun b o e => ?_, hs.new, ⟨_, hn', fun y dy hy hl => ?_⟩, fun y dy hy hl => ?_, fun y c hy => ?_, hs.inj, fun p hp => ?_, hs.nodup, hs.apart, fun a ha => ?_, Nat.succ_pos _, hs.fr.of fun b o hz e hd => ⟨hz, ?_⟩⟩, ⟨⟨h', _, rfl, Nat.le_succ _⟩, fun b o hb e => keep_ex ?_, fun b o e => ?_, fun _ h => .inl h⟩⟩
    · refine (hs'.2 b fun q => ?_).trans (hs.base b o e)
      have := hs.new b (q ▸ mu_locals); rw [this] at e; cases e
    · rw [get_put] at hy
      by_cases hyx : y = x
      · rw [if_pos hyx] at hy; cases hy; exact ⟨v, by simp [hyx], iv.move mv⟩
      · rw [if_neg hyx] at hy
        obtain ⟨u, h1, h2⟩ := hm y dy hy hl
        exact ⟨u, by simp [hyx, h1], h2.move mv⟩
    · have hyx : y ≠ x := by rintro rfl; rw [hk] at hl; rcases hl with h | h <;> cases h
      rw [get_put, if_neg hyx] at hy
      obtain ⟨c, u, h1, ⟨o, h2, h2'⟩, h3⟩ := hs.cell y dy hy hl
      exact ⟨c, u, h1, ⟨o, (hs'.2 c (cell_not_loc hs h1)).trans h2, h2'⟩, h3.move mv⟩
    · obtain ⟨u, o, h2, h2'⟩ := hs.cells y c hy
      exact ⟨u, o, (hs'.2 c (cell_not_loc hs hy)).trans h2, h2'⟩
    · obtain ⟨vs, h1, h2⟩ := hs.own p hp
      exact ⟨vs, h1.at fun o e => (hs'.2 _ (own_not_loc hs hp)).trans e, h2.move mv⟩
    · obtain ⟨o, ho⟩ := hs.zo a ha
      by_cases q : a = C.env.locals
      · obtain ⟨o', _, _, ho', _⟩ := hn'; exact ⟨o', q ▸ ho'⟩
      · exact ⟨o, (hs'.2 a q).trans ho⟩
    · by_cases q : b = C.env.locals
      · obtain ⟨o', es, ep, ho', hd', _⟩ := hn'; exact ⟨o', q ▸ ho', es, ep, hd'⟩
      · exact ⟨o, (hs'.2 b q).trans e, hd⟩
    · exact (hs'.2 b fun q => hb (.inl q)).trans e
    · by_cases q : b = C.env.locals
      · obtain ⟨o', es, ep, ho', hd', _⟩ := hn'; exact ⟨o', q ▸ ho', fun _ => ⟨es, ep, hd'⟩⟩
      · exact ⟨o, (hs'.2 b q).trans e, id⟩
  · obtain ⟨c, hc⟩ := Option.isSome_iff_exists.mp hc
    obtain ⟨v₀, hv₀⟩ := hs.cells x c hc
    refine wpAny_storeName_cell ok.kind hk hc hv₀ fun h' hc' hs' => ?_
    have mv : ∀ b o, ¬ C.Z Zo ω b → s.heap.get? b = some o → ¬ C.Z Zo ω b ∧ h'.get? b = some o := fun b o hz e => ⟨hz, (hs'.2 b fun q => hz (q ▸ mu_cell hc)).trans e⟩
    refine ⟨⟨fun b o e => ?_, hs.new, ?_, fun y dy hy hl => ?_, fun y c' hy => ?_, hs.inj, fun p hp => ?_, hs.nodup, hs.apart, fun a ha => ?_, hs.tok, hs.fr.of fun b o hz e hd => ⟨hz, o, (hs'.2 b fun q => ?_).trans e, hd⟩⟩, ⟨⟨h', _, rfl, Nat.le_refl _⟩, fun b o hb e => keep_ex ?_, fun b o e => ?_, fun _ h => .inl h⟩⟩
    · refine (hs'.2 b fun q => ?_).trans (hs.base b o e)
      have := hs.new b (q ▸ mu_cell hc); rw [this] at e; cases e
    · obtain ⟨m, hn, hm⟩ := hs.ns
      refine ⟨m, hn.sameBut hs' (Ne.symm (cell_not_loc hs hc)), fun y dy hy hl => ?_⟩
      have hyx : y ≠ x := by rintro rfl; rw [hk] at hl; cases hl
      rw [get_put, if_neg hyx] at hy
      obtain ⟨u, h1, h2⟩ := hm y dy hy hl
      exact ⟨u, h1, h2.move mv⟩
    · rw [get_put] at hy
      by_cases hyx : y = x
      · rw [if_pos hyx] at hy; cases hy; subst hyx; exact ⟨c, v, hc, hc', iv.move mv⟩
      · rw [if_neg hyx] at hy
        obtain ⟨c', u, h1, h2, h3⟩ := hs.cell y dy hy hl
        have hne : c' ≠ c := by rintro rfl; exact hyx (hs.inj _ _ _ h1 hc)
        exact ⟨c', u, h1, h2.sameBut hs' hne, h3.move mv⟩
    · by_cases q : c' = c
      · subst q; exact ⟨_, hc'⟩
      · obtain ⟨u, h2⟩ := hs.cells y c' hy
        exact ⟨u, h2.sameBut hs' q⟩
    · obtain ⟨vs, h1, h2⟩ := hs.own p hp
      exact ⟨vs, h1.at fun o e => (hs'.2 _ (own_not_cell hs hp hc)).trans e, h2.move mv⟩
    · obtain ⟨o, ho⟩ := hs.zo a ha
      by_cases q : a = c
      · obtain ⟨o', ho', _⟩ := hc'; exact ⟨o', q ▸ ho'⟩
      · exact ⟨o, (hs'.2 a q).trans ho⟩
    · obtain ⟨oc, hoc, hdc⟩ := hv₀
      subst q
      rw [hoc] at e; cases e
      obtain ⟨es, ep, hd⟩ := hd
      rw [hdc] at hd; cases hd
    · exact (hs'.2 b fun q => hb (.inr (.inl ⟨x, q ▸ hc⟩))).trans e
    · by_cases q : b = c
      · obtain ⟨o', ho', _⟩ := hc'
        refine ⟨o', q ▸ ho', fun hd => ?_⟩
        obtain ⟨oc, hoc, hdc⟩ := hv₀
        subst q
        rw [hoc] at e; cases e
        obtain ⟨es, ep, hd⟩ := hd
        rw [hdc] at hd; cases hd
      · exact ⟨o, (hs'.2 b q).trans e, id⟩

abbrev Stor (C : Cx) (x : Str) : Prop := C.env.kindOf x = some .local ∨ (C.env.kindOf x = some .cell ∧ (C.env.cells.lookup x).isSome = true)

theorem ex_assign {x : Str} {px pos : Pos} {value : Expr} (ok : C.Ok l) (hk : Stor C x) (h : Pe C ρ ω value (fun d => K .next (put ρ x d) ω))
    (hsw : swapsWith value (some (.Name x px)) pos.line C.env = pure false) : Ex C ρ ω (.Assign [.Name x px] value pos) K := .mk fun s hs =>
  wpAny_Assign_Name (wpAny_mono (h.run s hs) (fun v s₁ ⟨k1, d, i1, h1⟩ => wpAny_mono (store_doc ok (hs.keeps k1) i1 hk) (fun _ s₂ ⟨hs2, st⟩ =>
    ⟨.next, _, _, trivial, hs2, (k1.step).trans st, h1⟩) fun _ _ e => e) fun _ _ e => e) hsw

theorem load_doc {x : Str} {d : D} {s : Shared} (ok : C.Ok l) (hs : Sta C Zo ρ ω s) (hx : get ρ x = some d) (hk : Stor C x) {Q : Value → Shared → Prop} {E : Value → Shared → Prop} (h : ∀ v, Is (C.Z Zo ω) s.heap v d → Q v s) :
    wpAny C.M C.A (loadName C.env x) Q E s := by
  rcases hk with hk | ⟨hk, _⟩
  · obtain ⟨m, hn, hm⟩ := hs.ns
    obtain ⟨v, h1, h2⟩ := hm x d hx hk
    exact wpAny_loadName_local ok.kind hk hn h1 (h v h2)
  · obtain ⟨c, v, h1, h2, h3⟩ := hs.cell x d hx (.inl hk)
    exact wpAny_loadName_cell ok.kind hk h1 h2 (h v h3)

theorem ex_aug {x : Str} {px pos : Pos} {op : Operator} {value : Expr} {a : D} (ok : C.Ok l) (hk : Stor C x) (hx : get ρ x = some a) (h : Pe C ρ ω value (fun b => Do2 C (inplaceOp op) a b (fun d => K .next (put ρ x d) ω))) :
    Ex C ρ ω (.AugAssign (.Name x px) op value pos) K := .mk fun s hs =>
  wpAny_AugAssign_Name (load_doc ok hs hx hk fun v iv => wpAny_mono (h.run s hs) (fun w s₁ ⟨k1, d, i1, h1⟩ => wpAny_mono (h1.run s₁ v w (hs.keeps k1).und (iv.keepsK k1) i1) (fun r s₂ ⟨k2, d2, i2, h2⟩ =>
    wpAny_mono (store_doc ok (hs.keeps (k1.trans k2)) i2 hk) (fun _ s₃ ⟨hs3, st⟩ => ⟨.next, _, _, trivial, hs3, ((k1.trans k2).step).trans st, h2⟩) fun _ _ e => e) fun _ _ e => e) fun _ _ e => e)

theorem ex_if {t : Expr} {a b : List Stmt} {pos : Pos} (h : Pt C ρ ω t (fun c => if c then Exs C ρ ω a K else Exs C ρ ω b K)) : Ex C ρ ω (.If t a b pos) K := .mk fun s hs =>
  wpAny_If (wpAny_mono (h.run s hs) (fun c s₁ ⟨k1, h1⟩ => by
    cases c with
    | true => exact wpAny_mono (h1.run s₁ (hs.keeps k1)) (fun _ _ o => o.after k1.step) fun _ _ e => e
    | false => exact wpAny_mono (h1.run s₁ (hs.keeps k1)) (fun _ _ o => o.after k1.step) fun _ _ e => e) fun _ _ e => e)
theorem ex_ret {e : Expr} {pos : Pos} (h : Pe C ρ ω e (fun d => K (.ret d) ρ ω)) : Ex C ρ ω (.Return (some e) pos) K := .mk fun s hs =>
  wpAny_Return_some (wpAny_mono (h.run s hs) (fun v s₁ ⟨k1, d, i1, h1⟩ => ⟨.ret d, ρ, ω, i1, hs.keeps k1, k1.step, h1⟩) fun _ _ e => e)
theorem ex_cont {pos : Pos} (h : K .cont ρ ω) : Ex C ρ ω (.Continue pos) K := .mk fun s hs => wpAny_Continue ⟨.cont, ρ, ω, trivial, hs, Step.refl _ _ _ _, h⟩
/-- a while: a word over the state, a measure -/
theorem ex_while {t : Expr} {body : List Stmt} {pos : Pos} (I : Nat → Loc → Own → Prop) (n : Nat) (h0 : I n ρ ω)
    (turn : ∀ n ρ' ω', I n ρ' ω' → Pt C ρ' ω' t (fun b => if b then Exs C ρ' ω' body (fun fl ρ'' ω'' => match fl with
      | .next => ∃ m, m < n ∧ I m ρ'' ω''
      | .cont => ∃ m, m < n ∧ I m ρ'' ω''
      | .brk => K .next ρ'' ω''
      | .ret d => K (.ret d) ρ'' ω'') else K .next ρ' ω')) : Ex C ρ ω (.While t body [] pos) K := .mk fun {Zo} s hs => by
  refine wpAny_While (codeAny_whileLoop (fun n s' => ∃ ρ' ω', Sta C Zo ρ' ω' s' ∧ Step C Zo ω ω' s s' ∧ I n ρ' ω') (fun n s' hI => ?_) n ⟨ρ, ω, hs, Step.refl _ _ _ _, h0⟩)
  obtain ⟨ρ', ω', hs', st, hI⟩ := hI
  refine wpAny_mono ((turn n ρ' ω' hI).run s' hs') (fun b s₂ ⟨k2, h2⟩ => ?_) fun _ _ e => e.elim
  have st2 := st.trans (k2.step (C := C) (ω := ω'))
  cases b with
  | true =>
    simp only [if_true] at h2 ⊢
    refine wpAny_mono (h2.run s₂ (hs'.keeps k2)) (fun f s₃ o => ?_) fun _ _ e => e.elim
    obtain ⟨fl, ρ3, ω3, hf, hs3, st3, hk⟩ := o
    cases fl with
    | next => cases f with
      | next => obtain ⟨m, hm, hI'⟩ := hk; exact ⟨m, hm, ρ3, ω3, hs3, st2.trans st3, hI'⟩
      | _ => exact hf.elim
    | cont => cases f with
      | cont => obtain ⟨m, hm, hI'⟩ := hk; exact ⟨m, hm, ρ3, ω3, hs3, st2.trans st3, hI'⟩
      | _ => exact hf.elim
    | brk => cases f with
      | brk => exact ⟨.next, ρ3, ω3, trivial, hs3, st2.trans st3, hk⟩
      | _ => exact hf.elim
    | ret d => cases f with
      | ret v => exact ⟨.ret d, ρ3, ω3, hf, hs3, st2.trans st3, hk⟩
      | _ => exact hf.elim
  | false =>
    simp only [Bool.false_eq_true, if_false] at h2 ⊢
    exact wpAny_execs_nil ⟨.next, ρ', ω', trivial, hs'.keeps k2, st2, h2⟩
end
end Mine
end

section
namespace Mine

def rngL (a b c : Int) : List D := (List.range (Builtin.Range.rangeSize a b c).toNat).map fun i => .int (a + (i : Nat) * c)

/-- what a datum iterates as (q: a list that is the frame's own too) -/
def IterK (q : Bool) (ω : Own) : D → Option (List D)
  | .list ds => some ds
  | .tup ds => some ds
  | .str x => some (x.map fun c => .str [c])
  | .rng a b c => if Builtin.Range.small a b c = true then some (rngL a b c) else none
  | .val (.ref a) => if q then getO ω a else none
  | _ => none

def ItrAt (q : Bool) (C : Cx) (Z : Addr → Prop) (its : List D) (s s₂ : Shared) (I : Addr) : Prop :=
  ∃ fp P St, Walks C.prog C.w C.A I fp [I] its.length P St ∧ St 0 s₂.heap ∧ (∀ i h, St i h → ∃ o, h.get? I = some o ∧ ¬ DictD o) ∧ (q = false → ∀ b ∈ fp, b ≠ I → ¬ Z b) ∧ (∀ b ∈ fp, b ≠ I → ∃ o, s.heap.get? b = some o ∧ ¬ DictD o) ∧
    ∀ i v, i < its.length → P i v → ∃ d, its[i]? = some d ∧ Is Z s.heap v d

theorem size_none (h : Heap) : h.get? h.objs.size = none := by
  cases e : h.get? h.objs.size with
  | none => rfl
  | some o => exact absurd (Heap.lt_size e) (Nat.lt_irrefl _)

theorem iter_doc (q : Bool) {C : Cx} {l : Nat} {Zo : Addr → Prop} {ρ : Loc} {ω : Own} {s : Shared} {v : Value} {d : D} {its : List D} (ok : C.Ok l) (hs : Sta C Zo ρ ω s) (iv : Is (C.Z Zo ω) s.heap v d) (h : IterK q ω d = some its) :
    wpAny C.M C.A (pyIter v) (fun it s₂ => Kp (C.Z Zo ω) s s₂ ∧ ∃ I, it = .ref I ∧ s.heap.get? I = none ∧ ItrAt q C (C.Z Zo ω) its s s₂ I) NoE s := by
  have hh := ok.room.hd
  have hlist : ∀ (a : Addr) (vs : List Value) (ds : List D), (q = false → ¬ C.Z Zo ω a) → s.heap.IsList a vs.toArray → IsAll (C.Z Zo ω) s.heap vs ds → wpAny C.M C.A (pyIter (.ref a)) (fun it s₂ => Kp (C.Z Zo ω) s s₂ ∧ ∃ I, it = .ref I ∧ s.heap.get? I = none ∧ ItrAt q C (C.Z Zo ω) ds s s₂ I) NoE s := by
    intro a vs ds hz hl hi
    refine wpAny_pyIter_list hl ?_
    obtain ⟨ol, hol, _, _, hdl⟩ := id hl
    have hne : a ≠ s.heap.objs.size := Nat.ne_of_lt (Heap.lt_size hol)
    have W := Walks.list (prog := C.prog) (w := C.w) hh s.heap.objs.size a hne vs.toArray
    have hlen : vs.toArray.size = ds.length := by simp [hi.length]
    rw [hlen] at W
    refine ⟨Kp.push _ _, _, rfl, size_none _, _, _, _, W, ⟨⟨_, Heap.get?_push_size _ rfl, rfl, rfl⟩, hl.at fun o e => Heap.get?_push_of_some _ e⟩, ?_, ?_, ?_, ?_⟩
    · rintro i h ⟨⟨o, ho, _, hd⟩, _⟩; exact ⟨o, ho, fun ⟨es, ep, q⟩ => by rw [hd] at q; cases q⟩
    · intro hq b hb hbI
      rcases List.mem_cons.mp hb with e | hb
      · exact absurd e hbI
      · rw [List.mem_singleton.mp hb]; exact hz hq
    · intro b hb hbI
      rcases List.mem_cons.mp hb with e | hb
      · exact absurd e hbI
      · rw [List.mem_singleton.mp hb]; exact ⟨ol, hol, fun ⟨es, ep, q⟩ => by rw [hdl] at q; cases q⟩
    · intro i v hi' hP
      have hP' : vs[i]? = some v := by simpa using hP
      exact hi.get' hP'
  cases iv with
  | list hz hl hi => cases h; exact hlist _ _ _ (fun _ => hz) hl hi
  | tup hz hl hi =>
    cases h
    rename_i a vs
    refine wpAny_pyIter_tuple hl ?_
    obtain ⟨ol, hol, _, _, hdl⟩ := id hl
    have hne : a ≠ s.heap.objs.size := Nat.ne_of_lt (Heap.lt_size hol)
    have W := Walks.tuple (prog := C.prog) (w := C.w) hh s.heap.objs.size a hne vs.toArray
    have hlen : vs.toArray.size = its.length := by simp [hi.length]
    rw [hlen] at W
    refine ⟨Kp.push _ _, _, rfl, size_none _, _, _, _, W, ⟨⟨_, Heap.get?_push_size _ rfl, rfl, rfl⟩, tup_at hl fun o e => Heap.get?_push_of_some _ e⟩, ?_, ?_, ?_, ?_⟩
    · rintro i h ⟨⟨o, ho, _, hd⟩, _⟩; exact ⟨o, ho, fun ⟨es, ep, q⟩ => by rw [hd] at q; cases q⟩
    · intro _ b hb hbI
      rcases List.mem_cons.mp hb with e | hb
      · exact absurd e hbI
      · rw [List.mem_singleton.mp hb]; exact hz
    · intro b hb hbI
      rcases List.mem_cons.mp hb with e | hb
      · exact absurd e hbI
      · rw [List.mem_singleton.mp hb]; exact ⟨ol, hol, fun ⟨es, ep, q⟩ => by rw [hdl] at q; cases q⟩
    · intro i v hi' hP
      have hP' : vs[i]? = some v := by simpa using hP
      exact hi.get' hP'
  | str =>
    rename_i x t
    cases h
    refine wpAny_pyIter_strU ?_
    have gen : ∀ (T : String), Walks C.prog C.w C.A s.heap.objs.size [s.heap.objs.size] [s.heap.objs.size] (mkS x).cps.size (SignAt (mkS x)) (fun i h => h.IsStrIter s.heap.objs.size T (mkS x) t i) → strIterType (mkS x) = T →
        (Kp (C.Z Zo ω) s { s with heap := s.heap.push { cls := .type (strIterType (mkS x)), data := .fields #[.str (mkS x) t, .int 0 0] } } ∧ ∃ I, (Value.ref s.heap.objs.size) = .ref I ∧ s.heap.get? I = none ∧ ItrAt q C (C.Z Zo ω) (x.map fun c => .str [c]) s { s with heap := s.heap.push { cls := .type (strIterType (mkS x)), data := .fields #[.str (mkS x) t, .int 0 0] } } I) := by
      intro T W hT
      have hlen : (mkS x).cps.size = (x.map fun c => D.str [c]).length := by simp
      rw [hlen] at W
      refine ⟨Kp.push _ _, _, rfl, size_none _, _, _, _, W, ⟨_, Heap.get?_push_size _ rfl, by rw [hT], rfl⟩, ?_, ?_, ?_, ?_⟩
      · rintro i h ⟨o, ho, _, hd⟩; exact ⟨o, ho, fun ⟨es, ep, q⟩ => by rw [hd] at q; cases q⟩
      · intro _ b hb hbI; exact absurd (List.mem_singleton.mp hb) hbI
      · intro b hb hbI; exact absurd (List.mem_singleton.mp hb) hbI
      · rintro i v hi' ⟨c, u, hc, rfl⟩
        have hc' : x[i]? = some c := by simpa using hc
        exact ⟨.str [c], by simp [hc'], .str⟩
    by_cases ha : strIterType (mkS x) = "str_ascii_iterator"
    · exact gen _ (Walks.strAscii hh _ _ _) ha
    · refine gen _ (Walks.strWide hh _ _ _) ?_
      unfold strIterType at ha ⊢
      split at ha
      · exact absurd rfl ha
      · rename_i hn; rw [if_neg hn]
  | rng hz hr =>
    rename_i r a b c t u w
    simp only [IterK] at h
    split at h
    · rename_i hsm
      cases h
      refine wpAny_pyIter_range hr hsm ?_
      have hpos : 0 ≤ Builtin.Range.rangeSize a b c := by
        unfold Builtin.Range.rangeSize
        split
        · split
          · have := Int.ediv_nonneg (a := b - a - 1) (b := c) (by omega) (by omega); omega
          · omega
        · split
          · have := Int.ediv_nonneg (a := a - b - 1) (b := -c) (by omega) (by omega); omega
          · omega
      have hn : ((Builtin.Range.rangeSize a b c).toNat : Int) = Builtin.Range.rangeSize a b c := Int.toNat_of_nonneg hpos
      have W := (Walks.range (prog := C.prog) (w := C.w) hh s.heap.objs.size a c (Builtin.Range.rangeSize a b c).toNat)
      have hlen : (Builtin.Range.rangeSize a b c).toNat = (rngL a b c).length := by simp [rngL]
      rw [hlen] at W
      refine ⟨Kp.push _ _, _, rfl, size_none _, _, _, _, W, ?_, ?_, ?_, ?_, ?_⟩
      · rw [← hlen]; simp only [hn]; simpa using Heap.get?_push_size _ rfl
      · intro i h hq; exact ⟨_, hq, fun ⟨es, ep, q⟩ => by cases q⟩
      · intro _ b hb hbI; exact absurd (List.mem_singleton.mp hb) hbI
      · intro b hb hbI; exact absurd (List.mem_singleton.mp hb) hbI
      · rintro i v hi' ⟨t', rfl⟩
        refine ⟨.int (a + (i : Nat) * c), ?_, .int⟩
        rw [← hlen] at hi'
        simp [rngL, hi']
    · cases h
  | val =>
    cases v with
    | ref a =>
      cases q with
      | true =>
        obtain ⟨vs, hl, hi⟩ := hs.ownL _ (getO_mem h)
        exact hlist _ _ _ (fun e => nomatch e) hl hi
      | false => cases h
    | _ => cases h
  | _ => cases h

section
variable {C : Cx} {Zo : Addr → Prop} {ρ : Loc} {ω : Own} {l : Nat} {K : Fl → Loc → Own → Prop}

def FrNe (C : Cx) (I : Addr) : Prop := ∀ l, C.A.frames = some l → ∀ e ∈ l, e.frame ≠ some I
theorem FrOk.ne {Z : Addr → Prop} {h : Heap} {I : Addr} (x : FrOk C Z h) (hI : h.get? I = none) : FrNe C I := fun l hl e he q => by
  obtain ⟨l', hl', f⟩ := x
  rw [hl'] at hl; cases hl
  obtain ⟨_, L, o, h1, _, h2, _⟩ := f e he
  rw [h1] at q; cases q
  rw [hI] at h2; cases h2
theorem FrOk.turn {Z Z' : Addr → Prop} {h h' : Heap} {I : Addr} (x : FrOk C Z h) (n : FrNe C I) (k : ∀ b o, b ≠ I → Z b → h.get? b = some o → DictD o → Z' b ∧ ∃ o', h'.get? b = some o' ∧ DictD o') : FrOk C Z' h' := by
  obtain ⟨l, hl, f⟩ := x
  refine ⟨l, hl, fun e he => ?_⟩
  obtain ⟨h1, L, o, h2, h3, h4, h5⟩ := f e he
  obtain ⟨z, o', h6, h7⟩ := k L o (fun q => n l hl e he (q ▸ h2)) h3 h4 h5
  exact ⟨h1, L, o', h2, z, h6, h7⟩
theorem Step.zone {Zo Zo' : Addr → Prop} {ω ω' : Own} {s s' : Shared} (x : Step C Zo ω ω' s s') (hz : ∀ b o, s.heap.get? b = some o → Zo b → Zo' b) : Step C Zo' ω ω' s s' :=
  ⟨x.same, fun b o hb e => ⟨fun q => (x.keep b o hb e).1 fun z => q ⟨hz b o e z.1, z.2⟩, (x.keep b o hb e).2⟩, x.live, x.grow⟩
/-- the state with one address more in the outer zone -/
theorem Sta.guard {s s₂ : Shared} {I : Addr} (hs : Sta C Zo ρ ω s) (hI : s.heap.get? I = none) (k : Kp (C.Z Zo ω) s s₂) (hI2 : ∃ o, s₂.heap.get? I = some o) : Sta C (fun a => Zo a ∨ a = I) ρ ω s₂ := by
  have hk := k.get
  have mv : ∀ b o, ¬ C.Z Zo ω b → s.heap.get? b = some o → ¬ C.Z (fun a => Zo a ∨ a = I) ω b ∧ s₂.heap.get? b = some o := fun b o hz e => by
    refine ⟨?_, hk.out hz e⟩
    rintro ((h | h) | h)
    · exact hz (.inl h)
    · rw [h, hI] at e; cases e
    · exact hz (.inr h)
  refine ⟨(hs.keeps k).base, ?_, ?_, ?_, ?_, hs.inj, ?_, hs.nodup, (fun a ha h => h.elim (hs.apart a ha) fun e => by subst e; obtain ⟨p, hp, e2⟩ := List.mem_map.mp ha; obtain ⟨vs, ⟨o, ho, _⟩, _⟩ := hs.ownL p hp; rw [e2, hI] at ho; cases ho), ?_, Nat.lt_of_lt_of_le hs.tok k.toks, (hs.keeps k).fr.of fun b o hz e hd => ⟨hz.elim (fun q => .inl (.inl q)) .inr, o, e, hd⟩⟩
  · rintro a ((h | h) | h)
    · exact hs.new a (.inl h)
    · cases e : C.h₀.get? a with
      | none => rfl
      | some o => have := hs.base a o e; rw [h, hI] at this; cases this
    · exact hs.new a (.inr h)
  · obtain ⟨m, hn, hm⟩ := hs.ns
    exact ⟨m, hk.ns hn, fun y d hy hl => let ⟨v, h1, h2⟩ := hm y d hy hl; ⟨v, h1, h2.move mv⟩⟩
  · intro y d hy hl
    obtain ⟨c, v, h1, ⟨o, h2, h2'⟩, h3⟩ := hs.cell y d hy hl
    exact ⟨c, v, h1, ⟨o, hk.nd (fun ⟨es, ep, q⟩ => by rw [h2'] at q; cases q) h2, h2'⟩, h3.move mv⟩
  · intro y c hy
    obtain ⟨v, o, h2, h2'⟩ := hs.cells y c hy
    exact ⟨v, o, hk.nd (fun ⟨es, ep, q⟩ => by rw [h2'] at q; cases q) h2, h2'⟩
  · intro p hp
    obtain ⟨vs, h1, h2⟩ := hs.own p hp
    exact ⟨vs, hk.plain h1, h2.move mv⟩
  · rintro a (h | h)
    · exact (hs.keeps k).zo a h
    · rw [h]; exact hI2
/-- the guarded address alone may change -/
theorem Sta.turn {s s₂ : Shared} {I : Addr} (hs : Sta C (fun a => Zo a ∨ a = I) ρ ω s) (hI : ¬ C.Mu ω I) (hk : ∀ b o, b ≠ I → s.heap.get? b = some o → s₂.heap.get? b = some o) (hI2 : ∃ o, s₂.heap.get? I = some o) (htk : s.toks ≤ s₂.toks) (hF : FrNe C I) : Sta C (fun a => Zo a ∨ a = I) ρ ω s₂ := by
  have mv : ∀ b o, ¬ C.Z (fun a => Zo a ∨ a = I) ω b → s.heap.get? b = some o → ¬ C.Z (fun a => Zo a ∨ a = I) ω b ∧ s₂.heap.get? b = some o := fun b o hz e =>
    ⟨hz, hk b o (fun q => hz (.inl (.inr q))) e⟩
  refine ⟨fun b o e => ?_, hs.new, ?_, ?_, ?_, hs.inj, ?_, hs.nodup, hs.apart, ?_, Nat.lt_of_lt_of_le hs.tok htk, hs.fr.turn hF fun b o hb hz e hd => ⟨hz, o, hk b o hb e, hd⟩⟩
  · refine hk b o (fun q => ?_) (hs.base b o e)
    have := hs.new b (.inl (.inr q)); rw [this] at e; cases e
  · obtain ⟨m, hn, hm⟩ := hs.ns
    exact ⟨m, hn.at' fun o e => hk _ _ (fun q => hI (.inl q.symm)) e, fun y d hy hl => let ⟨v, h1, h2⟩ := hm y d hy hl; ⟨v, h1, h2.move mv⟩⟩
  · intro y d hy hl
    obtain ⟨c, v, h1, ⟨o, h2, h2'⟩, h3⟩ := hs.cell y d hy hl
    exact ⟨c, v, h1, ⟨o, hk _ _ (fun q => hI (.inr (.inl ⟨y, q ▸ h1⟩))) h2, h2'⟩, h3.move mv⟩
  · intro y c hy
    obtain ⟨v, o, h2, h2'⟩ := hs.cells y c hy
    exact ⟨v, o, hk _ _ (fun q => hI (.inr (.inl ⟨y, q ▸ hy⟩))) h2, h2'⟩
  · intro p hp
    obtain ⟨vs, h1, h2⟩ := hs.own p hp
    exact ⟨vs, h1.at fun o e => hk _ _ (fun q => hI (.inr (.inr (q ▸ List.mem_map.mpr ⟨p, hp, rfl⟩)))) e, h2.move mv⟩
  · rintro a (h | h)
    · obtain ⟨o, ho⟩ := hs.zo a (.inl h)
      by_cases q : a = I
      · rw [q]; exact hI2
      · exact ⟨o, hk _ _ q ho⟩
    · rw [h]; exact hI2
theorem Sta.unguard {s : Shared} {Zo Zo' : Addr → Prop} (hs : Sta C Zo' ρ ω s) (hz : ∀ a, Zo a → Zo' a) (hF : FrOk C (C.Zf Zo) s.heap) : Sta C Zo ρ ω s := by
  have hzz : ∀ b, C.Z Zo ω b → C.Z Zo' ω b := fun b h => h.elim (fun h => .inl (hz b h)) .inr
  have mv : ∀ b o, ¬ C.Z Zo' ω b → s.heap.get? b = some o → ¬ C.Z Zo ω b ∧ s.heap.get? b = some o := fun b o h e => ⟨fun q => h (hzz b q), e⟩
  refine ⟨hs.base, fun a h => hs.new a (hzz a h), ?_, ?_, hs.cells, hs.inj, ?_, hs.nodup, (fun a ha h => hs.apart a ha (hz a h)), (fun a h => hs.zo a (hz a h)), hs.tok, hF⟩
  · obtain ⟨m, hn, hm⟩ := hs.ns
    exact ⟨m, hn, fun y d hy hl => let ⟨v, h1, h2⟩ := hm y d hy hl; ⟨v, h1, h2.move mv⟩⟩
  · intro y d hy hl
    obtain ⟨c, v, h1, h2, h3⟩ := hs.cell y d hy hl
    exact ⟨c, v, h1, h2, h3.move mv⟩
  · intro p hp
    obtain ⟨vs, h1, h2⟩ := hs.own p hp
    exact ⟨vs, h1, h2.move mv⟩

/-- a for over data: a word over the turns -/
theorem ex_for {x : Str} {px pos : Pos} {iter : Expr} {body : List Stmt} (ok : C.Ok l) (hx : Stor C x)
    (h : Pe C ρ ω iter (fun d => ∃ its, IterK false ω d = some its ∧ ∃ J : Nat → Loc → Own → Prop, J 0 ρ ω ∧
      (∀ i d ρ' ω', its[i]? = some d → J i ρ' ω' → Exs C (put ρ' x d) ω' body (fun fl ρ'' ω'' => match fl with
        | .next => J (i + 1) ρ'' ω''
        | .cont => J (i + 1) ρ'' ω''
        | .brk => K .next ρ'' ω''
        | .ret d => K (.ret d) ρ'' ω'')) ∧
      (∀ ρ' ω', J its.length ρ' ω' → K .next ρ' ω')))
    (hs : ∀ x, foldedSetIterable iter C.env x = pure x) : Ex C ρ ω (.For (.Name x px) iter body [] pos) K := .mk fun {Zo} s hs₀ => by
  refine wpAny_For (wpAny_mono (h.run s hs₀) (fun xv s₁ X => ?_) fun _ _ e => e) hs
  obtain ⟨k1, d, i1, its, hit, J, hJ0, turn, fin⟩ := X
  have hs1 := hs₀.keeps k1
  refine wpAny_mono (iter_doc false ok hs1 i1 hit) (fun it s₂ Y => ?_) fun _ _ e => e
  obtain ⟨k2, I, rfl, hI, fp, P, St, W, hst, hli, hfpz, hfpl, hP⟩ := Y
  have hs2 := hs1.guard hI k2 (let ⟨o, ho, _⟩ := hli 0 _ hst; ⟨o, ho⟩)
  have hF := hs1.fr.ne hI
  have inI : ∀ b o, s₁.heap.get? b = some o → (Zo b ∨ b = I) → Zo b := fun b o e z => z.elim id fun q => by rw [q, hI] at e; cases e
  have hmuI : ¬ C.Mu ω I := fun q => by
    obtain ⟨o, ho⟩ := hs1.live I (.inr q)
    rw [hI] at ho; cases ho
  refine codeAny_forLoop (fun k s' => ∃ i ρ' ω', k = its.length + 1 - i ∧ i ≤ its.length ∧ St i s'.heap ∧ Sta C (fun a => Zo a ∨ a = I) ρ' ω' s' ∧ ¬ C.Mu ω' I ∧ Step C (fun a => Zo a ∨ a = I) ω ω' s₁ s' ∧ J i ρ' ω') ?_ (its.length + 1)
    ⟨0, ρ, ω, rfl, Nat.zero_le _, hst, hs2, hmuI, k2.step.zone (fun _ _ _ z => .inl z), hJ0⟩
  rintro k s' ⟨i, ρ', ω', rfl, hi, hst', hs', hmu', st', hJ⟩
  -- an object of the source stays
  have keepT : ∀ (h₁ : Heap) (tk : Nat), s'.toks ≤ tk → (∀ b o, b ∉ [I] → s'.heap.get? b = some o → h₁.get? b = some o) → (∃ o, h₁.get? I = some o) →
      Sta C (fun a => Zo a ∨ a = I) ρ' ω' { s' with heap := h₁, toks := tk } ∧ Step C (fun a => Zo a ∨ a = I) ω ω' s₁ { s' with heap := h₁, toks := tk } := by
    intro h₁ tk htk hk₁ hI₁
    refine ⟨hs'.turn (s₂ := { s' with heap := h₁, toks := tk }) hmu' (fun b o hb e => hk₁ b o (by simpa using hb) e) hI₁ htk hF, ?_⟩
    obtain ⟨h0, t0, e0, l0⟩ := st'.same
    refine ⟨⟨h₁, tk, by rw [e0], Nat.le_trans l0 (by rw [e0] at htk; exact htk)⟩, fun b o hb e => ?_, fun b o e => ?_, st'.grow⟩
    · have hbI : b ≠ I := fun q => by rw [q, hI] at e; cases e
      exact ⟨fun q => hk₁ b o (by simpa using hbI) ((st'.keep b o hb e).1 q), let ⟨sl, e'⟩ := (st'.keep b o hb e).2; ⟨sl, hk₁ b _ (by simpa using hbI) e'⟩⟩
    · obtain ⟨o', e', d'⟩ := st'.live b o e
      have hbI : b ≠ I := fun q => by rw [q, hI] at e; cases e
      exact ⟨o', hk₁ b o' (by simpa using hbI) e', d'⟩
  by_cases hlt : i < its.length
  · refine wpAny_free (W.item i _ _ _ hlt hst' fun v h₁ tk₁ hPv hst₁ hk₁ htk₁ => ?_)
    obtain ⟨hs3, st3⟩ := keepT h₁ tk₁ htk₁ hk₁ (let ⟨o, ho, _⟩ := hli _ _ hst₁; ⟨o, ho⟩)
    obtain ⟨d, hd, iv⟩ := hP i v hlt hPv
    have iv' : Is (C.Z (fun a => Zo a ∨ a = I) ω') h₁ v d := iv.move fun b o hz e => by
      have hbI : b ≠ I := fun q => by rw [q, hI] at e; cases e
      have hnm : ¬ C.Mu ω b := fun q => hz (.inr q)
      refine ⟨?_, (st3.keep b o hnm e).1 fun z => hz (.inl (inI b o e z.1))⟩
      rintro ((q | q) | q)
      · exact hz (.inl q)
      · exact hbI q
      · exact st3.mu hnm e q
    refine wpAny_assign_Name (wpAny_mono (store_doc ok hs3 iv' hx) (fun _ s₄ ⟨hs4, st4⟩ => ?_) fun _ _ e => e.elim)
    refine wpAny_mono ((turn i d ρ' ω' hd hJ).run s₄ hs4) (fun f s₅ o => ?_) fun _ _ e => e.elim
    obtain ⟨fl, ρ5, ω5, hf, hs5, st5, hk⟩ := o
    have stA := (st3.trans st4).trans st5
    have hmu5 : ¬ C.Mu ω5 I := by
      obtain ⟨o, ho⟩ := hs4.zo I (.inr rfl)
      exact st5.mu hmu' ho
    have hst5 : St (i + 1) s₅.heap := by
      refine W.frame _ _ _ hst₁ fun b hb o e => ?_
      have e4 : s₄.heap.get? b = some o := by
        by_cases q : b = I
        · exact (st4.keep b o (q ▸ hmu') e).1 fun z => by
            obtain ⟨oi, hoi, hnd⟩ := hli _ _ hst₁
            subst q
            rw [hoi] at e; cases e; exact hnd z.2
        · refine (st4.keep b o (fun qq => ?_) e).1 fun z => (by
            obtain ⟨ob, hob, _⟩ := hfpl b hb q
            exact hfpz rfl b hb q (.inl (inI b ob hob z.1)))
          exact absurd qq (by
            obtain ⟨ob, hob, _⟩ := hfpl b hb q
            exact st3.mu (fun z => hfpz rfl b hb q (.inr z)) hob)
      by_cases q : b = I
      · exact (st5.keep b o (q ▸ hmu') e4).1 fun z => by
          obtain ⟨oi, hoi, hnd⟩ := hli _ _ hst₁
          subst q
          rw [hoi] at e; cases e; exact hnd z.2
      · refine (st5.keep b o ?_ e4).1 fun z => (by
          obtain ⟨ob, hob, _⟩ := hfpl b hb q
          exact hfpz rfl b hb q (.inl (inI b ob hob z.1)))
        obtain ⟨ob, hob, _⟩ := hfpl b hb q
        exact st3.mu (fun z => hfpz rfl b hb q (.inr z)) hob
    have again : J (i + 1) ρ5 ω5 → ∃ m, m < its.length + 1 - i ∧ ∃ j ρ' ω', m = its.length + 1 - j ∧ j ≤ its.length ∧ St j s₅.heap ∧ Sta C (fun a => Zo a ∨ a = I) ρ' ω' s₅ ∧ ¬ C.Mu ω' I ∧ Step C (fun a => Zo a ∨ a = I) ω ω' s₁ s₅ ∧ J j ρ' ω' := fun hj =>
      ⟨its.length + 1 - (i + 1), by omega, i + 1, ρ5, ω5, rfl, hlt, hst5, hs5, hmu5, stA, hj⟩
    have outS : Sta C Zo ρ5 ω5 s₅ := hs5.unguard (fun a h => .inl h) (stA.frOk hs1.fr)
    have stO := (k1.step (C := C) (ω := ω)).trans (stA.zone inI)
    cases fl with
    | next => cases f with
      | next => exact again hk
      | _ => exact hf.elim
    | cont => cases f with
      | cont => exact again hk
      | _ => exact hf.elim
    | brk => cases f with
      | brk => exact ⟨.next, ρ5, ω5, trivial, outS, stO, hk⟩
      | _ => exact hf.elim
    | ret d' => cases f with
      | ret v' =>
        have hf' : Is (C.Z (fun a => Zo a ∨ a = I) ω5) s₅.heap v' d' := hf
        exact ⟨.ret d', ρ5, ω5, hf'.move (fun b o h e => ⟨fun q => h (q.elim (fun z => .inl (.inl z)) .inr), e⟩), outS, stO, hk⟩
      | _ => exact hf.elim
  · have hin : i = its.length := by omega
    subst hin
    refine wpAny_free (W.done _ _ _ hst' fun h₁ tk₁ hk₁ htk₁ => wpAny_execs_nil ?_)
    -- at the end the iterator may be gone: the zone is the outer one again
    have hz : Sta C Zo ρ' ω' { s' with heap := h₁, toks := tk₁ } := by
      have mv : ∀ b o, ¬ C.Z (fun a => Zo a ∨ a = I) ω' b → s'.heap.get? b = some o → ¬ C.Z Zo ω' b ∧ h₁.get? b = some o := fun b o hz e =>
        ⟨fun q => hz (q.elim (fun z => .inl (.inl z)) .inr), hk₁ b o (by simpa using fun q : b = I => hz (.inl (.inr q))) e⟩
      have notI : ∀ b, C.Mu ω' b → b ≠ I := fun b hb q => hmu' (q ▸ hb)
      refine ⟨fun b o e => ?_, fun a h => hs'.new a (h.elim (fun z => .inl (.inl z)) .inr), ?_, ?_, ?_, hs'.inj, ?_, hs'.nodup, (fun a ha h => hs'.apart a ha (.inl h)), ?_, Nat.lt_of_lt_of_le hs'.tok htk₁, (st'.frOk hs1.fr).turn hF fun b o hb hz e hd => ⟨hz, o, hk₁ b o (by simpa using hb) e, hd⟩⟩
      · have hbI : b ≠ I := fun q => by
          have := hs'.new b (.inl (.inr q)); rw [this] at e; cases e
        exact hk₁ b o (by simpa using hbI) (hs'.base b o e)
      · obtain ⟨m, hn, hm⟩ := hs'.ns
        exact ⟨m, hn.at' fun o e => hk₁ _ _ (by simpa using notI _ (.inl rfl)) e, fun y d hy hl => let ⟨v, h1, h2⟩ := hm y d hy hl; ⟨v, h1, h2.move mv⟩⟩
      · intro y d hy hl
        obtain ⟨c, v, h1, ⟨o, h2, h2'⟩, h3⟩ := hs'.cell y d hy hl
        exact ⟨c, v, h1, ⟨o, hk₁ _ _ (by simpa using notI _ (.inr (.inl ⟨y, h1⟩))) h2, h2'⟩, h3.move mv⟩
      · intro y c hy
        obtain ⟨v, o, h2, h2'⟩ := hs'.cells y c hy
        exact ⟨v, o, hk₁ _ _ (by simpa using notI _ (.inr (.inl ⟨y, hy⟩))) h2, h2'⟩
      · intro p hp
        obtain ⟨vs, h1, h2⟩ := hs'.own p hp
        exact ⟨vs, h1.at fun o e => hk₁ _ _ (by simpa using notI _ (.inr (.inr (List.mem_map.mpr ⟨p, hp, rfl⟩)))) e, h2.move mv⟩
      · intro a h
        obtain ⟨o, ho⟩ := hs'.zo a (.inl h)
        obtain ⟨o1, ho1⟩ := hs1.zo a h
        have hne : a ≠ I := fun q => by rw [q, hI] at ho1; cases ho1
        exact ⟨o, hk₁ _ _ (by simpa using hne) ho⟩
    have st3 : Step C (fun a => Zo a ∨ a = I) ω ω' s₁ { s' with heap := h₁, toks := tk₁ } := by
      obtain ⟨h0, t0, e0, l0⟩ := st'.same
      refine ⟨⟨h₁, tk₁, by rw [e0], Nat.le_trans l0 (by rw [e0] at htk₁; exact htk₁)⟩, fun b o hb e => ?_, fun b o e => ?_, st'.grow⟩
      · have hbI : b ≠ I := fun q => by rw [q, hI] at e; cases e
        exact ⟨fun q => hk₁ b o (by simpa using hbI) ((st'.keep b o hb e).1 q), let ⟨sl, e'⟩ := (st'.keep b o hb e).2; ⟨sl, hk₁ b _ (by simpa using hbI) e'⟩⟩
      · obtain ⟨o', e', d'⟩ := st'.live b o e
        have hbI : b ≠ I := fun q => by rw [q, hI] at e; cases e
        exact ⟨o', hk₁ b o' (by simpa using hbI) e', d'⟩
    exact ⟨.next, ρ', ω', trivial, hz, (k1.step (C := C) (ω := ω)).trans (st3.zone inI), fin ρ' ω' hJ⟩
end
end Mine
end

section
namespace Mine

def cap (cl : List (Str × Addr)) (ρ : Loc) : Loc := ρ.filter fun p => (cl.lookup p.1).isSome
theorem get_cap (cl : List (Str × Addr)) (ρ : Loc) (y : Str) : get (cap cl ρ) y = if (cl.lookup y).isSome = true then get ρ y else none := by
  induction ρ with
  | nil => simp [cap, get]
  | cons p r ih =>
    obtain ⟨z, d⟩ := p
    unfold cap at ih ⊢
    rw [List.filter_cons]
    by_cases h : (cl.lookup z).isSome = true
    · simp only [h, if_true, get]
      by_cases e : y = z
      · subst e; simp [h]
      · simp only [if_neg e]; exact ih
    · simp only [h, Bool.false_eq_true, if_false, get]
      by_cases e : y = z
      · subst e; rw [ih]; simp [h]
      · simp only [if_neg e]; exact ih

/-- the context within a comprehension -/
@[reducible] def Cx.comp (C : Cx) (scope : Scope) (cl : List (Str × Addr)) (n : Addr) : Cx := { C with env := compEnvC scope cl n C.env }

/-- tests, then the element -/
structure Pi (C : Cx) (ρ : Loc) (ω : Own) (ifs : List Expr) (elt : Expr) (K : Option D → Prop) : Prop where
  run : ∀ {Zo : Addr → Prop} s, Sta C Zo ρ ω s → wpAny C.M C.A (forIn ifs true fun c r => if r = true then do let ok ← isTrue c C.env (eval c C.env); pure (ForInStep.yield ok) else pure (ForInStep.yield r))
    (fun ok s₁ => Kp (C.Z Zo ω) s s₁ ∧ if ok = true then Pe C ρ ω elt (fun e => K (some e)) else K none) NoE s
section
variable {C : Cx} {ρ : Loc} {ω : Own}
theorem pi_nil {elt : Expr} {K : Option D → Prop} (h : Pe C ρ ω elt (fun e => K (some e))) : Pi C ρ ω [] elt K := .mk fun s hs => wpAny_tests_nil ⟨Kp.refl _, h⟩
theorem pi_one {c elt : Expr} {K : Option D → Prop} (h : Pt C ρ ω c (fun b => if b = true then Pe C ρ ω elt (fun e => K (some e)) else K none)) : Pi C ρ ω [c] elt K := .mk fun s hs =>
  wpAny_tests_one (wpAny_mono (h.run s hs) (fun b s₁ x => x) fun _ _ e => e)
end

structure CompOk (C : Cx) (scope : Scope) (cl : List (Str × Addr)) (x : Str) : Prop where
  clos : closureFor scope C.env = pure cl
  cell : ∀ y ∈ scope.names, y.2 ≠ .cell
  kind : scope.kind = .function
  names : ∀ y ∈ scope.names, y.2 = .local → scope.names.lookup y.1 = some .local
  hx : scope.names.lookup x = some .local
  sub : ∀ y c, cl.lookup y = some c → C.env.cells.lookup y = some c ∧ (C.env.kindOf y = some .cell ∨ C.env.kindOf y = some .free)
  caught : ∀ y c, cl.lookup y = some c → (relabel scope C.env).names.lookup y ≠ some .local

theorem comp_core {C : Cx} {Zo : Addr → Prop} {ρ : Loc} {ω : Own} {l : Nat} {elt iter : Expr} {x : Str} {px pos : Pos} {ifs : List Expr} {scope : Scope} {cl : List (Str × Addr)} {RR : Value → Addr → Result → Shared → Prop} (ok : C.Ok l) (co : CompOk C scope cl x)
    {s₁ : Shared} (hs1 : Sta C Zo ρ ω s₁) {xv : Value} {d : D} (i1 : Is (C.Z Zo ω) s₁.heap xv d) {its : List D} (hit : IterK true ω d = some its) (hlim : its.length ≤ lim) (g : D → Option D)
    (hel : ∀ d ∈ its, ∀ n, Pi (C.comp scope cl n) ((x, d) :: cap cl ρ) ω ifs elt (fun r => r = g d))
    (hRR : ∀ Dl Cn h tk m vs, s₁.toks ≤ tk → s₁.heap.get? Dl = none → s₁.heap.get? Cn = none → Dl ≠ Cn → h.Ns Cn m → KG (C.Z Zo ω) s₁.heap h → h.PlainList Dl vs.toArray →
      IsAll (fun b => C.Z Zo ω b ∨ b = Dl ∨ b = Cn) h vs (its.filterMap g) → RR (.ref Dl) Cn (.ok .next) { s₁ with heap := h, toks := tk }) :
    wpAny C.M C.A (pyIter xv) (fun it s₂ => wpAny C.M C.A (newList []) (fun acc s₃ => wpAny C.M C.A (newFunctionEnv scope C.env.globals cl [] C.env.qual none .none (some C.env)) (fun cenv s₄ =>
      codeAny C.M C.A (.compStart (.ListComp elt [⟨.Name x px, iter, ifs, 0⟩] scope pos) 0 it acc { cenv with scope := relabel scope C.env }) (RR acc cenv.locals) s₄) NoE s₃) NoE s₂) NoE s₁ := by
  refine wpAny_mono (iter_doc true ok hs1 i1 hit) (fun it s₂ Y => ?_) fun _ _ e => e
  obtain ⟨k2, I, rfl, hI, fp, P, St, W, hst, hli, _, hfpl, hP⟩ := Y
  refine wpAny_newObj_type (wpAny_newFunctionEnv co.cell (by intro y hy; simp at hy) (fun h₁ hns₁ hsb₁ => ?_) co.kind)
  dsimp only at hns₁ hsb₁ ⊢
  generalize hH2 : s₂.heap.push { cls := .type "list", dict := none, data := .seq ([] : List Value).toArray } = H2 at hns₁ hsb₁ ⊢
  have hC : H2.objs.size = s₂.heap.objs.size + 1 := by rw [← hH2, Heap.size_push]
  generalize hDl : s₂.heap.objs.size = Dl at *
  generalize hCn : H2.objs.size = Cn at *
  have hDC : Dl ≠ Cn := by rw [hC]; exact Nat.ne_of_lt (Nat.lt_succ_self _)
  have lt2 : ∀ b o, s₂.heap.get? b = some o → b < Dl := fun b o e => hDl ▸ Heap.lt_size e
  have old : ∀ b o, s₂.heap.get? b = some o → h₁.get? b = some o := fun b o e => by
    have hb := lt2 b o e
    exact hsb₁.extBut b o (by rw [hC]; exact Nat.ne_of_lt (Nat.lt_succ_of_lt hb)) (Heap.get?_push_of_some _ (hH2 ▸ Heap.get?_push_of_some _ e))
  have old1 : ∀ b o, s₁.heap.get? b = some o → b ≠ I ∧ b ≠ Dl ∧ b ≠ Cn := fun b o e => by
    have hb := let ⟨_, e'⟩ := (k2.get b o e).2; lt2 b _ e'
    refine ⟨fun q => ?_, Nat.ne_of_lt hb, by rw [hC]; exact Nat.ne_of_lt (Nat.lt_succ_of_lt hb)⟩
    rw [q, hI] at e; cases e
  have hIlt : I < Dl := by obtain ⟨o, ho, _⟩ := hli 0 _ hst; exact lt2 I o ho
  have fpOff : ∀ b ∈ fp, b ≠ Dl ∧ b ≠ Cn := fun b hb => by
    by_cases q : b = I
    · subst q; exact ⟨Nat.ne_of_lt hIlt, by rw [hC]; exact Nat.ne_of_lt (Nat.lt_succ_of_lt hIlt)⟩
    · obtain ⟨o, ho, _⟩ := hfpl b hb q; exact (old1 b o ho).2
  have hacc : h₁.PlainList Dl #[] := by
    exact ⟨0, hsb₁.extBut _ _ (hCn ▸ hDC) (Heap.get?_push_of_some _ (hH2 ▸ hDl ▸ Heap.get?_push_size _ rfl))⟩
  have hst₁ : St 0 h₁ := W.frame _ _ _ hst fun b _ o e => old b o e
  let Zo' : Addr → Prop := fun a => (C.Z Zo ω a ∧ a ∉ ω.map (·.1)) ∨ a = I ∨ a = Dl
  let C' := C.comp scope cl Cn
  have hZI : C'.Z Zo' ω I := .inl (.inr (.inl rfl))
  have hZD : C'.Z Zo' ω Dl := .inl (.inr (.inr rfl))
  have hZC : C'.Z Zo' ω Cn := .inr (.inl rfl)
  have hZsub : ∀ b, C'.Z Zo' ω b → C.Z Zo ω b ∨ b = I ∨ b = Dl ∨ b = Cn := by
    rintro b (h | h | ⟨y, h⟩ | h)
    · rcases h with h | h | h
      · exact .inl h.1
      · exact .inr (.inl h)
      · exact .inr (.inr (.inl h))
    · exact .inr (.inr (.inr h))
    · exact .inl (mu_cell (co.sub y b h).1)
    · exact .inl (mu_own h)
  have ok' : C'.Ok l := ⟨ok.room, by show (relabel scope C.env).kind = _; exact co.kind, ok.gl, ok.bl, ok.g, ok.b, ok.nolimit⟩
  -- the loop
  have loop : ∀ s₃ : Shared, s₃ = { s₂ with heap := h₁, toks := s₂.toks + ([] : List (Str × Value)).length } →
      codeAny C.M C.A (.compLoop (.ListComp elt [⟨.Name x px, iter, ifs, 0⟩] scope pos) 0 (.ref I) (.ref Dl) (compEnvC scope cl Cn C.env)) (RR (.ref Dl) Cn) s₃ := by
    rintro s₃ rfl
    refine codeAny_compLoop_tests (fun k s' => ∃ i, k = its.length + 1 - i ∧ i ≤ its.length ∧ St i s'.heap ∧ (∃ h tk, s' = { s₁ with heap := h, toks := tk } ∧ s₁.toks ≤ tk) ∧ KG (C.Z Zo ω) s₁.heap s'.heap ∧ (∃ m, s'.heap.Ns Cn m) ∧
      ∃ vs, s'.heap.PlainList Dl vs.toArray ∧ IsAll (C'.Z Zo' ω) s'.heap vs ((its.take i).filterMap g)) ?_ (its.length + 1) ?_
    · rintro k s' ⟨i, rfl, hi, hst', ⟨hh, tk, rfl, htk⟩, hk', ⟨m, hn⟩, vs, hl, hvs⟩
      dsimp only at hst' hk' hn hl hvs
      by_cases hlt : i < its.length
      · refine wpAny_free (W.item i _ _ _ hlt hst' fun v h₂ tk₂ hPv hst₂ hk₂ htk₂ => ?_)
        dsimp only at hk₂ htk₂ ⊢
        have ht2 : s₁.toks ≤ tk₂ := Nat.le_trans htk htk₂
        obtain ⟨d, hd, iv⟩ := hP i v hlt hPv
        have k02 : KG (C.Z Zo ω) s₁.heap h₂ := hk'.after fun b o o' e e' => hk₂ b o' (by simpa using (old1 b o e).1) e'
        have hn2 : h₂.Ns Cn m := hn.at' fun o e => hk₂ _ _ (by simpa using (by rw [hC]; exact (Nat.ne_of_lt (Nat.lt_succ_of_lt hIlt)).symm : Cn ≠ I)) e
        refine wpAny_assign_Name (wpAny_storeName_local (env := compEnvC scope cl Cn C.env) (lookup_relabel_local co.hx) hn2 (fun h₃ hn₃ hs₃ => ?_) (by simp [compEnvC, relabel, co.kind]))
        have hs₃' : Heap.SameBut Cn h₂ h₃ := hs₃
        have hn₃' : h₃.Ns Cn (fun y => if y = x then some v else m y) := hn₃
        have k03 : KG (C.Z Zo ω) s₁.heap h₃ := k02.after fun b o o' e e' => (hs₃'.2 b (old1 b o e).2.2).trans e'
        have hst₃ : St (i + 1) h₃ := W.frame _ _ _ hst₂ fun b hb o e => (hs₃'.2 b (fpOff b hb).2).trans e
        have mv : ∀ b o, ¬ C.Z Zo ω b → s₁.heap.get? b = some o → ¬ C'.Z Zo' ω b ∧ h₃.get? b = some o := fun b o hz e =>
          ⟨fun q => (hZsub b q).elim hz fun q => q.elim (old1 b o e).1 fun q => q.elim (old1 b o e).2.1 (old1 b o e).2.2, k03.out hz e⟩
        have hl₃ : h₃.PlainList Dl vs.toArray := hl.at fun o e => (hs₃'.2 Dl hDC).trans (hk₂ Dl o (by simpa using (Nat.ne_of_lt hIlt).symm) e)
        have hvs₃ : IsAll (C'.Z Zo' ω) h₃ vs ((its.take i).filterMap g) := hvs.move fun b o hz e =>
          ⟨hz, (hs₃'.2 b fun q => hz (q ▸ hZC)).trans (hk₂ b o (by simpa using fun q : b = I => hz (q ▸ hZI)) e)⟩
        have hsI : Sta C' Zo' ((x, d) :: cap cl ρ) ω { s₁ with heap := h₃, toks := tk₂ + 1 } := by
          refine ⟨fun b o e => k03.out (fun q => by rw [hs1.new b q] at e; cases e) (hs1.base b o e), ?_, ⟨_, hn₃', fun y dy hy hl => ?_⟩, fun y dy hy hl => ?_, fun y c hy => ?_, fun y z c hy hz => ?_, fun p hp => ?_, hs1.nodup, (fun a ha h => h.elim (fun h => h.2 ha) fun h => by obtain ⟨p, hp, e2⟩ := List.mem_map.mp ha; obtain ⟨ws, ⟨o, ho, _⟩, _⟩ := hs1.ownL p hp; rw [e2] at ho; exact h.elim (old1 a o ho).1 (old1 a o ho).2.1), ?_, Nat.succ_pos _, ?_⟩
          · intro a ha
            rcases hZsub a ha with q | q | q | q
            · exact hs1.new a q
            all_goals
              cases e : C.h₀.get? a with
              | none => rfl
              | some o => have := old1 a o (hs1.base a o e); simp_all
          · simp only [get] at hy
            by_cases hyx : y = x
            · rw [if_pos hyx] at hy; cases hy; exact ⟨v, by simp [hyx], iv.move mv⟩
            · rw [if_neg hyx, get_cap] at hy
              split at hy
              · rename_i hq
                obtain ⟨c, hc⟩ := Option.isSome_iff_exists.mp hq
                exfalso
                -- a captured name is no local here
                have hl' : (relabel scope C.env).names.lookup y = some .local := hl
                obtain ⟨hc1, hc2⟩ := co.sub y c hc
                exact co.caught y c hc hl'
              · cases hy
          · simp only [get] at hy
            by_cases hyx : y = x
            · exfalso
              subst hyx
              have : (relabel scope C.env).names.lookup y = some .local := lookup_relabel_local co.hx
              have hl' : (relabel scope C.env).names.lookup y = some .cell ∨ (relabel scope C.env).names.lookup y = some .free := hl
              rw [this] at hl'; rcases hl' with h | h <;> cases h
            · rw [if_neg hyx, get_cap] at hy
              split at hy
              · rename_i hq
                obtain ⟨c, hc⟩ := Option.isSome_iff_exists.mp hq
                obtain ⟨hc1, hc2⟩ := co.sub y c hc
                obtain ⟨c', u, h1, ⟨o, h2, h2'⟩, h3⟩ := hs1.cell y dy hy hc2
                rw [hc1] at h1; cases h1
                exact ⟨c, u, hc, k03.cell ⟨o, h2, h2'⟩, h3.move mv⟩
              · cases hy
          · obtain ⟨u, o, h2, h2'⟩ := hs1.cells y c (co.sub y c hy).1
            exact ⟨u, k03.cell ⟨o, h2, h2'⟩⟩
          · exact hs1.inj y z c (co.sub y c hy).1 (co.sub z c hz).1
          · obtain ⟨ws, h1, h2⟩ := hs1.own p hp
            exact ⟨ws, k03.plain h1, h2.move mv⟩
          · rintro a (q | q | q)
            · obtain ⟨o, ho⟩ := hs1.live a q.1; exact k03.live ho
            · subst q; obtain ⟨o, ho, _⟩ := hli _ _ hst₃; exact ⟨o, ho⟩
            · subst q; obtain ⟨n, ho⟩ := hl₃; exact ⟨_, ho⟩
          · refine FrOk.of (C := C') (Z := C.Zf Zo) hs1.fr fun b o hz e hd => ⟨.inl (.inl ⟨hz.elim .inl fun q => .inr (.inl q), fun ho => ?_⟩), let ⟨_, e'⟩ := (k03 b o e).2; ⟨_, e', hd⟩⟩
            obtain ⟨p, hp, e2⟩ := List.mem_map.mp ho
            obtain ⟨ws, ⟨n, h1⟩, _⟩ := hs1.own p hp
            rw [e2, e] at h1
            cases h1
            obtain ⟨es, ep, hd⟩ := hd
            cases hd
        refine wpAny_mono ((hel d (List.mem_of_getElem? hd) Cn).run _ hsI) (fun okb s₄ ⟨k4, h4⟩ => ?_) fun _ _ e => e.elim
        have htake : (its.take (i + 1)).filterMap g = (its.take i).filterMap g ++ (g d).toList := by
          rw [List.take_add_one, hd, List.filterMap_append]; cases hg : g d <;> simp [hg]
        have k4g : KG (C'.Z Zo' ω) h₃ s₄.heap := k4.get
        have zz : ∀ b o, s₁.heap.get? b = some o → C'.Z Zo' ω b → C.Z Zo ω b := fun b o e q => (hZsub b q).elim id fun q => (q.elim (old1 b o e).1 fun q => q.elim (old1 b o e).2.1 (old1 b o e).2.2).elim
        have fpk : ∀ (h' : Heap), KG (C'.Z Zo' ω) h₃ h' → ∀ b ∈ fp, ∀ o, h₃.get? b = some o → h'.get? b = some o := fun h' kg b hb o e => by
          by_cases q : b = I
          · obtain ⟨oi, hoi, hnd⟩ := hli _ _ hst₃
            subst q
            rw [hoi] at e; cases e; exact kg.nd hnd hoi
          · obtain ⟨ob, hob, hnd⟩ := hfpl b hb q
            have e3 := k03.nd hnd hob
            rw [e3] at e; cases e; exact kg.nd hnd e3
        cases okb with
        | true =>
          simp only [if_true] at h4 ⊢
          refine wpAny_mono (h4.run s₄ (hsI.keeps k4)) (fun y s₅ ⟨k5, e, i5, h5⟩ => ?_) fun _ _ e => e.elim
          have k45 := k4.trans k5
          have k45g : KG (C'.Z Zo' ω) h₃ s₅.heap := k45.get
          have hl₅ : s₅.heap.PlainList Dl vs.toArray := k45g.plain hl₃
          have hlenv : vs.length ≤ lim := by
            rw [hvs.length]
            have h1 := List.length_filterMap_le g (its.take i)
            have h2 : (its.take i).length ≤ its.length := by simp [Nat.min_le_right]
            omega
          refine wpAny_list_append_plain hl₅ (fun h₆ hl₆ hs₆ => ?_) (by simpa using lim_le hlenv)
          refine ⟨its.length + 1 - (i + 1), by omega, i + 1, rfl, hlt, ?_, ?_, ?_, ⟨(fun y => if y = x then some v else m y), ?_⟩, vs ++ [y], by simpa using hl₆, ?_⟩
          · exact W.frame _ _ _ hst₃ fun b hb o e => (hs₆.2 b (fpOff b hb).1).trans (fpk _ k45g b hb o e)
          · obtain ⟨h', tk', e', _, l'⟩ := k45
            exact ⟨h₆, tk', by rw [e'], Nat.le_trans ht2 (Nat.le_trans (Nat.le_succ _) l')⟩
          · exact (k03.trans2 k45g zz).after fun b o o' e e' => (hs₆.2 b (old1 b o e).2.1).trans e'
          · exact (k45g.ns hn₃').sameBut hs₆ (Ne.symm hDC)
          · rw [htake, ← h5]
            have mv6 : ∀ b o, ¬ C'.Z Zo' ω b → s₅.heap.get? b = some o → ¬ C'.Z Zo' ω b ∧ h₆.get? b = some o := fun b o hz e => ⟨hz, (hs₆.2 b fun q => hz (q ▸ hZD)).trans e⟩
            exact IsAll.append ((hvs₃.move fun b o hz e => ⟨hz, k45g.out hz e⟩).move mv6) (.one (i5.move mv6))
        | false =>
          simp only [Bool.false_eq_true, if_false] at h4 ⊢
          refine ⟨its.length + 1 - (i + 1), by omega, i + 1, rfl, hlt, ?_, ?_, ?_, ⟨_, k4g.ns hn₃'⟩, vs, k4g.plain hl₃, ?_⟩
          · exact W.frame _ _ _ hst₃ fun b hb o e => fpk _ k4g b hb o e
          · obtain ⟨h', tk', e', _, l'⟩ := k4
            exact ⟨h', tk', by rw [e'], Nat.le_trans ht2 (Nat.le_trans (Nat.le_succ _) l')⟩
          · exact k03.trans2 k4g zz
          · rw [htake, ← h4]; simpa using hvs₃.move fun b o hz e => ⟨hz, k4g.out hz e⟩
      · have hin : i = its.length := by omega
        subst hin
        refine wpAny_free (W.done _ _ _ hst' fun h₂ tk₂ hk₂ htk₂ => ?_)
        dsimp only at hk₂ htk₂ ⊢
        have hn2 : h₂.Ns Cn m := hn.at' fun o e => hk₂ _ _ (by simpa using (by rw [hC]; exact (Nat.ne_of_lt (Nat.lt_succ_of_lt hIlt)).symm : Cn ≠ I)) e
        have fr : ∀ a, (∀ b o, s₁.heap.get? b = some o → b ≠ a) → s₁.heap.get? a = none := fun a h => by
          cases e : s₁.heap.get? a with
          | none => rfl
          | some o => exact (h a o e rfl).elim
        refine hRR Dl Cn h₂ tk₂ m vs (Nat.le_trans htk htk₂) (fr Dl fun b o e => (old1 b o e).2.1) (fr Cn fun b o e => (old1 b o e).2.2) hDC hn2 (hk'.after fun b o o' e e' => hk₂ b o' (by simpa using (old1 b o e).1) e') ?_ ?_
        · exact hl.at fun o e => hk₂ Dl o (by simpa using (Nat.ne_of_lt hIlt).symm) e
        · rw [List.take_length] at hvs
          exact hvs.move fun b o hz e => ⟨fun q => q.elim (fun q => hz ((Classical.byCases (p := b ∈ ω.map (·.1)) (fun hb => .inr (.inr (.inr hb))) (fun hb => .inl (.inl ⟨q, hb⟩))))) fun q => q.elim (fun q => hz (q ▸ hZD)) fun q => hz (q ▸ hZC), hk₂ b o (by simpa using fun q : b = I => hz (q ▸ hZI)) e⟩
    · refine ⟨0, rfl, Nat.zero_le _, hst₁, ?_, k2.get.after fun b o o' e e' => old b o' e', ⟨_, hns₁⟩, [], hacc, .nil⟩
      obtain ⟨h', tk', e', _, l'⟩ := k2
      exact ⟨h₁, tk', by rw [e']; rfl, l'⟩
  exact codeAny_compStart_list (loop _ rfl) (W.self 0 _ _ _ hst₁ (loop _ rfl))

theorem pe_comp {C : Cx} {ρ : Loc} {ω : Own} {l : Nat} {K : D → Prop} {elt iter : Expr} {x : Str} {px pos : Pos} {ifs : List Expr} {scope : Scope} {cl : List (Str × Addr)} (ok : C.Ok l) (co : CompOk C scope cl x)
    (h : Pe C ρ ω iter (fun d => ∃ its, IterK true ω d = some its ∧ its.length ≤ lim ∧ ∃ g : D → Option D, (∀ d ∈ its, ∀ n, Pi (C.comp scope cl n) ((x, d) :: cap cl ρ) ω ifs elt (fun r => r = g d)) ∧ K (.list (its.filterMap g))))
    (hsf : ∀ x, foldedSetIterable iter C.env x = pure x) : Pe C ρ ω (.ListComp elt [⟨.Name x px, iter, ifs, 0⟩] scope pos) K := .mk fun {Zo} s hs₀ => by
  rw [eval_ListComp]
  refine wpAny_comprehension_free (use := none) rfl hsf co.clos co.kind co.names (wpAny_mono (h.run s hs₀) (fun xv s₁ X => ?_) fun _ _ e => e)
  obtain ⟨k1, d, i1, its, hit, hlim, g, hel, hK⟩ := X
  have hs1 := hs₀.keeps k1
  refine comp_core (RR := fun acc C' => compPost C.M C.A NoE none (Gv (C.Z Zo ω) s K) acc C') ok co hs1 i1 hit hlim g hel fun Dl Cn h₂ tk m vs htk fD fC hDC hn hk hl hvs => ?_
  refine ⟨m, hn, fun h₃ hs₃ => ?_⟩
  have k03 : KG (C.Z Zo ω) s₁.heap h₃ := hk.after fun b o o' e e' => (hs₃.2 b (by rintro rfl; rw [fC] at e; cases e)).trans e'
  refine ⟨k1.trans ⟨h₃, tk, rfl, k03, htk⟩, .list (its.filterMap g), .list (vs := vs) (fun q => ?_) ?_ ?_, hK⟩
  · obtain ⟨o, ho⟩ := hs1.live Dl q; rw [fD] at ho; cases ho
  · exact (hl.at fun o e => (hs₃.2 Dl hDC).trans e).isList
  · exact hvs.move fun b o hz e => ⟨fun q => hz (.inl q), (hs₃.2 b fun q => hz (.inr (.inr q))).trans e⟩

end Mine
end

section
namespace Mine

/-- parameters bound -/
structure Par (Z : Addr → Prop) (h : Heap) (binds : List (Str × Value)) (ρ : Loc) : Prop where
  names : binds.map (·.1) = ρ.map (·.1)
  vals : IsAll Z h (binds.map (·.2)) (ρ.map (·.2))
  nodup : (ρ.map (·.1)).Nodup

theorem bindL_off {kindOf : Str → Option NameKind} {x : Str} : ∀ {r : List (Str × Value)} {m : Str → Option Value}, x ∉ r.map (·.1) → bindL kindOf r m x = m x
  | [], _, _ => rfl
  | (n, v) :: r, m, h => by
    have h1 : x ≠ n := fun e => h (by simp [e])
    have h2 : x ∉ r.map (·.1) := fun e => h (List.mem_cons_of_mem _ e)
    unfold bindL
    rw [bindL_off h2]
    split
    · simp [h1]
    · rfl
theorem bindC_off {kindOf : Str → Option NameKind} {x : Str} : ∀ {r : List (Str × Value)} {m : Str → Option Value}, x ∉ r.map (·.1) → bindC kindOf r m x = m x
  | [], _, _ => rfl
  | (n, v) :: r, m, h => by
    have h1 : x ≠ n := fun e => h (by simp [e])
    have h2 : x ∉ r.map (·.1) := fun e => h (List.mem_cons_of_mem _ e)
    unfold bindC
    rw [bindC_off h2]
    split
    · rfl
    · simp [h1]
theorem bindL_get {kindOf : Str → Option NameKind} {Z : Addr → Prop} {h : Heap} {x : Str} {d : D} (hk : kindOf x = some .local) : ∀ {binds : List (Str × Value)} {ρ : Loc} {m : Str → Option Value}, Par Z h binds ρ → get ρ x = some d → ∃ v, bindL kindOf binds m x = some v ∧ Is Z h v d
  | [], ρ, m, p, hg => by
    have := p.names
    cases ρ with
    | nil => cases hg
    | cons a b => simp at this
  | (n, v) :: r, ρ, m, p, hg => by
    cases ρ with
    | nil => cases hg
    | cons q ρ =>
      obtain ⟨y, e⟩ := q
      have hn := p.names
      simp only [List.map_cons, List.cons.injEq] at hn
      have hv := p.vals
      simp only [List.map_cons] at hv
      cases hv with
      | cons a b =>
        have hnd := p.nodup
        simp only [List.map_cons, List.nodup_cons] at hnd
        simp only [get] at hg
        by_cases hxy : x = y
        · rw [if_pos hxy] at hg
          cases hg
          refine ⟨v, ?_, a⟩
          unfold bindL
          have hoff : x ∉ r.map (·.1) := by rw [hn.2, hxy]; exact hnd.1
          rw [bindL_off hoff, hn.1, ← hxy, if_pos hk]; simp
        · rw [if_neg hxy] at hg
          unfold bindL
          exact bindL_get hk ⟨hn.2, b, hnd.2⟩ hg
theorem bindC_get {kindOf : Str → Option NameKind} {Z : Addr → Prop} {h : Heap} {x : Str} {d : D} (hk : kindOf x ≠ some .local) : ∀ {binds : List (Str × Value)} {ρ : Loc} {m : Str → Option Value}, Par Z h binds ρ → get ρ x = some d → ∃ v, bindC kindOf binds m x = some v ∧ Is Z h v d
  | [], ρ, m, p, hg => by
    have := p.names
    cases ρ with
    | nil => cases hg
    | cons a b => simp at this
  | (n, v) :: r, ρ, m, p, hg => by
    cases ρ with
    | nil => cases hg
    | cons q ρ =>
      obtain ⟨y, e⟩ := q
      have hn := p.names
      simp only [List.map_cons, List.cons.injEq] at hn
      have hv := p.vals
      simp only [List.map_cons] at hv
      cases hv with
      | cons a b =>
        have hnd := p.nodup
        simp only [List.map_cons, List.nodup_cons] at hnd
        simp only [get] at hg
        by_cases hxy : x = y
        · rw [if_pos hxy] at hg
          cases hg
          refine ⟨v, ?_, a⟩
          unfold bindC
          have hoff : x ∉ r.map (·.1) := by rw [hn.2, hxy]; exact hnd.1
          rw [bindC_off hoff, hn.1, ← hxy, if_neg hk]; simp
        · rw [if_neg hxy] at hg
          unfold bindC
          exact bindC_get hk ⟨hn.2, b, hnd.2⟩ hg

theorem get_mem {ρ : Loc} {y : Str} {d : D} (hy : get ρ y = some d) : y ∈ ρ.map (·.1) := by
  induction ρ with
  | nil => cases hy
  | cons p r ih =>
    obtain ⟨z, e⟩ := p
    simp only [get] at hy
    by_cases q : y = z
    · simp [q]
    · rw [if_neg q] at hy; exact List.mem_cons_of_mem _ (ih hy)
theorem Room.deeper {A : Around} {l : Nat} {env : Env} (r : Room A (l + 1)) : Room (A.deeper env) l :=
  ⟨r.hd, by show A.depth + 1 + l < 900; have := r.depth; omega, by show A.units + 3 + 10 * l < 9000; have := r.units; omega⟩
theorem Room.le {A : Around} {l l' : Nat} (r : Room A l) (h : l' ≤ l) : Room A l' := ⟨r.hd, by have := r.depth; omega, by have := r.units; omega⟩

/-- the context within a call -/
@[reducible] def Cx.into (C : Cx) (fd : FuncData) (f L : Addr) : Cx := { C with A := C.A.deeper (callEnvC fd L f), env := callEnvC fd L f }

structure FnOk (C : Cx) (f : Addr) (fd : FuncData) (body : List Stmt) : Prop where
  at_ : ∃ o, C.h₀.get? f = some o ∧ o.data = .func fd
  code : C.h₀.CodeRec fd.code fd.qualname
  body : fd.body = .stmts body
  clo : fd.closure = []
  gl : fd.globals = mainGlobals
  bl : fd.builtins = builtinsNs
  co : fd.scope.isCoroutine = false
  gen : fd.scope.isGenerator = false
  kind : fd.scope.kind = .function

/-- a program's ground -/
structure Ground0 (C : Cx) : Prop where
  g : C.h₀.Ns mainGlobals C.mg
  b : C.h₀.Ns builtinsNs C.mb
  nolimit : C.h₀.NoLimit

theorem Ground0.ok {C : Cx} {f L : Addr} {fd : FuncData} {body : List Stmt} {l : Nat} (G : Ground0 C) (fo : FnOk C f fd body) (room : Room C.A (l + 1)) : (C.into fd f L).Ok l :=
  ⟨room.deeper, fo.kind, fo.gl, fo.bl, G.g, G.b, G.nolimit⟩

/-- what stands under the law's own call: nothing is known of the tokens -/
structure Und0 (C : Cx) (Z : Addr → Prop) (s : Shared) : Prop where
  live : Live Z s.heap
  base : ∀ b o, C.h₀.get? b = some o → s.heap.get? b = some o
  new : ∀ a, Z a → C.h₀.get? a = none
  fr : FrOk C Z s.heap
theorem Und.to0 {C : Cx} {Z : Addr → Prop} {s : Shared} (U : Und C Z s) : Und0 C Z s := ⟨U.live, U.base, U.new, U.fr⟩
section
variable {M : Model} {A : Around} {E : Value → Shared → Prop} {s : Shared}
/-- a frame whose first parameter is a plain name has drawn a token -/
theorem frame_tok {scope : Scope} {globals : Addr} {n : Str} {v : Value} {binds : List (Str × Value)} {qual : Str} {func : Option Addr} {code : Value} {builtins : Addr} {Q : Env → Shared → Prop}
    (hk : scope.kind = .function) (hl : scope.names.lookup n = some .local)
    (hkind : ∀ x ∈ (n, v) :: binds, scope.names.lookup x.1 = some .local ∨ (scope.names.lookup x.1 = some .cell ∧ ((cellsFrom (s.heap.objs.size + 1) scope.names []).lookup x.1).isSome = true))
    (hQ : ∀ env, env = newEnv scope s.heap.objs.size globals (cellsFrom (s.heap.objs.size + 1) scope.names []) qual func code none builtins →
      ∀ s', InCallC s env.locals (bindL env.kindOf ((n, v) :: binds) fun _ => none) env.cells (bindC env.kindOf ((n, v) :: binds) fun _ => none) s' → 0 < s'.toks → Q env s') :
    wpAny M A (newFunctionEnv scope globals [] ((n, v) :: binds) qual func code none builtins) Q E s := by
  unfold newFunctionEnv
  dsimp only [Option.isSome_none]
  refine wpAny_bind (wpAny_alloc ?_)
  refine wpAny_bind (wpAny_layCells _ (fun name kind cells => by cases hkc : kind == NameKind.cell <;> simp [hkc]) _ _ _ _ ?_)
  have ok := cellsFrom_ok scope.names (s.heap.push { cls := .type "frame", data := .dict #[] }) (s.heap.objs.size + 1) [] ⟨fun _ _ hm => (nomatch hm), List.Pairwise.nil⟩ (by rw [Heap.size_push]; exact Nat.le_refl _)
  rw [Heap.size_push] at ok
  rw [show ({ s with heap := s.heap.push { cls := .type (if false = true then "dict" else "frame"), data := .dict #[] } } : Shared).heap.objs.size = s.heap.objs.size + 1 from Heap.size_push ..]
  dsimp only
  generalize hE : newEnv scope s.heap.objs.size globals (cellsFrom (s.heap.objs.size + 1) scope.names []) qual func code none builtins = env at hQ
  have x0 : InCallC s env.locals (fun _ => none) env.cells (fun _ => none) { s with heap := pushCells (s.heap.push { cls := .type "frame", data := .dict #[] }) scope.names } := by
    subst hE
    exact ⟨⟨⟨_, _, rfl⟩, (Heap.Ns.new s.heap (.type "frame")).keeps (pushCells_keeps _ _), fun b o e => pushCells_keeps _ _ b o (Heap.get?_push_of_some _ e), Nat.le_refl _⟩,
      fun n c hc => (ok.empty n c (mem_of_lookup hc)).1, ok.apart, fun n c hm => (ok.empty n c hm).2⟩
  have hke : env.scope.kind = .function := by subst hE; exact hk
  have hle : env.kindOf n = some .local := by subst hE; exact hl
  have hkb : ∀ y ∈ binds, env.kindOf y.1 = some .local ∨ (env.kindOf y.1 = some .cell ∧ (env.cells.lookup y.1).isSome = true) := fun y hy => by subst hE; exact hkind y (List.mem_cons_of_mem _ hy)
  refine wpAny_bind ?_
  rw [List.forIn_cons]
  show wpAny M A ((storeName (newEnv scope s.heap.objs.size globals (cellsFrom (s.heap.objs.size + 1) scope.names []) qual func code none builtins) n v >>= fun _ => pure (ForInStep.yield PUnit.unit)) >>= _) _ _ _
  rw [hE]
  refine wpAny_bind (wpAny_bind (wpAny_storeName_local hle x0.toInCall.ns (fun h' hn' hs' => wpAny_pure ?_) (by rw [hke]; rfl)))
  have x1 : InCallC s env.locals (fun y => if y = n then some v else none) env.cells (fun _ => none) { s with heap := h', toks := s.toks + 1 } := ⟨⟨⟨h', _, rfl⟩, hn', fun b o e => hs'.extBut b o (Nat.ne_of_lt (Nat.lt_of_lt_of_le (Heap.lt_size e) x0.toInCall.fresh)) (x0.toInCall.keep b o e), x0.toInCall.fresh⟩,
    fun k c hc => (x0.cell k c hc).sameBut hs' (Nat.ne_of_gt (x0.above k c (mem_of_lookup hc))), x0.apart, x0.above⟩
  refine wpAny_free (wpAny_bindParams (s₀ := s) (env := env) _ (fun _ _ _ => by rw [← hE]; rfl) hke binds _ _ _ _ x1 hkb fun s' x' htk => wpAny_pure ?_)
  have hE' : ({ scope := scope, locals := s.heap.objs.size, globals := globals, cells := cellsFrom (s.heap.objs.size + 1) scope.names [], qual := qual, func := func, code := code, frame := some s.heap.objs.size, builtins := builtins } : Env) = env := hE
  rw [hE']
  refine hQ env rfl s' ?_ (Nat.lt_of_lt_of_le (Nat.succ_pos _) htk)
  unfold bindL bindC
  rw [if_pos hle, if_pos hle]
  exact x'
end
structure CodeC (C : Cx) (f : Value) (as : List D) (K : D → Prop) : Prop where
  run : ∀ {Z : Addr → Prop} s vs, Und0 C Z s → IsAll Z s.heap vs as → codeAny C.M C.A (.call f ⟨vs, []⟩) (fun r s' => ∃ v, r = .ok (.ret v) ∧ Gv Z s K v s') s
theorem enterG {C : Cx} {Z : Addr → Prop} {s : Shared} {vs : List Value} {f : Addr} {fd : FuncData} {body : List Stmt} {l : Nat} {as : List D} {K : D → Prop} (G : Ground0 C) (fo : FnOk C f fd body) (room : Room C.A (l + 1)) (ρ : Loc)
    (hbind : ∀ (Z : Addr → Prop) s vs, Und0 C Z s → IsAll Z s.heap vs as → ∃ binds, BindsTo s fd ⟨vs, []⟩ binds ∧ Par Z s.heap binds ρ)
    (hkind : ∀ n, ∀ x ∈ ρ.map (·.1), fd.scope.names.lookup x = some .local ∨ (fd.scope.names.lookup x = some .cell ∧ ((cellsFrom n fd.scope.names []).lookup x).isSome = true))
    (h : ∀ L, Exs (C.into fd f L) ρ [] body (fun fl _ _ => match fl with | .ret d => K d | .next => K .none | _ => False))
    (U : Und0 C Z s) (ia : IsAll Z s.heap vs as) (ht : 0 < s.toks ∨ ∃ n d r, ρ = (n, d) :: r ∧ fd.scope.names.lookup n = some .local) : codeAny C.M C.A (.call (.ref f) ⟨vs, []⟩) (fun r s' => ∃ v, r = .ok (.ret v) ∧ Gv Z s K v s') s := by
  have live := U.live
  obtain ⟨o, ho, hdata⟩ := fo.at_
  obtain ⟨binds, hb, par⟩ := hbind Z s vs U ia
  refine codeAny_call_function (by have := room.depth; show C.A.depth < 1000; omega) (U.base _ _ ho) hdata fo.co fo.gen fo.body ?_ (hb _ _ _ _ ?_)
  · obtain ⟨c, oc, ws, t, e1, e2, e3⟩ := fo.code
    exact ⟨c, oc, ws, t, e1, U.base _ _ e2, e3⟩
  rw [fo.clo]
  have hkb : ∀ x ∈ binds, fd.scope.names.lookup x.1 = some .local ∨ (fd.scope.names.lookup x.1 = some .cell ∧ ((cellsFrom (s.heap.objs.size + 1) fd.scope.names []).lookup x.1).isSome = true) := fun x hx => hkind _ x.1 (by rw [← par.names]; exact List.mem_map.mpr ⟨x, hx, rfl⟩)
  refine (fun main => ht.elim (fun ht => wpAny_free (wpAny_newFunctionEnv_cells fo.kind hkb fun env he s₁ x hltk => main env he s₁ x hltk (Nat.lt_of_lt_of_le ht hltk))) (fun ⟨n, d, r, e, hl⟩ => ?_) :
    (∀ env, env = newEnv fd.scope s.heap.objs.size fd.globals (cellsFrom (s.heap.objs.size + 1) fd.scope.names []) (fd.qualname ++ ".<locals>.") (some f) fd.code none fd.builtins → ∀ s₁, InCallC s env.locals (bindL env.kindOf binds fun _ => none) env.cells (bindC env.kindOf binds fun _ => none) s₁ → s.toks ≤ s₁.toks → 0 < s₁.toks → _) → _) ?_
  · have hn := par.names
    rw [e] at hn
    cases binds with
    | nil => cases hn
    | cons p bs =>
      obtain ⟨n', v⟩ := p
      simp only [List.map_cons, List.cons.injEq] at hn
      obtain ⟨rfl, _⟩ := hn
      exact wpAny_free (frame_tok fo.kind hl hkb fun env he s₁ x htok hltk => main env he s₁ x hltk htok)
  intro env he s₁ x hltk htok
  have henv : env = callEnvC fd s.heap.objs.size f := he
  subst henv
  refine ⟨(G.nolimit.keeps U.base).keeps x.toInCall.keep, codeAny_func ?_⟩
  have hkeep := x.toInCall.keep
  obtain ⟨hh, tk, es⟩ := x.toInCall.same
  have hL : s.heap.get? (callEnvC fd s.heap.objs.size f).locals = none := size_none _
  have hmu : ∀ a, (C.into fd f s.heap.objs.size).Mu [] a → s.heap.get? a = none := by
    rintro a (q | ⟨y, q⟩ | q)
    · rw [q]; exact hL
    · cases e : s.heap.get? a with
      | none => rfl
      | some o =>
        have h1 := x.above y a (mem_of_lookup q)
        have h2 := Heap.lt_size e
        exact absurd (Nat.lt_trans h2 h1) (Nat.lt_irrefl _)
    · cases q
  have mv : ∀ b o, ¬ Z b → s.heap.get? b = some o → ¬ (C.into fd f s.heap.objs.size).Z Z [] b ∧ s₁.heap.get? b = some o := fun b o hz e =>
    ⟨fun q => q.elim hz fun q => (by rw [hmu b q] at e; cases e), hkeep b o e⟩
  have hs1 : Sta (C.into fd f s.heap.objs.size) Z ρ [] s₁ := by
    refine ⟨fun b o e => hkeep b o (U.base b o e), ?_, ⟨_, x.toInCall.ns, fun y d hy hl => ?_⟩, fun y d hy hl => ?_, fun y c hy => ?_, fun y z c hy hz => ?_, (fun p hp => by cases hp), List.nodup_nil, (fun a ha => by cases ha), live.keeps hkeep, htok, ?_⟩
    · rintro a (q | q)
      · exact U.new a q
      · cases e : C.h₀.get? a with
        | none => rfl
        | some o => have := U.base a o e; rw [hmu a q] at this; cases this
    · obtain ⟨v, h1, h2⟩ := bindL_get (kindOf := (callEnvC fd s.heap.objs.size f).kindOf) hl (m := fun _ => none) par hy
      exact ⟨v, h1, h2.move mv⟩
    · have hnl : (callEnvC fd s.heap.objs.size f).kindOf y ≠ some .local := fun q => by
        have hl' : (callEnvC fd s.heap.objs.size f).kindOf y = some .cell ∨ (callEnvC fd s.heap.objs.size f).kindOf y = some .free := hl
        rw [q] at hl'; rcases hl' with h | h <;> cases h
      obtain ⟨v, h1, h2⟩ := bindC_get (kindOf := (callEnvC fd s.heap.objs.size f).kindOf) hnl (m := fun _ => none) par hy
      have hyr : y ∈ ρ.map (·.1) := get_mem hy
      rcases hkind (s.heap.objs.size + 1) y hyr with q | ⟨q, qc⟩
      · exact absurd q hnl
      · obtain ⟨c, hc⟩ := Option.isSome_iff_exists.mp qc
        have := x.cell y c hc
        rw [h1] at this
        exact ⟨c, v, hc, this, h2.move mv⟩
    · exact ⟨_, x.cell y c hy⟩
    · exact name_of_addr x.apart (mem_of_lookup hy) (mem_of_lookup hz)
    · obtain ⟨lf, hlf, ff⟩ := U.fr
      refine ⟨callEnvC fd s.heap.objs.size f :: lf, by show C.A.frames.map _ = _; rw [hlf]; rfl, fun e he => ?_⟩
      rcases List.mem_cons.mp he with rfl | he
      · obtain ⟨o', es, ep, ho', hd', _⟩ := x.toInCall.ns
        refine ⟨fun q => ?_, s.heap.objs.size, o', rfl, .inr rfl, ho', es, ep, hd'⟩
        have : fd.scope.kind = .module := q
        rw [fo.kind] at this; cases this
      · obtain ⟨q1, L, o', q2, q3, q4, q5⟩ := ff e he
        exact ⟨q1, L, o', q2, .inl q3, hkeep _ _ q4, q5⟩
  refine wpAny_mono ((h s.heap.objs.size).run s₁ hs1) (fun fl s' out => ?_) fun _ _ e => e.elim
  obtain ⟨fl', ρ', ω', hf, hs', st, hK⟩ := out
  have kp : Kp Z s s' := by
    obtain ⟨h2, t2, e2, l2⟩ := st.same
    refine ⟨h2, t2, by rw [e2, es], fun b o e => ?_, Nat.le_trans hltk l2⟩
    have h3 := st.keep b o (fun q => by rw [hmu b q] at e; cases e) (hkeep b o e)
    rw [e2] at h3; exact h3
  cases fl' with
  | ret d => cases fl with
    | ret v =>
      have hf' : Is ((C.into fd f s.heap.objs.size).Z Z ω') s'.heap v d := hf
      exact ⟨_, rfl, kp, d, hf'.move fun b o hz e => ⟨fun q => hz (.inl q), e⟩, hK⟩
    | _ => exact hf.elim
  | next => cases fl with
    | next => exact ⟨_, rfl, kp, .none, .none, hK⟩
    | _ => exact hf.elim
  | brk => exact hK.elim
  | cont => exact hK.elim
theorem enterK {C : Cx} {f : Addr} {fd : FuncData} {body : List Stmt} {l : Nat} {as : List D} {K : D → Prop} (G : Ground0 C) (fo : FnOk C f fd body) (room : Room C.A (l + 1)) (ρ : Loc)
    (hbind : ∀ (Z : Addr → Prop) s vs, Und0 C Z s → IsAll Z s.heap vs as → ∃ binds, BindsTo s fd ⟨vs, []⟩ binds ∧ Par Z s.heap binds ρ)
    (hkind : ∀ n, ∀ x ∈ ρ.map (·.1), fd.scope.names.lookup x = some .local ∨ (fd.scope.names.lookup x = some .cell ∧ ((cellsFrom n fd.scope.names []).lookup x).isSome = true))
    (hfirst : ∃ n d r, ρ = (n, d) :: r ∧ fd.scope.names.lookup n = some .local)
    (h : ∀ L, Exs (C.into fd f L) ρ [] body (fun fl _ _ => match fl with | .ret d => K d | .next => K .none | _ => False)) : CodeC C (.ref f) as K := .mk fun {Z} s vs U ia => enterG G fo room ρ hbind hkind h U ia (.inr hfirst)
theorem enter {C : Cx} {f : Addr} {fd : FuncData} {body : List Stmt} {l : Nat} {as : List D} {K : D → Prop} (G : Ground0 C) (fo : FnOk C f fd body) (room : Room C.A (l + 1)) (ρ : Loc)
    (hbind : ∀ (Z : Addr → Prop) s vs, Und0 C Z s → IsAll Z s.heap vs as → ∃ binds, BindsTo s fd ⟨vs, []⟩ binds ∧ Par Z s.heap binds ρ)
    (hkind : ∀ n, ∀ x ∈ ρ.map (·.1), fd.scope.names.lookup x = some .local ∨ (fd.scope.names.lookup x = some .cell ∧ ((cellsFrom n fd.scope.names []).lookup x).isSome = true))
    (h : ∀ L, Exs (C.into fd f L) ρ [] body (fun fl _ _ => match fl with | .ret d => K d | .next => K .none | _ => False)) : DoC C (.ref f) as K := .mk fun {Z} s vs U ia =>
  wpAny_call (codeAny_mono (enterG G fo room ρ hbind hkind h U.to0 ia (.inl U.tok)) fun r s' ⟨v, e, g⟩ => by subst e; exact g)
end Mine
namespace Mine
/-- two contexts of one program -/
structure Kin (C C' : Cx) : Prop where
  prog : C'.prog = C.prog
  w : C'.w = C.w
  h₀ : C'.h₀ = C.h₀
  mg : C'.mg = C.mg
  mb : C'.mb = C.mb
theorem enter' {C : Cx} {f : Addr} {fd : FuncData} {body : List Stmt} {l : Nat} {as : List D} {K : D → Prop} (G : Ground0 C) (room : Room C.A (l + 1)) (ρ : Loc) (fo : FnOk C f fd body)
    (hbind : ∀ (Z : Addr → Prop) s vs, Und0 C Z s → IsAll Z s.heap vs as → ∃ binds, BindsTo s fd ⟨vs, []⟩ binds ∧ Par Z s.heap binds ρ)
    (hkind : ∀ n, ∀ x ∈ ρ.map (·.1), fd.scope.names.lookup x = some .local ∨ (fd.scope.names.lookup x = some .cell ∧ ((cellsFrom n fd.scope.names []).lookup x).isSome = true))
    (h : ∀ C', C'.Ok l → Kin C C' → C'.env.scope.names = fd.scope.names → (∀ n, n = C'.env.locals → C'.env.cells = cellsFrom (n + 1) fd.scope.names []) → Exs C' ρ [] body (fun fl _ _ => match fl with | .ret d => K d | .next => K .none | _ => False)) : DoC C (.ref f) as K :=
  enter G fo room ρ hbind hkind fun L => h _ (G.ok fo room) ⟨rfl, rfl, rfl, rfl, rfl⟩ rfl fun n hn => by subst hn; rfl
theorem enterK' {C : Cx} {f : Addr} {fd : FuncData} {body : List Stmt} {l : Nat} {as : List D} {K : D → Prop} (G : Ground0 C) (room : Room C.A (l + 1)) (ρ : Loc) (fo : FnOk C f fd body)
    (hbind : ∀ (Z : Addr → Prop) s vs, Und0 C Z s → IsAll Z s.heap vs as → ∃ binds, BindsTo s fd ⟨vs, []⟩ binds ∧ Par Z s.heap binds ρ)
    (hkind : ∀ n, ∀ x ∈ ρ.map (·.1), fd.scope.names.lookup x = some .local ∨ (fd.scope.names.lookup x = some .cell ∧ ((cellsFrom n fd.scope.names []).lookup x).isSome = true))
    (hfirst : ∃ n d r, ρ = (n, d) :: r ∧ fd.scope.names.lookup n = some .local)
    (h : ∀ C', C'.Ok l → Kin C C' → C'.env.scope.names = fd.scope.names → (∀ n, n = C'.env.locals → C'.env.cells = cellsFrom (n + 1) fd.scope.names []) → Exs C' ρ [] body (fun fl _ _ => match fl with | .ret d => K d | .next => K .none | _ => False)) : CodeC C (.ref f) as K :=
  enterK G fo room ρ hbind hkind hfirst fun L => h _ (G.ok fo room) ⟨rfl, rfl, rfl, rfl, rfl⟩ rfl fun n hn => by subst hn; rfl
theorem ints_all {Z : Addr → Prop} {h : Heap} : ∀ {vs : List Value} {ns : List Int}, IntsAre vs ns → IsAll Z h vs (ns.map .int)
  | _, _, .nil => .nil
  | _, _, .cons _ _ x => .cons .int (ints_all x)
/-- a law's call, under the claim's caller -/
theorem law_run {prog : Program} {w : World} {s₁ : Shared} {fa la : Addr} {vs : List Value} {ns : List Int} {mg mb : Str → Option Value} {env : Env} {R : Result → Shared → Prop}
    (h : CodeC ⟨prog, w, callerA, env, s₁.heap, mg, mb⟩ (.ref fa) [.list (ns.map .int)] (fun d => d = .bool true)) (hL : s₁.heap.IsList la vs.toArray) (hI : IntsAre vs ns)
    (hR : ∀ s', Kp (fun _ => False) s₁ s' → R (.ok (.ret (.bool true))) s') : codeAny (model prog w) callerA (.call (.ref fa) ⟨[.ref la], []⟩) R s₁ := by
  refine codeAny_mono (h.run (Z := fun _ => False) s₁ [.ref la] ⟨(fun _ h => h.elim), (fun _ _ e => e), (fun _ h => h.elim), ⟨[], rfl, fun _ h => nomatch h⟩⟩ (.one (.list (fun h => h) hL (ints_all hI)))) fun r s' x => ?_
  obtain ⟨v, rfl, k, d, i, rfl⟩ := x
  cases i
  exact hR s' k
end Mine
end

section
namespace Mine

theorem mkS_append (x y : List Nat) : mkS x ++ mkS y = mkS (x ++ y) := by
  show Str.mk (x.toArray ++ y.toArray) = _
  simp [mkS]
theorem mkS_length (x : List Nat) : (mkS x).length = x.length := by simp [Str.length]
theorem mkS_beq (x y : List Nat) : (mkS x == mkS y) = decide (x = y) := by
  by_cases h : x = y
  · subst h; simp
  · simp only [h, decide_false, beq_eq_false_iff_ne, ne_eq, mkS, Str.mk.injEq]
    intro e; exact h (by simpa using e)

section
variable {C : Cx} {l : Nat} {K : D → Prop} {a b : Int} {x y : List Nat}

theorem do_add_int (h : K (.int (a + b))) : Do2 C (binaryOp .Add) (.int a) (.int b) K := .mk fun s v w U i j => by
  cases i; cases j; exact PyProof.Rows.add_int ⟨Kp.tok _ _, _, .int, h⟩
theorem do_fdiv_int (h0 : 0 < b) (hb : b < 1073741824) (h : K (.int (a / b))) : Do2 C (binaryOp .FloorDiv) (.int a) (.int b) K := .mk fun s v w U i j => by
  cases i; cases j
  refine PyProof.Rows.floordiv_int (by omega) ⟨Kp.tok _ _, _, .int, ?_⟩ (.inl (PyProof.noPylong_small (by omega)))
  rw [Int.fdiv_eq_ediv_of_nonneg _ (by omega)]; exact h
theorem do_mod_int (h0 : 0 < b) (hb : b < 1073741824) (h : K (.int (a % b))) : Do2 C (binaryOp .Mod) (.int a) (.int b) K := .mk fun s v w U i j => by
  cases i; cases j
  refine PyProof.Rows.mod_int' (by omega) ⟨Kp.tok _ _, _, .int, ?_⟩ 
  rw [Int.fmod_eq_emod_of_nonneg _ (by omega)]; exact h
theorem do_add_str (hl : x.length + y.length ≤ lim) (h : K (.str (x ++ y))) : Do2 C (binaryOp .Add) (.str x) (.str y) K := .mk fun s v w U i j => by
  cases i; cases j
  exact wpAny_free (PyProof.Rows.add_str (fun t' tk htk => ⟨Kp.tok _ _ htk, _, by rw [mkS_append]; exact .str, h⟩) (by rw [mkS_length, mkS_length]; exact lim_le hl))
theorem do_iadd_str (hl : x.length + y.length ≤ lim) (h : K (.str (x ++ y))) : Do2 C (inplaceOp .Add) (.str x) (.str y) K := .mk fun s v w U i j => by
  cases i; cases j
  exact wpAny_free (PyProof.Rows.iadd_str (fun t' tk htk => ⟨Kp.tok _ _ htk, _, by rw [mkS_append]; exact .str, h⟩) (by rw [mkS_length, mkS_length]; exact lim_le hl))
theorem do_iadd_int (h : K (.int (a + b))) : Do2 C (inplaceOp .Add) (.int a) (.int b) K := .mk fun s v w U i j => by
  cases i; cases j; exact PyProof.Rows.iadd_int ⟨Kp.tok _ _, _, .int, h⟩
theorem do_eq_int (h : K (.bool (decide (a = b)))) : Do2 C (compareOp .Eq) (.int a) (.int b) K := .mk fun s v w U i j => by
  cases i; cases j; exact PyProof.Rows.eq_int ⟨Kp.refl _, _, .bool, by rw [show (a == b) = decide (a = b) from rfl]; exact h⟩
theorem do_ne_int (h : K (.bool (decide (a ≠ b)))) : Do2 C (compareOp .NotEq) (.int a) (.int b) K := .mk fun s v w U i j => by
  cases i; cases j; exact PyProof.Rows.ne_int ⟨Kp.refl _, _, .bool, by rw [show (a != b) = decide (a ≠ b) from by simp [bne, decide_not]; rfl]; exact h⟩
theorem do_lt_int (h : K (.bool (decide (a < b)))) : Do2 C (compareOp .Lt) (.int a) (.int b) K := .mk fun s v w U i j => by
  cases i; cases j; exact PyProof.Rows.lt_int ⟨Kp.refl _, _, .bool, h⟩
theorem do_gt_int (h : K (.bool (decide (b < a)))) : Do2 C (compareOp .Gt) (.int a) (.int b) K := .mk fun s v w U i j => by
  cases i; cases j; exact PyProof.Rows.gt_int ⟨Kp.refl _, _, .bool, h⟩
theorem do_eq_str (h : K (.bool (decide (x = y)))) : Do2 C (compareOp .Eq) (.str x) (.str y) K := .mk fun s v w U i j => by
  cases i; cases j; exact PyProof.Rows.eq_str ⟨Kp.refl _, _, .bool, by rw [mkS_beq]; exact h⟩
theorem do_ne_str (h : K (.bool (decide (x ≠ y)))) : Do2 C (compareOp .NotEq) (.str x) (.str y) K := .mk fun s v w U i j => by
  cases i; cases j; exact PyProof.Rows.ne_str ⟨Kp.refl _, _, .bool, by rw [bne, mkS_beq, ← decide_not]; exact h⟩
theorem found_one (x : List Nat) (c : Nat) : (!(Builtin.Str.occurrences (mkS x) (mkS [c]) 0 (mkS x).length 1).isEmpty) = decide (c ∈ x) := by
  have := StrLaws.found_one (mkS x) c
  simpa using this
theorem do_in_str {c : Nat} (h : K (.bool (decide (c ∈ x)))) : Do2 C (compareOp .In) (.str [c]) (.str x) K := .mk fun s v w U i j => by
  cases i; cases j; exact PyProof.Rows.in_str ⟨Kp.refl _, _, .bool, by rw [found_one]; exact h⟩
theorem do_notin_str {c : Nat} (h : K (.bool (decide (c ∉ x)))) : Do2 C (compareOp .NotIn) (.str [c]) (.str x) K := .mk fun s v w U i j => by
  cases i; cases j; exact PyProof.Rows.notIn_str ⟨Kp.refl _, _, .bool, by rw [found_one, ← decide_not]; exact h⟩
theorem do_neg_int (h : K (.int (-a))) : Do1 C (unaryOp .USub) (.int a) K := .mk fun s v U i => by
  cases i; exact PyProof.Rows.neg_int ⟨Kp.tok _ _, _, .int, h⟩
theorem tr_bool {c : Bool} {K : Bool → Prop} (h : K c) : Tr1 C (.bool c) K := .mk fun s v U i => by
  cases i; exact wpAny_truthy_bool ⟨Kp.refl _, h⟩
theorem tr_str (hl : x.length ≤ lim) {K : Bool → Prop} (h : K (decide (x ≠ []))) : Tr1 C (.str x) K := .mk fun s v U i => by
  cases i
  simp only [lim] at hl
  refine SBL.truthy (by rw [mkS_length]; omega) ⟨Kp.tok _ _, ?_⟩
  rw [mkS_length]
  have : ((x.length : Int) != 0) = decide (x ≠ []) := by cases x <;> simp <;> omega
  rw [this]; exact h
end
end Mine
end

section
namespace Mine

/-- a text's lines -/
def linesGo : List Nat → Bool → List Nat → List (List Nat)
  | cur, _, [] => if cur = [] then [] else [cur]
  | cur, cr, c :: r =>
    if cr = true ∧ c = 10 then linesGo cur false r
    else if Unicode.isLineBreak c = true then cur :: linesGo [] (decide (c = 13)) r
    else linesGo (cur ++ [c]) false r
def linesL (l : List Nat) : List (List Nat) := linesGo [] false l

theorem linesGo_cr {cur : List Nat} {r : List Nat} (h : r.head? ≠ some 10) : linesGo cur true r = linesGo cur false r := by
  cases r with
  | nil => rfl
  | cons c r =>
    have hc : c ≠ 10 := fun e => h (by simp [e])
    simp only [linesGo, hc, and_false, if_false, Bool.false_eq_true, false_and]

open StrLaws in
theorem ls_lines (l : List Nat) : ∀ (m cur : Nat) (st : LsSt), cur + m = l.length → st.2 ≤ cur + 1 → (cur < st.2 → l[cur]? = some 10) →
    (lsEnd (mkS l) (Id.run (forIn (m := Id) (List.range' cur m) st (lsBody (mkS l))))).map (fun p => Builtin.Str.strSub (mkS l) p.1 p.2.1) =
      st.1.toList.map (fun p => Builtin.Str.strSub (mkS l) p.1 p.2.1) ++ (linesGo ((l.take cur).drop st.2) (decide (cur < st.2)) (l.drop cur)).map mkS
  | 0, cur, (lines, start), hm, h1, h2 => by
    have hcur : cur = l.length := by omega
    subst hcur
    simp only [List.range'_zero, List.forIn_nil, Id.run, pure, lsEnd, mkS_length, List.take_length, List.drop_length, linesGo]
    by_cases hs : start < l.length
    · have : l.drop start ≠ [] := by intro e; have := congrArg List.length e; simp at this; omega
      simp [hs, this, Builtin.Str.strSub, mkS]
      exact List.take_of_length_le (by simp)
    · have : l.drop start = [] := List.drop_of_length_le (by omega)
      simp [hs, this]
  | m + 1, cur, (lines, start), hm, h1, h2 => by
    have hlt : cur < l.length := by omega
    rw [List.range'_succ, List.forIn_cons]
    have hget : (mkS l).cps.getD cur 0 = l[cur] := by simp [mkS, Array.getD, hlt]
    have hdrop : l.drop cur = l[cur] :: l.drop (cur + 1) := List.drop_eq_getElem_cons hlt
    have htake : l.take (cur + 1) = l.take cur ++ [l[cur]] := by rw [List.take_succ_eq_append_getElem hlt]
    have a1 : start ≤ cur + 1 := h1
    have a2 : cur < start → l[cur]? = some 10 := h2
    unfold lsBody
    by_cases hst : start ≤ cur
    · have hn : ¬ cur < start := by omega
      by_cases hb : Unicode.isLineBreak l[cur] = true
      · simp only [hst, decide_true, Bool.true_and, hget, hb, if_true, pure_bind]
        have key := ls_lines l m (cur + 1) (lines.push (start, cur, lsNext (mkS l) cur), lsNext (mkS l) cur) (by omega) (by have := lsNext_bounds (mkS l) cur; show lsNext (mkS l) cur ≤ _; omega) ?_
        · refine key.trans ?_
          simp only [Array.toList_push, List.map_append, List.map_cons, List.map_nil, List.append_assoc]
          congr 1
          have e1 : Builtin.Str.strSub (mkS l) start cur = mkS ((l.take cur).drop start) := by
            apply congrArg Str.mk
            apply Array.ext'
            simp [mkS, List.drop_take]
          rw [e1, hdrop]
          simp only [hn, decide_false, linesGo, Bool.false_eq_true, false_and, if_false, hb, if_true, List.map_cons, List.singleton_append]
          congr 2
          have e2 : (l.take (cur + 1)).drop (lsNext (mkS l) cur) = [] := List.drop_of_length_le (by have := lsNext_bounds (mkS l) cur; simp; omega)
          rw [e2]
          unfold lsNext
          rw [hget]
          by_cases hc : l[cur] = 13
          · by_cases hd : (mkS l).cps[cur + 1]? = some 10
            · simp [hc, hd]
            · have hd' : (l.drop (cur + 1)).head? ≠ some 10 := by
                rw [List.head?_drop]; simpa [mkS] using hd
              simp only [hc, beq_self_eq_true, Bool.true_and, beq_iff_eq, hd, if_false, decide_true]
              rw [linesGo_cr hd']; simp
          · have : (l[cur] == 13) = false := by simpa using hc
            simp [this, hc]
        · show cur + 1 < lsNext (mkS l) cur → _
          intro hx
          unfold lsNext at hx
          split at hx
          · rename_i hq
            simp only [Bool.and_eq_true, beq_iff_eq] at hq
            simpa [mkS] using hq.2
          · omega
      · simp only [hst, decide_true, Bool.true_and, hget, hb, Bool.false_eq_true, if_false, pure_bind]
        have key := ls_lines l m (cur + 1) (lines, start) (by omega) (by show start ≤ _; omega) (fun hx => by have : cur + 1 < start := hx; omega)
        refine key.trans ?_
        congr 2
        rw [hdrop]
        have hn' : ¬ cur + 1 < start := by omega
        simp only [hn, hn', decide_false, linesGo, Bool.false_eq_true, false_and, if_false, hb]
        rw [htake, List.drop_append_of_le_length (by simp; omega)]
    · have hcs : cur < start := by omega
      have hs1 : start = cur + 1 := by omega
      have h10 : l[cur] = 10 := by have := a2 hcs; simpa [hlt] using this
      simp only [hst, decide_false, Bool.false_and, Bool.false_eq_true, if_false, pure_bind]
      have key := ls_lines l m (cur + 1) (lines, start) (by omega) (by show start ≤ _; omega) (fun hx => by have : cur + 1 < start := hx; omega)
      refine key.trans ?_
      congr 2
      rw [hdrop, h10]
      have hn' : ¬ cur + 1 < start := by omega
      simp only [hcs, hn', decide_false, decide_true, linesGo, and_self, if_true]
      congr 1
      rw [List.drop_of_length_le (by simp; omega), List.drop_of_length_le (by simp; omega)]
termination_by m => m

theorem linesOf_eq (l : List Nat) : linesOf (mkS l) = (linesL l).map mkS := by
  have h := ls_lines l l.length 0 (#[], 0) (by omega) (by show 0 ≤ 1; omega) (fun h => by have : 0 < 0 := h; omega)
  have e : linesOf (mkS l) = (Builtin.Str.lineSpans (mkS l)).map fun p => Builtin.Str.strSub (mkS l) p.1 p.2.1 := by
    unfold linesOf lineCuts
    rw [List.map_map]; rfl
  rw [e, StrLaws.ls_eq, mkS_length, h]
  simp [linesL]

def rstripL (l : List Nat) : List Nat := (l.reverse.dropWhile Unicode.isSpace).reverse
theorem rstrip_eq (l : List Nat) : Txt.rstrip (mkS l) = mkS (rstripL l) := by
  unfold Txt.rstrip
  rw [PyProof.Rows.stripBy_eq]
  apply congrArg Str.mk
  apply Array.ext'
  simp only [stripLo, stripHi, mkS_length, if_true, Bool.false_eq_true, if_false, List.drop_zero, mkS]
  simp only [List.extract_toArray, List.extract_eq_drop_take, List.drop_zero, Nat.sub_zero]
  unfold rstripL
  have h := List.takeWhile_append_dropWhile (p := Unicode.isSpace) (l := l.reverse)
  have e : l = (l.reverse.dropWhile Unicode.isSpace).reverse ++ (l.reverse.takeWhile Unicode.isSpace).reverse := by
    rw [← List.reverse_append, h, List.reverse_reverse]
  have hlen : l.length - (l.reverse.takeWhile Unicode.isSpace).length = (l.reverse.dropWhile Unicode.isSpace).reverse.length := by
    have := congrArg List.length e
    simp only [List.length_append, List.length_reverse] at this ⊢
    omega
  rw [hlen]
  conv => lhs; rw [e]
  simp
def endsL (x y : List Nat) : Bool := decide (y.length ≤ x.length) && decide (x.drop (x.length - y.length) = y)
theorem endswith_eq (x y : List Nat) : Txt.endswith (mkS x) (mkS y) = endsL x y := by
  unfold Txt.endswith endsL
  rw [StrLaws.subAt_eq, mkS_length, mkS_length, Nat.zero_add]
  by_cases h : y.length ≤ x.length
  · simp only [h, decide_true, Bool.true_and]
    have : (x.drop (x.length - y.length)).take y.length = x.drop (x.length - y.length) := List.take_of_length_le (by simp; omega)
    simp only [mkS, this]
    by_cases e : x.drop (x.length - y.length) = y <;> simp [e]
  · simp [h]
def joinL (sep : List Nat) : List (List Nat) → List Nat
  | [] => []
  | [x] => x
  | x :: y :: r => x ++ sep ++ joinL sep (y :: r)
theorem join_eq (sep : List Nat) : ∀ parts : List (List Nat), Txt.join (mkS sep) (parts.map mkS) = mkS (joinL sep parts) := by
  intro parts
  unfold Txt.join
  rw [StrLaws.glued_eq_join]
  induction parts with
  | nil => rfl
  | cons x r ih =>
    cases r with
    | nil => rfl
    | cons y r =>
      simp only [List.map_cons] at ih ⊢
      rw [Str.join, ih]
      · simp only [joinL, mkS_append]
      · simp
theorem joinL_nil (parts : List (List Nat)) : joinL [] parts = parts.flatten := by
  induction parts with
  | nil => rfl
  | cons x r ih =>
    cases r with
    | nil => simp [joinL]
    | cons y r => simp only [joinL, ih, List.append_nil, List.flatten_cons]

section
variable {C : Cx} {l : Nat} {K : D → Prop} {a b : Int} {x y : List Nat}
theorem doc_len_str (hl : x.length ≤ lim) (h : K (.int x.length)) : DoC C (.builtin "len") [.str x] K := .mk fun s vs U i => by
  cases i with | cons i j => cases j; cases i
                             simp only [lim] at hl
                             exact SBL.len (by rw [mkS_length]; omega) ⟨Kp.tok _ _, _, .int, by rw [mkS_length]; exact h⟩
theorem doc_ord {c : Nat} (h : K (.int c)) : DoC C (.builtin "ord") [.str [c]] K := .mk fun s vs U i => by
  cases i with | cons i j => cases j; cases i; exact ord_of_one rfl ⟨Kp.tok _ _, _, .int, h⟩
theorem doc_chr (h0 : 0 ≤ a) (h1 : a ≤ 1114111) (h : K (.str [a.toNat])) : DoC C (.builtin "chr") [.int a] K := .mk fun s vs U i => by
  cases i with | cons i j => cases j; cases i; exact chr_of_range h0 h1 ⟨Kp.tok _ _, _, .str, h⟩
theorem doc_rstrip (hl : x.length ≤ lim) (h : K (.str (rstripL x))) : DoC C (.builtin "str.rstrip") [.str x] K := .mk fun s vs U i => by
  cases i with | cons i j => cases j; cases i; exact wpAny_free (SC.rstrip (fun t' k htk => ⟨Kp.tok _ _ htk, _, by rw [rstrip_eq]; exact .str, h⟩) (by rw [mkS_length]; exact lim_le hl))
theorem doc_endswith (h : K (.bool (endsL x y))) : DoC C (.builtin "str.endswith") [.str x, .str y] K := .mk fun s vs U i => by
  cases i with | cons i j => cases j with | cons j k => cases k; cases i; cases j; exact SC.endswith ⟨Kp.refl _, _, .bool, by rw [endswith_eq]; exact h⟩
theorem strsFrom_all {Z : Addr → Prop} {h : Heap} : ∀ (parts : List (List Nat)) (n : Nat), IsAll Z h (strsFrom n (parts.map mkS)) (parts.map .str)
  | [], _ => .nil
  | p :: r, n => .cons .str (strsFrom_all r (n + 1))
theorem linesL_len (x : List Nat) : (linesL x).length ≤ x.length + 1 := by
  have : ∀ (r cur : List Nat) (cr : Bool), (linesGo cur cr r).length ≤ r.length + 1 := by
    intro r
    induction r with
    | nil => intro cur cr; simp only [linesGo]; split <;> simp
    | cons c r ih =>
      intro cur cr
      simp only [linesGo]
      split
      · have := ih cur false; simp; omega
      · split
        · have := ih [] (decide (c = 13)); simp; omega
        · have := ih (cur ++ [c]) false; simp; omega
  exact this x [] false
theorem doc_splitlines (hl : x.length < lim) (h : K (.list ((linesL x).map .str))) : DoC C (.builtin "str.splitlines") [.str x] K := .mk fun s vs U i => by
  cases i with | cons i j => cases j; cases i
                             rename_i t
                             have hln : (lineCuts (mkS x)).length = (linesL x).length := by
                               have := congrArg List.length (linesOf_eq x)
                               unfold linesOf at this; simpa using this
                             refine call_meets F.slot_str_splitlines (typeIs_str _ _ _) F.entry_str_splitlines (F.args_str_splitlines_1 _) (meets_str_splitlines (mkS x) t (by rw [mkS_length]; exact lim_le (by omega)) (by rw [hln]; have := linesL_len x; exact lim_le (by omega))) ?_
                             cases hw : lineCuts (mkS x) == [(0, (mkS x).length)]
                             · simp only [Bool.false_eq_true, if_false]
                               refine ⟨Kp.push_tok _ _ _, _, .list U.live.new ⟨_, Heap.get?_push_size _ rfl, rfl, 0, rfl⟩ ?_, h⟩
                               rw [linesOf_eq]; exact strsFrom_all _ _
                             · simp only [if_true]
                               have e : linesOf (mkS x) = [mkS x] := by
                                 unfold linesOf
                                 rw [eq_of_beq hw]
                                 simp [Builtin.Str.strSub, Str.length, mkS]
                               rw [linesOf_eq] at e
                               have e' : linesL x = [x] := by
                                 cases hq : linesL x with
                                 | nil => rw [hq] at e; cases e
                                 | cons p r =>
                                   rw [hq] at e
                                   simp only [List.map_cons, List.cons.injEq, List.map_eq_nil_iff] at e
                                   obtain ⟨e1, e2⟩ := e
                                   have : p = x := by have := congrArg (fun s => s.cps.toList) e1; simpa using this
                                   rw [this, e2]
                               rw [e'] at h
                               exact ⟨Kp.push _ _, _, .list U.live.new ⟨_, Heap.get?_push_size _ rfl, rfl, 0, rfl⟩ (.cons .str .nil), h⟩
end
end Mine
end

section
open PySem PySem.W PySem.Calls PySem.NumText PyProof.Rows
namespace Mine
def hexL : List Nat := [48, 49, 50, 51, 52, 53, 54, 55, 56, 57, 97, 98, 99, 100, 101, 102, 65, 66, 67, 68, 69, 70]
def hv (c : Nat) : Nat := if c ≤ 57 then c - 48 else if 97 ≤ c then c - 87 else c - 55

theorem hex_sign : ∀ c ∈ hexL, ∀ d ∈ hexL, sign ([c, d].dropWhile blank) = (false, [c, d]) ∧ based 16 [c, d] = (16, false, [c, d]) ∧ ([c, d].reverse.dropWhile blank).reverse = [c, d] ∧ digits? 16 [c, d] = some #[hv c, hv d] := by decide +kernel
theorem read16 {c d : Nat} (hc : c ∈ hexL) (hd : d ∈ hexL) : (int_private% "readNumeral") 0 16 [c, d] = (int_private% "Numeral.value") ((hv c * 16 + hv d : Nat) : Int) := by
  obtain ⟨h1, h2, h3, h4⟩ := hex_sign c hc d hd
  rw [readNumeral_eq, h1]
  dsimp only
  rw [h2]
  dsimp only
  rw [h3, h4]
  have e : judge 0 false 16 false (some #[hv c, hv d]) = (int_private% "Numeral.value") (((#[hv c, hv d] : Array Nat).foldl (fun acc d => acc * 16 + d) 0 : Nat) : Int) := rfl
  rw [e]
  congr 2
  simp
theorem hex_seen : ∀ c ∈ hexL, ∀ d ∈ hexL, numTextOf (mkS [c, d]) = [c, d] ∧ [c, d].takeWhile (· != 0) = [c, d] := by decide +kernel
theorem gives_text16 {c d : Nat} (hc : c ∈ hexL) (hd : d ∈ hexL) {u v : Tok} : Gives (Builtin.«int.__new__» ⟨[.type "int", .str (mkS [c, d]) u, .int 16 v], []⟩) (.int ((hv c * 16 + hv d : Nat) : Int)) :=
  .of_wp fun M A E s Q h => by
    obtain ⟨hp, g, dr, tk, os⟩ := s
    have f1 := F.conv_sub_int
    have f2 := F.madeHere_int
    have f3 := KIN.str_int
    have f4 := KIN.str_idx
    have f5 := KIN.str_trunc
    have f6 : typeOf (.str (mkS [c, d]) u) = pure (.type "str") := rfl
    have hr := read16 hc hd
    obtain ⟨h1, h2⟩ := hex_seen c hc d hd
    have h1' : (if ((mkS [c, d]).cps.all fun x => decide (x < 128)) = true then (mkS [c, d]).cps.toList else Unicode.numberText (mkS [c, d]).cps.toList) = [c, d] := h1
    have hr' : (int_private% "readNumeral") 0 (Int.toNat 16) [c, d] = (int_private% "Numeral.value") ((hv c * 16 + hv d : Nat) : Int) := hr
    have hk := KIN.Hid.mk (And.intro hr' (And.intro h1' h2))
    clear hr h1 h2 h1' hr'
    repeat (any_goals (first
      | assumption
      | wp_step))
    rw [hk.out.2.1, hk.out.2.2]
    refine wpAny_ite_true (decide_eq_true (show [c, d].length ≤ 640 by simp)) ?_
    refine wpAny_bind (wpAny_pure ?_)
    dsimp only
    rw [hk.out.1]
    dsimp only
    refine wpAny_ite_true (by simp) ?_
    repeat (any_goals (first
      | assumption
      | wp_step))
    all_goals first | exact ⟨_, rfl, h⟩ | skip
theorem typeCall_int_2 (a b : Value) : checkTypeCall "int" ⟨[a, b], []⟩ = pure () := by kernel_rfl
theorem newCall_int_2 (a b : Value) : checkBuiltinCall "int.__new__" ⟨[.type "int", a, b], []⟩ = pure () := by kernel_rfl
theorem doc_int16 {C : Cx} {K : D → Prop} {c d : Nat} (hc : c ∈ hexL) (hd : d ∈ hexL) (h : K (.int ((hv c * 16 + hv d : Nat) : Int))) : DoC C (.type "int") [.str [c, d], .int 16] K := .mk fun s vs U i => by
  cases i with | cons i j => cases j with | cons j k => cases k; cases i; cases j; exact callType_new F.called_int F.newNe_int (typeCall_int_2 _ _) (newCall_int_2 _ _) (fun obj => F.initArgs_range_2 obj _ _) F.entry_int_new (gives_text16 hc hd).meets (show (Made.int _).post _ s from ⟨rfl, ⟨Kp.tok _ _, _, .int, h⟩⟩)
end Mine
end

section
namespace Mine
theorem get_put_same {ρ : Loc} {x : Str} {d : D} : get (put ρ x d) x = some d := by rw [get_put, if_pos rfl]
theorem get_put_ne {ρ : Loc} {x y : Str} {d : D} {r : Option D} (h : (y == x) = false) (e : get ρ y = r) : get (put ρ x d) y = r := by
  rw [get_put, if_neg (by simpa using h)]; exact e
theorem ite_dec {p : Prop} [Decidable p] {A B : Prop} (h1 : p → A) (h2 : ¬ p → B) : if decide p = true then A else B := by
  by_cases h : p
  · simp only [h, decide_true, if_true]; exact h1 h
  · simp only [h, decide_false, Bool.false_eq_true, if_false]; exact h2 h
theorem ite_ndec {p : Prop} [Decidable p] {A B : Prop} (h1 : ¬ p → A) (h2 : p → B) : if (!decide p) = true then A else B := by
  by_cases h : p
  · simp only [h, decide_true, Bool.not_true, Bool.false_eq_true, if_false]; exact h2 h
  · simp only [h, decide_false, Bool.not_false, if_true]; exact h1 h
theorem ite_b {b : Bool} {A B : Prop} (h1 : b = true → A) (h2 : b = false → B) : if b = true then A else B := by
  cases b
  · simpa using h2 rfl
  · simpa using h1 rfl
theorem mg_of {h : Heap} {mg : Str → Option Value} {o : Obj} {es : Array DictEntry} {ep : Nat} (g : h.Ns mainGlobals mg) (ho : h.get? mainGlobals = some o) (hd : o.data = .dict es ep) (x : Str) : mg x = nsFind es x := by
  obtain ⟨o', es', ep', h1, h2, _, h4⟩ := g
  rw [ho] at h1; cases h1
  rw [hd] at h2; cases h2
  exact (h4 x).symm

/-- decode's work upon one line that is not empty -/
def lineGo (eol : List Nat) : List Nat → List Nat
  | [] => []
  | c :: r =>
    if c ≠ 61 then c :: (if r = [] then eol else lineGo eol r)
    else match r with
      | [] => []
      | [a] => 61 :: lineGo eol [a]
      | a :: b :: r' => if a ∈ hexL ∧ b ∈ hexL then (hv a * 16 + hv b) :: (if r' = [] then eol else lineGo eol r') else 61 :: lineGo eol (a :: b :: r')
def lineF (eol : List Nat) (line : List Nat) : List Nat := if rstripL line = [] then eol else lineGo eol (rstripL line)
def decRaw (eol x : List Nat) : List Nat := ((linesL x).map (lineF eol)).flatten
def decF (eol x : List Nat) : List Nat :=
  if x = [] then [] else if x.getLast? ≠ some 13 ∧ x.getLast? ≠ some 10 ∧ endsL (decRaw eol x) eol = true then sl (decRaw eol x) none (some (-(eol.length : Int))) else decRaw eol x
end Mine
namespace Mine
theorem kind_of {C : Cx} {ns : List (Str × NameKind)} {x : Str} {k : NameKind} (h : C.env.scope.names = ns) (e : ns.lookup x = some k) : C.env.kindOf x = some k := by
  unfold Env.kindOf; rw [h]; exact e
end Mine
end

section
namespace Mine
theorem lineGo_nil (eol : List Nat) : lineGo eol [] = [] := by unfold lineGo; rfl
theorem lineGo_ne {eol r : List Nat} {c : Nat} (h : c ≠ 61) : lineGo eol (c :: r) = c :: (if r = [] then eol else lineGo eol r) := by
  conv => lhs; unfold lineGo
  simp only [h, ne_eq, not_false_eq_true, if_true]
theorem lineGo_soft (eol : List Nat) : lineGo eol [61] = [] := by unfold lineGo; simp
theorem lineGo_esc {eol r : List Nat} {a b : Nat} (ha : a ∈ hexL) (hb : b ∈ hexL) : lineGo eol (61 :: a :: b :: r) = (hv a * 16 + hv b) :: (if r = [] then eol else lineGo eol r) := by
  conv => lhs; unfold lineGo
  simp [ha, hb]
theorem lineGo_lit1 {eol : List Nat} {a : Nat} : lineGo eol (61 :: [a]) = 61 :: lineGo eol [a] := by
  conv => lhs; unfold lineGo
  simp
theorem lineGo_lit2 {eol r : List Nat} {a b : Nat} (h : ¬ (a ∈ hexL ∧ b ∈ hexL)) : lineGo eol (61 :: a :: b :: r) = 61 :: lineGo eol (a :: b :: r) := by
  conv => lhs; unfold lineGo
  simp [h]
theorem lineGo_len (eol : List Nat) : ∀ (n : Nat) (l : List Nat), l.length ≤ n → (lineGo eol l).length ≤ l.length + eol.length
  | 0, l, h => by
    have : l = [] := List.length_eq_zero_iff.mp (by omega)
    subst this; simp [lineGo]
  | n + 1, [], h => by simp [lineGo]
  | n + 1, c :: r, h => by
    have ih := lineGo_len eol n
    unfold lineGo
    simp only [List.length_cons] at h ⊢
    split
    · split
      · simp; omega
      · have := ih r (by omega); simp; omega
    · cases r with
      | nil => simp
      | cons a r =>
        cases r with
        | nil => have := ih [a] (by simp at h ⊢; omega); simp at this ⊢; omega
        | cons b r =>
          simp only [List.length_cons] at h ⊢
          split
          · split
            · simp; omega
            · have := ih r (by omega); simp; omega
          · have := ih (a :: b :: r) (by simp; omega); simp at this ⊢; omega
theorem rstripL_len (l : List Nat) : (rstripL l).length ≤ l.length := by
  unfold rstripL
  rw [List.length_reverse]
  have := (List.dropWhile_sublist (p := Unicode.isSpace) (l := l.reverse)).length_le
  simpa using this
theorem lineF_len (eol l : List Nat) : (lineF eol l).length ≤ l.length + eol.length := by
  unfold lineF
  split
  · omega
  · have := lineGo_len eol _ (rstripL l) (Nat.le_refl _)
    have := rstripL_len l
    omega
theorem linesGo_sum : ∀ (r cur : List Nat) (cr : Bool), ((linesGo cur cr r).map List.length).sum ≤ cur.length + r.length
  | [], cur, cr => by simp only [linesGo]; split <;> simp
  | c :: r, cur, cr => by
    simp only [linesGo]
    split
    · have := linesGo_sum r cur false; simp; omega
    · split
      · have := linesGo_sum r [] (decide (c = 13)); simp at this ⊢; omega
      · have := linesGo_sum r (cur ++ [c]) false; simp at this ⊢; omega
theorem take_flat_len {α : Type} (ls : List (List α)) (k : Nat) : ((ls.take k).flatten).length ≤ ls.flatten.length := by
  conv => rhs; rw [← List.take_append_drop k ls]
  rw [List.flatten_append, List.length_append]; omega
theorem decRaw_len (eol x : List Nat) : (decRaw eol x).length ≤ (x.length + 1) * (eol.length + 1) := by
  have h : ∀ ls : List (List Nat), ((ls.map (lineF eol)).flatten).length ≤ (ls.map List.length).sum + ls.length * eol.length := by
    intro ls
    induction ls with
    | nil => simp
    | cons a r ih =>
      have := lineF_len eol a
      simp only [List.map_cons, List.flatten_cons, List.length_append, List.sum_cons, List.length_cons, Nat.add_mul, Nat.one_mul]
      omega
  have h1 := h (linesL x)
  have h2 : ((linesL x).map List.length).sum ≤ x.length := by have := linesGo_sum x [] false; simpa [linesL] using this
  have h3 := linesL_len x
  have h4 : (linesL x).length * eol.length ≤ (x.length + 1) * eol.length := Nat.mul_le_mul_right _ h3
  unfold decRaw
  rw [Nat.mul_add]
  omega
theorem line_len (x : List Nat) {k : Nat} {line : List Nat} (h : (linesL x)[k]? = some line) : line.length ≤ x.length := by
  have h2 : ((linesL x).map List.length).sum ≤ x.length := by have := linesGo_sum x [] false; simpa [linesL] using this
  have : ∀ (ls : List (List Nat)) (k : Nat), ls[k]? = some line → line.length ≤ (ls.map List.length).sum := by
    intro ls
    induction ls with
    | nil => intro k h; simp at h
    | cons a r ih =>
      intro k h
      cases k with
      | zero => simp at h; subst h; simp
      | succ k => simp at h; have := ih k h; simp; omega
  have := this _ _ h
  omega
theorem raw_step (eol x : List Nat) {k : Nat} {line : List Nat} (h : (linesL x)[k]? = some line) :
    (((linesL x).take (k + 1)).map (lineF eol)).flatten = (((linesL x).take k).map (lineF eol)).flatten ++ lineF eol line := by
  rw [List.take_add_one, h]; simp
theorem raw_le (eol x : List Nat) (k : Nat) : ((((linesL x).take k).map (lineF eol)).flatten).length ≤ (x.length + 1) * (eol.length + 1) := by
  refine Nat.le_trans ?_ (decRaw_len eol x)
  unfold decRaw
  rw [List.map_take]
  exact take_flat_len _ _
theorem idx_nat {α : Type} (l : List α) (i : Nat) (h : i < l.length) : idx l (i : Int) = some l[i] := by
  unfold idx seqIndex?
  have h1 : ¬ ((i : Int) < 0) := by omega
  simp [h1, h]
theorem idx_last {α : Type} (l : List α) (h : l ≠ []) : idx l (-1) = some (l.getLast h) := by
  have hl : 0 < l.length := List.length_pos_iff.mpr h
  unfold idx seqIndex?
  have h1 : (0 : Int) ≤ -1 + l.length := by omega
  have h2 : (-1 + (l.length : Int)) < l.length := by omega
  have h3 : (-1 + (l.length : Int)).toNat = l.length - 1 := by omega
  simp [h1, h2, h3, List.getLast_eq_getElem]
theorem sl_mid {α : Type} (l : List α) (i j : Nat) (h1 : i ≤ j) (h2 : j ≤ l.length) : sl l (some (i : Int)) (some (j : Int)) = (l.drop i).take (j - i) := by
  unfold sl
  simp only [Option.elim, clipAt_nat]
  have e1 : min i l.length = i := by omega
  have e2 : min j l.length = j := by omega
  simp only [e1, e2]
end Mine
namespace Mine
theorem Pb.mono {C : Cx} {ρ : Loc} {ω : Own} {op : BoolOp} {es : List Expr} {K K' : Bool → Prop} (x : Pb C ρ ω op es K) (h : ∀ d, K d → K' d) : Pb C ρ ω op es K' :=
  .mk fun s hs => wpAny_mono (x.run s hs) (fun _ _ g => ⟨g.1, h _ g.2⟩) fun _ _ e => e
theorem is_lit {Z : Addr → Prop} {h : Heap} {s : Str} {t : Tok} {l : List Nat} (e : s.cps.toList = l) : Is Z h (.str s t) (.str l) := by
  have : s = mkS l := by obtain ⟨a⟩ := s; subst e; simp [mkS]
  rw [this]; exact .str
end Mine
end

section
namespace Mine
def closL (cells : List (Str × Addr)) : List (Str × NameKind) → List (Str × Addr) → Option (List (Str × Addr))
  | [], acc => some acc
  | (n, k) :: r, acc => if k == .free then (match cells.lookup n with | some a => closL cells r ((n, a) :: acc) | none => none) else closL cells r acc
theorem closureFor_L {scope : Scope} {env : Env} {cl : List (Str × Addr)} (h : closL env.cells scope.names [] = some cl) : closureFor scope env = pure cl := by
  unfold closureFor
  have key : ∀ (names : List (Str × NameKind)) (acc cl : List (Str × Addr)), closL env.cells names acc = some cl →
      (forIn names acc fun (x : Str × NameKind) (cs : List (Str × Addr)) => if (x.2 == .free) = true then (do let a ← cellOf env x.1; pure (ForInStep.yield ((x.1, a) :: cs))) else pure (ForInStep.yield cs) : Sem _) = pure cl := by
    intro names
    induction names with
    | nil => intro acc cl h; cases h; rfl
    | cons p r ih =>
      obtain ⟨n, k⟩ := p
      intro acc cl h
      rw [List.forIn_cons]
      simp only [closL] at h
      by_cases hk : (k == NameKind.free) = true
      · rw [if_pos hk] at h
        simp only [hk, if_true]
        cases hl : env.cells.lookup n with
        | none => rw [hl] at h; cases h
        | some a =>
          rw [hl] at h
          have e : cellOf env n = pure a := by unfold cellOf; rw [hl]
          rw [e]
          exact ih _ _ h
      · rw [if_neg hk] at h
        simp only [hk, Bool.false_eq_true, if_false]
        exact ih _ _ h
  have k := key _ _ _ h
  show (forIn scope.names [] _ >>= fun cs => pure cs : Sem _) = pure cl
  refine Eq.trans (congrArg (fun t : Sem (List (Str × Addr)) => t >>= fun cs => pure cs) k) ?_
  rfl
theorem relabel_local {scope : Scope} {env : Env} {y : Str} (h : (relabel scope env).names.lookup y = some .local) : scope.names.lookup y = some .local := by
  unfold relabel at h
  dsimp only at h
  generalize scope.names = ns at h
  induction ns with
  | nil => cases h
  | cons p r ih =>
    obtain ⟨n, k⟩ := p
    simp only [List.map_cons] at h
    split at h
    · rename_i q
      rw [List.lookup_cons] at h ⊢
      cases hb : y == n with
      | true => rw [hb] at h; cases h
      | false => rw [hb] at h; exact ih h
    · rw [List.lookup_cons] at h ⊢
      cases hb : y == n with
      | true => rw [hb] at h; exact h
      | false => rw [hb] at h; exact ih h
theorem compOk_of {C : Cx} {scope : Scope} {cl : List (Str × Addr)} {x : Str} (h1 : closL C.env.cells scope.names [] = some cl) (h2 : ∀ y ∈ scope.names, y.2 ≠ .cell) (h3 : scope.kind = .function)
    (h4 : ∀ y ∈ scope.names, y.2 = .local → scope.names.lookup y.1 = some .local) (h5 : scope.names.lookup x = some .local)
    (hs : ∀ p ∈ cl, C.env.cells.lookup p.1 = some p.2 ∧ (C.env.kindOf p.1 = some .cell ∨ C.env.kindOf p.1 = some .free)) (hc : ∀ p ∈ cl, scope.names.lookup p.1 ≠ some .local) : CompOk C scope cl x :=
  ⟨closureFor_L h1, h2, h3, h4, h5, fun y c h => hs (y, c) (PySem.mem_of_lookup h), fun y c h e => hc (y, c) (PySem.mem_of_lookup h) (relabel_local e)⟩

theorem strs_are {Z : Addr → Prop} {h : Heap} : ∀ {vs : List Value} {parts : List (List Nat)}, IsAll Z h vs (parts.map .str) → StrsAre vs (parts.map mkS)
  | _, [], x => by cases x; exact .nil
  | _, p :: r, x => by
    cases x with
    | cons a b => cases a; exact .cons _ _ (strs_are b)
theorem doc_join {C : Cx} {K : D → Prop} {sep : List Nat} {parts : List (List Nat)} (hl : (parts.map List.length).sum + parts.length * sep.length ≤ lim) (h : K (.str (joinL sep parts))) :
    DoC C (.builtin "str.join") [.str sep, .list (parts.map .str)] K := .mk fun s vs U i => by
  cases i with | cons i j => cases j with | cons j k => cases k; cases i; cases j with
    | list hz hl' hi =>
      refine wpAny_free (join_list hl' (by simpa using strs_are hi) ?_ ?_)
      · have : ((parts.map mkS).map (·.length)).sum = (parts.map List.length).sum := by
          rw [List.map_map]; congr 1
        rw [this, List.length_map, mkS_length]; simpa [lim] using hl
      · intro t' k htk
        exact ⟨Kp.tok _ _ htk, _, by rw [join_eq]; exact .str, h⟩
/-- the datum of a sign's find -/
def findL (x : List Nat) (c : Nat) (i : Nat) : Int := match (x.drop i).findIdx? (· == c) with
  | some k => ((i + k : Nat) : Int)
  | none => -1
end Mine
namespace Mine
end Mine
end

section
namespace Mine
theorem get_cons_same {r : Loc} {x : Str} {d : D} : get ((x, d) :: r) x = some d := by simp only [get, if_true]
theorem get_cons_ne {r : Loc} {x y : Str} {d : D} {o : Option D} (h : (y == x) = false) (e : get r y = o) : get ((x, d) :: r) y = o := by
  simp only [get]; rw [if_neg (by simpa using h)]; exact e
end Mine
end

section
namespace Mine
/-- own lists change -/
def setO : Own → Addr → List D → Own
  | [], _, _ => []
  | (b, ds) :: r, a, es => if a = b then (b, es) :: r else (b, ds) :: setO r a es
theorem setO_keys (ω : Own) (a : Addr) (es : List D) : (setO ω a es).map (·.1) = ω.map (·.1) := by
  induction ω with
  | nil => rfl
  | cons p r ih =>
    obtain ⟨b, ds⟩ := p
    simp only [setO]; split
    · rfl
    · simp only [List.map_cons, ih]
theorem setO_mem {ω : Own} {a : Addr} {es : List D} (nd : (ω.map (·.1)).Nodup) {p : Addr × List D} (h : p ∈ setO ω a es) : p = (a, es) ∨ (p ∈ ω ∧ p.1 ≠ a) := by
  induction ω with
  | nil => cases h
  | cons q r ih =>
    obtain ⟨b, ds⟩ := q
    simp only [List.map_cons, List.nodup_cons] at nd
    simp only [setO] at h
    split at h
    · rename_i e
      rcases List.mem_cons.mp h with h | h
      · exact .inl (by rw [h, e])
      · refine .inr ⟨.tail _ h, fun q => nd.1 ?_⟩
        rw [← e, ← q]; exact List.mem_map.mpr ⟨p, h, rfl⟩
    · rename_i e
      rcases List.mem_cons.mp h with h | h
      · exact .inr ⟨h ▸ .head _, by rw [h]; exact Ne.symm e⟩
      · rcases ih nd.2 h with h | h
        · exact .inl h
        · exact .inr ⟨.tail _ h.1, h.2⟩
theorem setO_one {a : Addr} {ds es : List D} : setO [(a, ds)] a es = [(a, es)] := by simp [setO]
theorem getO_one {a : Addr} {ds : List D} : getO [(a, ds)] a = some ds := by simp [getO]

section
variable {C : Cx} {Zo : Addr → Prop} {ρ : Loc} {ω : Own} {l : Nat} {K : Fl → Loc → Own → Prop}
theorem Z_setO (a : Addr) (es : List D) : C.Z Zo (setO ω a es) = C.Z Zo ω := by
  funext b; simp only [Cx.Z, Cx.Mu, setO_keys]
theorem own_nd {s : Shared} (hs : Sta C Zo ρ ω s) {a : Addr} (ha : a ∈ ω.map (·.1)) {o : Obj} (e : s.heap.get? a = some o) : ¬ DictD o := by
  obtain ⟨p, hp, rfl⟩ := List.mem_map.mp ha
  obtain ⟨vs, ⟨n, h1⟩, _⟩ := hs.own p hp
  rw [h1] at e; cases e
  rintro ⟨es, ep, q⟩; cases q
theorem own_change {s : Shared} {a : Addr} {es : List D} {vs : List Value} {h' : Heap} {tk : Nat} (hs : Sta C Zo ρ ω s) (ha : a ∈ ω.map (·.1)) (hl : h'.PlainList a vs.toArray) (hsame : Heap.SameBut a s.heap h')
    (hi : IsAll (C.Z Zo ω) s.heap vs es) (htk : s.toks ≤ tk := by first | exact Nat.le_refl _ | exact Nat.le_succ _ | assumption) : Sta C Zo ρ (setO ω a es) { s with heap := h', toks := tk } ∧ Step C Zo ω (setO ω a es) s { s with heap := h', toks := tk } := by
  have mv : ∀ b o, ¬ C.Z Zo ω b → s.heap.get? b = some o → ¬ C.Z Zo ω b ∧ h'.get? b = some o := fun b o hz e => ⟨hz, (hsame.2 b fun q => hz (q ▸ mu_own ha)).trans e⟩
  obtain ⟨p, hp, hpa⟩ := List.mem_map.mp ha
  refine ⟨⟨fun b o e => ?_, ?_, ?_, fun y dy hy hk => ?_, fun y c hy => ?_, hs.inj, fun q hq => ?_, by rw [setO_keys]; exact hs.nodup, by rw [setO_keys]; exact hs.apart, fun b hb => ?_, Nat.lt_of_lt_of_le hs.tok htk, hs.fr.of fun b o hz e hd => ⟨hz, o, (hsame.2 b fun q => own_nd hs ha (q ▸ e) hd).trans e, hd⟩⟩, ⟨⟨h', tk, rfl, htk⟩, fun b o hb e => keep_ex ?_, fun b o e => ?_, fun b hb => .inl (by rw [setO_keys] at hb; exact hb)⟩⟩
  · refine (hsame.2 b fun q => ?_).trans (hs.base b o e)
    have := hs.new b (q ▸ mu_own ha); rw [this] at e; cases e
  · rw [Z_setO]; exact hs.new
  · obtain ⟨m, hn, hm⟩ := hs.ns
    refine ⟨m, hn.sameBut hsame (fun q => own_not_loc hs hp (by rw [hpa, q])), fun y dy hy hk => ?_⟩
    obtain ⟨u, h1, h2⟩ := hm y dy hy hk
    exact ⟨u, h1, by rw [Z_setO]; exact h2.move mv⟩
  · obtain ⟨c, u, h1, h2, h3⟩ := hs.cell y dy hy hk
    exact ⟨c, u, h1, h2.sameBut hsame (fun q => own_not_cell hs hp h1 (by rw [hpa, q])), by rw [Z_setO]; exact h3.move mv⟩
  · obtain ⟨u, h2⟩ := hs.cells y c hy
    exact ⟨u, h2.sameBut hsame (fun q => own_not_cell hs hp hy (by rw [hpa, q]))⟩
  · rw [Z_setO]
    rcases setO_mem hs.nodup hq with rfl | ⟨h1, h2⟩
    · exact ⟨vs, hl, hi.move mv⟩
    · obtain ⟨ws, h3, h4⟩ := hs.own q h1
      exact ⟨ws, h3.at fun o e => (hsame.2 _ h2).trans e, h4.move mv⟩
  · obtain ⟨o, ho⟩ := hs.zo b hb
    by_cases q : b = a
    · obtain ⟨n, e⟩ := hl; exact ⟨_, q ▸ e⟩
    · exact ⟨o, (hsame.2 b q).trans ho⟩
  · exact (hsame.2 b fun q => hb (.inr (.inr (q ▸ ha)))).trans e
  · by_cases q : b = a
    · obtain ⟨n, e'⟩ := hl; exact ⟨_, q ▸ e', fun hd => (own_nd hs ha (q ▸ e) hd).elim⟩
    · exact ⟨o, (hsame.2 b q).trans e, id⟩

/-- a list is appended to -/
theorem ex_append {o e : Expr} {apos pos p2 : Pos} 
    (h : Pe C ρ ω o (fun d => ∃ a ds, d = .val (.ref a) ∧ getO ω a = some ds ∧ ds.length ≤ lim ∧ Pe C ρ ω e (fun d => K .next ρ (setO ω a (ds ++ [d])))))
    (hbase : attributeBase o (Str.ofString "append") C.env (eval o C.env) = eval o C.env)
    (hfew : ((backTo pos (starEach [e] C.env)).all (fun x => !x.1) && (backToKw pos (keywordEach [] C.env)).all (fun x => x.1.isSome)
      && decide (([e] : List Expr).length + ([] : List Keyword).length + (if ([] : List Keyword).isEmpty then 0 else 1) < 30)) = true)
    (hline : (apos.endLine == pos.line) = true)
    (he : starEach [e] C.env = (false, eval e C.env) :: starEach [] C.env) (hplain : (backTo pos (starEach [] C.env)).any (·.1) = false)
    (hint : interactive C.env = false) (hsw : swapsWith (.Call (.Attribute o (Str.ofString "append") apos) [e] [] pos) none p2.line C.env = pure false) :
    Ex C ρ ω (.Expr (.Call (.Attribute o (Str.ofString "append") apos) [e] [] pos) p2) K := .mk fun {Zo} s hs => by
  refine wpAny_Expr_any ?_ hint hsw
  refine wpAny_Call_method_lateS hbase hfew hline (wpAny_mono (h.run s hs) (fun ov s₁ x => ?_) fun _ _ e => e)
  obtain ⟨k1, d, i1, a, ds, rfl, hg, hlen, h1⟩ := x
  cases i1
  have hs1 := hs.keeps k1
  obtain ⟨vs, hl, hi⟩ := hs1.own _ (getO_mem hg)
  have ho := hl
  obtain ⟨n, ho⟩ := ho
  refine ⟨"list", _, F.plainAttrs_list, F.slot_list_append, F.type_list_append, hl.isList.typeIs, (fun b e => by cases e; exact ⟨_, ho, rfl⟩), ?_⟩
  refine callWith_method1 (first := [.ref a]) (wpAny_mono ((pl_cons (h1.mono fun d hd => pl_nil ⟨d, rfl, hd⟩) he : Pl C ρ ω [e] (fun dd => ∃ d, dd = [d] ∧ K .next ρ (setO ω a (ds ++ [d])))).run s₁ pos hs1) (fun ws s₂ ⟨k2, dd, i2, d, ed, hK⟩ => ?_) fun _ _ e => e) he hplain
  subst ed
  have hs2 := hs1.keeps k2
  obtain ⟨vs, hl, hi⟩ := hs2.own _ (getO_mem hg)
  cases i2 with
  | cons i2 j2 =>
    cases j2
    refine wpAny_list_append_plain hl (fun h' hl' hsame => ?_) (by rw [List.size_toArray, hi.length]; exact lim_le hlen)
    obtain ⟨hs3, st⟩ := own_change (tk := s₂.toks) (es := ds ++ [d]) (vs := vs ++ [_]) hs2 (List.mem_map.mpr ⟨_, getO_mem hg, rfl⟩) (by simpa using hl') hsame (hi.append (.one i2))
    exact ⟨.next, ρ, _, trivial, hs3, ((k1.trans k2).step).trans st, hK⟩

end
end Mine
end

section
namespace Mine
section
variable {C : Cx} {Zo : Addr → Prop} {ρ : Loc} {ω : Own} {l : Nat} {K : Fl → Loc → Own → Prop}
theorem own_new {s : Shared} {ds : List D} {vs : List Value} (hs : Sta C Zo ρ ω s) (hi : IsAll (C.Z Zo ω) s.heap vs ds) :
    Sta C Zo ρ ((s.heap.objs.size, ds) :: ω) { s with heap := s.heap.push { cls := .type "list", data := .seq vs.toArray } } ∧
    Step C Zo ω ((s.heap.objs.size, ds) :: ω) s { s with heap := s.heap.push { cls := .type "list", data := .seq vs.toArray } } := by
  have hfree : ∀ o, s.heap.get? s.heap.objs.size ≠ some o := fun o e => Nat.lt_irrefl _ (Heap.lt_size e)
  have hnone : s.heap.get? s.heap.objs.size = none := by
    cases e : s.heap.get? s.heap.objs.size with
    | none => rfl
    | some o => exact (hfree o e).elim
  have hZ : ∀ b, C.Z Zo ((s.heap.objs.size, ds) :: ω) b → b = s.heap.objs.size ∨ C.Z Zo ω b := by
    rintro b (h | h | h | h)
    · exact .inr (.inl h)
    · exact .inr (.inr (.inl h))
    · exact .inr (.inr (.inr (.inl h)))
    · rcases List.mem_cons.mp h with h | h
      · exact .inl h
      · exact .inr (.inr (.inr (.inr h)))
  have mv : ∀ b o, ¬ C.Z Zo ω b → s.heap.get? b = some o → ¬ C.Z Zo ((s.heap.objs.size, ds) :: ω) b ∧ (s.heap.push { cls := .type "list", data := .seq vs.toArray }).get? b = some o := fun b o hz e =>
    ⟨fun q => (hZ b q).elim (fun q => hfree o (q ▸ e)) hz, Heap.get?_push_of_some _ e⟩
  have hk : ∀ b o, s.heap.get? b = some o → (s.heap.push { cls := .type "list", data := .seq vs.toArray }).get? b = some o := fun b o e => Heap.get?_push_of_some _ e
  have hap : ∀ a ∈ ((s.heap.objs.size, ds) :: ω).map (·.1), ¬ Zo a := by
    intro a ha h
    rcases List.mem_cons.mp ha with e | e
    · obtain ⟨o, ho⟩ := hs.zo a h
      subst e
      exact hfree o ho
    · exact hs.apart a e h
  refine ⟨⟨fun b o e => hk b o (hs.base b o e), fun b hb => ?_, ?_, fun y dy hy hl => ?_, fun y c hy => ?_, hs.inj, fun p hp => ?_, ?_, hap, fun b hb => ?_, hs.tok, hs.fr.of fun b o hz e hd => ⟨hz, o, hk b o e, hd⟩⟩, ⟨⟨_, _, rfl, Nat.le_refl _⟩, fun b o _ e => keep_ex (hk b o e), fun b o e => ⟨o, hk b o e, id⟩, fun b hb => ?_⟩⟩
  · rcases hZ b hb with h | h
    · subst h
      cases e : C.h₀.get? s.heap.objs.size with
      | none => rfl
      | some o => exact (hfree o (hs.base _ o e)).elim
    · exact hs.new b h
  · obtain ⟨m, hn, hm⟩ := hs.ns
    exact ⟨m, hn.keeps hk, fun y d hy hl => let ⟨v, h1, h2⟩ := hm y d hy hl; ⟨v, h1, h2.move mv⟩⟩
  · obtain ⟨c, v, h1, ⟨o, h2, h2'⟩, h3⟩ := hs.cell y dy hy hl
    exact ⟨c, v, h1, ⟨o, hk _ _ h2, h2'⟩, h3.move mv⟩
  · obtain ⟨v, o, h2, h2'⟩ := hs.cells y c hy
    exact ⟨v, o, hk _ _ h2, h2'⟩
  · rcases List.mem_cons.mp hp with rfl | hp
    · exact ⟨vs, ⟨0, Heap.get?_push_size _ rfl⟩, hi.move mv⟩
    · obtain ⟨ws, h1, h2⟩ := hs.own p hp
      exact ⟨ws, h1.at fun o e => hk _ _ e, h2.move mv⟩
  · simp only [List.map_cons, List.nodup_cons]
    refine ⟨fun q => ?_, hs.nodup⟩
    obtain ⟨o, ho⟩ := hs.live _ (mu_own (Zo := Zo) q)
    exact hfree o ho
  · obtain ⟨o, ho⟩ := hs.zo b hb; exact ⟨o, hk _ _ ho⟩
  · rcases List.mem_cons.mp hb with h | h
    · exact .inr (h ▸ hnone)
    · exact .inl h

/-- a new list of one's own -/
theorem ex_new {x : Str} {px pos p : Pos} {es : List Expr} (ok : C.Ok l) (hk : Stor C x) (h : Pl C ρ ω es (fun ds => ds.length ≤ lim ∧ ∀ a, a ∉ ω.map (·.1) → K .next (put ρ x (.val (.ref a))) ((a, ds) :: ω)))
    (hsw : swapsWith (.List es p) (some (.Name x px)) pos.line C.env = pure false) : Ex C ρ ω (.Assign [.Name x px] (.List es p) pos) K := .mk fun {Zo} s hs => by
  refine wpAny_Assign_Name ?_ hsw
  refine wpAny_List (wpAny_mono (h.run s p hs) (fun vs s₁ ⟨k1, ds, i1, hlen, h1⟩ => ⟨lim_le (by rw [i1.length]; exact hlen), ?_⟩) fun _ _ e => e)
  have hs1 := hs.keeps k1
  obtain ⟨hs2, st⟩ := own_new hs1 i1
  refine wpAny_mono (store_doc ok hs2 (.val (v := .ref s₁.heap.objs.size)) hk) (fun _ s₃ ⟨hs3, st3⟩ => ?_) fun _ _ e => e
  refine ⟨.next, _, _, trivial, hs3, ((k1.step).trans st).trans st3, h1 _ fun q => ?_⟩
  obtain ⟨o, ho⟩ := hs1.live _ (mu_own (Zo := Zo) q)
  exact Nat.lt_irrefl _ (Heap.lt_size ho)
end
end Mine
end

section
namespace Mine
section
variable {C : Cx} {Zo : Addr → Prop} {ρ : Loc} {ω : Own} {l : Nat} {K : D → Prop} {a b c n : Int}
theorem doc_range1 (h : K (.rng 0 n 1)) : DoC C (.type "range") [.int n] K := .mk fun s vs U i => by
  cases i with | cons i j => cases j; cases i; exact call_range_1 ⟨Kp.push_tok _ _ _, _, .rng U.live.new (IsRange.new _ _ _ _ _ _ _), h⟩
theorem doc_len_list {ds : List D} (hl : ds.length ≤ lim) (h : K (.int ds.length)) : DoC C (.builtin "len") [.list ds] K := .mk fun s vs U i => by
  cases i with
  | cons i j =>
    cases j
    cases i with
    | list hz hl' hi =>
      refine len_list hl' ?_ ?_
      · rw [List.size_toArray, hi.length]; simp only [lim] at hl; omega
      · refine ⟨Kp.tok _ _, _, .int, ?_⟩
        rw [List.size_toArray, hi.length]; exact h
/-- a figure written small -/
def lc (c : Nat) : Nat := if 65 ≤ c ∧ c ≤ 70 then c + 32 else c
def figL : List Nat := [48, 49, 50, 51, 52, 53, 54, 55, 56, 57, 97, 98, 99, 100, 101, 102]
end
section
variable {C : Cx} {Zo : Addr → Prop} {ρ : Loc} {ω : Own} {l : Nat} {K : D → Prop}
end
end Mine
end

section
namespace Mine
/-- kinds of names within a comprehension -/
structure KC (C C2 : Cx) (scope : Scope) : Prop where
  same : ∀ {x : Str} {k : NameKind}, scope.names.lookup x = some k → k ≠ .free → C2.env.kindOf x = some k
  cell : ∀ {x : Str}, scope.names.lookup x = some .free → C.env.kindOf x = some .cell → C2.env.kindOf x = some .cell
theorem relabel_same {env : Env} : ∀ {names : List (Str × NameKind)} {x : Str} {k : NameKind}, names.lookup x = some k → k ≠ .free →
    (names.map fun (n, k) => if (k == NameKind.free && env.scope.kind == .function && env.kindOf n == some .cell) then (n, NameKind.cell) else (n, k)).lookup x = some k
  | [], _, _, h, _ => by simp at h
  | (n, k) :: r, x, k', h, hk => by
    have ih := @relabel_same env r x k'
    show List.lookup x ((if (k == NameKind.free && env.scope.kind == .function && env.kindOf n == some .cell) = true then (n, NameKind.cell) else (n, k)) :: _) = _
    cases hx : x == n with
    | true =>
      simp only [List.lookup_cons, hx] at h
      cases h
      have : (k == NameKind.free) = false := by cases k <;> first | rfl | exact absurd rfl hk
      simp [List.lookup_cons, hx, this]
    | false =>
      simp only [List.lookup_cons, hx] at h
      split
      · simp only [List.lookup_cons, hx]; exact ih h hk
      · simp only [List.lookup_cons, hx]; exact ih h hk
theorem relabel_cell {env : Env} (hf : env.scope.kind = .function) : ∀ {names : List (Str × NameKind)} {x : Str}, env.kindOf x = some .cell → names.lookup x = some .free →
    (names.map fun (n, k) => if (k == NameKind.free && env.scope.kind == .function && env.kindOf n == some .cell) then (n, NameKind.cell) else (n, k)).lookup x = some .cell
  | [], _, _, h => by simp at h
  | (n, k) :: r, x, he, h => by
    have ih := @relabel_cell env hf r x he
    show List.lookup x ((if (k == NameKind.free && env.scope.kind == .function && env.kindOf n == some .cell) = true then (n, NameKind.cell) else (n, k)) :: _) = _
    cases hx : x == n with
    | true =>
      simp only [List.lookup_cons, hx] at h
      cases h
      have : x = n := by simpa using hx
      subst this
      rw [if_pos (by rw [hf, he]; rfl)]
      simp [List.lookup_cons]
    | false =>
      simp only [List.lookup_cons, hx] at h
      split
      · simp only [List.lookup_cons, hx]; exact ih h
      · simp only [List.lookup_cons, hx]; exact ih h
theorem Cx.Ok.comp {C : Cx} {l : Nat} (ok : C.Ok l) {scope : Scope} {cl : List (Str × Addr)} {n : Addr} (h : scope.kind = .function) : (C.comp scope cl n).Ok l :=
  ⟨ok.room, h, ok.gl, ok.bl, ok.g, ok.b, ok.nolimit⟩
theorem kc_of {C : Cx} {l : Nat} (ok : C.Ok l) (scope : Scope) (cl : List (Str × Addr)) (n : Addr) : KC C (C.comp scope cl n) scope :=
  ⟨fun h hk => relabel_same h hk, fun h hc => relabel_cell ok.kind hc h⟩
/-- within a comprehension -/
theorem in_pi {C : Cx} {l : Nat} {ρ : Loc} {ω : Own} {ifs : List Expr} {e : Expr} {K : Option D → Prop} {scope : Scope} {cl : List (Str × Addr)} {n : Addr} (ok : C.Ok l) (hk : scope.kind = .function)
    (h : ∀ C2, C2.Ok l → Kin C C2 → KC C C2 scope → Pi C2 ρ ω ifs e K) : Pi (C.comp scope cl n) ρ ω ifs e K :=
  h _ (ok.comp hk) ⟨rfl, rfl, rfl, rfl, rfl⟩ (kc_of ok _ _ _)
/-- a comprehension without captured names -/
theorem compOk0 {C : Cx} {scope : Scope} {x : Str} (h1 : closL C.env.cells scope.names [] = some []) (h2 : (scope.names.all fun y => y.2 != .cell) = true) (h3 : scope.kind = .function)
    (h4 : (scope.names.all fun y => y.2 != .local || scope.names.lookup y.1 == some .local) = true) (h5 : scope.names.lookup x = some .local) : CompOk C scope [] x :=
  compOk_of h1 (fun y hy => by have := List.all_eq_true.mp h2 y hy; simpa using this) h3 (fun y hy e => by have := List.all_eq_true.mp h4 y hy; simpa [e] using this) h5 (fun p hp => by cases hp) (fun p hp => by cases hp)
theorem get_put_eq {ρ : Loc} {x : Str} {d d' : D} (h : d = d') : get (put ρ x d) x = some d' := h ▸ get_put_same
theorem sl_to {α : Type} (l : List α) (p : Nat) : sl l none (some (p : Int)) = l.take p := by
  unfold sl
  simp only [Option.elim, clipAt_nat, List.drop_zero, Nat.sub_zero]
  rcases Nat.le_total p l.length with h | h
  · rw [Nat.min_eq_left h]
  · rw [Nat.min_eq_right h, List.take_of_length_le (Nat.le_refl _), List.take_of_length_le h]
theorem idx_of {α : Type} {l : List α} {n : Nat} {c : α} (h : l[n]? = some c) : idx l (n : Int) = some c := by
  obtain ⟨hn, e⟩ := List.getElem?_eq_some_iff.mp h
  rw [idx_nat l n hn, e]
end Mine
end

section
namespace Mine
/-- the signs that end a line; the other white signs -/
def ends05 : List Nat := [10, 13, 11, 12, 28, 29, 30, 133, 8232, 8233]
def whites05 : List Nat := [9, 32, 31, 160, 5760, 8239, 8287, 12288] ++ (List.range 11).map (8192 + ·)
theorem within_or : ∀ (l : List (Nat × Nat)) (c : Nat), Unicode.within l c = true → ∃ p ∈ l, p.1 ≤ c ∧ c ≤ p.2
  | [], c, h => by simp [Unicode.within] at h
  | (a, b) :: r, c, h => by
    simp only [Unicode.within] at h
    split at h
    · cases h
    · rename_i h1
      simp only [Bool.or_eq_true, decide_eq_true_eq] at h
      rcases h with h | h
      · exact ⟨(a, b), .head _, by omega, h⟩
      · obtain ⟨p, hp, q⟩ := within_or r c h; exact ⟨p, .tail _ hp, q⟩
theorem lb_all : ∀ c ∈ ends05, Unicode.isLineBreak c = true := by decide +kernel
theorem lb_iff (c : Nat) : Unicode.isLineBreak c = decide (c ∈ ends05) := by
  cases q : Unicode.isLineBreak c with
  | true =>
    have e : Unicode.isLineBreak c = Unicode.within [(10, 13), (28, 30), (133, 133), (8232, 8233)] c := rfl
    rw [e] at q
    obtain ⟨p, hp, h1, h2⟩ := within_or _ _ q
    have all : ∀ p ∈ [(10, 13), (28, 30), (133, 133), (8232, 8233)], ∀ k ∈ List.range (p.2 + 1 - p.1), p.1 + k ∈ ends05 := by decide
    have := all p hp (c - p.1) (List.mem_range.mpr (by omega))
    rw [show p.1 + (c - p.1) = c by omega] at this
    exact (decide_eq_true this).symm
  | false => exact (decide_eq_false fun e => by rw [lb_all c e] at q; cases q).symm
end Mine
end

section
namespace Mine
theorem ite_t {A B : Prop} (h : A) : if true = true then A else B := by simpa using h
theorem ite_f {A B : Prop} (h : B) : if false = true then A else B := by simpa using h
def strConsts : List Expr → Option (List (List Nat))
  | [] => some []
  | .Constant (.str x) _ _ :: r => match strConsts r with | some l => some (x.cps.toList :: l) | none => none
  | _ => none
section
variable {C : Cx} {Zo : Addr → Prop} {ρ : Loc} {ω : Own} {l : Nat} {K : D → Prop}
theorem pe_strL {x : Str} {k : Nat} {p : Pos} {l : List Nat} (e : x.cps.toList = l) (h : K (.str l)) : Pe C ρ ω (.Constant (.str x) k p) K := pe_str (e ▸ h)
theorem inter (ok : C.Ok l) : interactive C.env = false := by
  unfold interactive; rw [ok.kind]; rfl
theorem rng_up (q : Bool) (n : Nat) (hn : n ≤ lim) : IterK q ω (.rng 0 n 1) = some ((List.range n).map fun (k : Nat) => D.int k) := by
  simp only [lim] at hn
  have e : Builtin.Range.rangeSize 0 n 1 = n := by
    unfold Builtin.Range.rangeSize
    rw [if_pos (by decide)]
    by_cases h : (0 : Int) < n
    · rw [if_pos h, Int.ediv_one]; omega
    · rw [if_neg h]; omega
  have hs : Builtin.Range.small 0 n 1 = true := small_one (by omega) (by omega) (by omega) (by omega)
  simp only [IterK, hs, if_true, rngL, e]
  simp
end
end Mine
end

section
namespace Mine
/-- a text cut at a sign -/
def splitL (c : Nat) : List Nat → List (List Nat)
  | [] => [[]]
  | d :: r => if d = c then [] :: splitL c r else match splitL c r with | p :: ps => (d :: p) :: ps | [] => [[d]]
theorem splitL_ne (c : Nat) : ∀ l, splitL c l ≠ []
  | [] => by simp [splitL]
  | d :: r => by
    simp only [splitL]
    split
    · simp
    · split <;> simp
theorem splitL_free {c : Nat} : ∀ {p : List Nat}, c ∉ p → splitL c p = [p]
  | [], _ => rfl
  | d :: r, h => by
    have h1 : d ≠ c := fun e => h (by simp [e])
    rw [splitL, if_neg h1, splitL_free fun q => h (List.mem_cons_of_mem _ q)]
theorem splitL_cut {c : Nat} {w : List Nat} : ∀ {p : List Nat}, c ∉ p → splitL c (p ++ c :: w) = p :: splitL c w
  | [], _ => by simp [splitL]
  | d :: r, h => by
    have h1 : d ≠ c := fun e => h (by simp [e])
    rw [List.cons_append, splitL, if_neg h1, splitL_cut fun q => h (List.mem_cons_of_mem _ q)]
theorem splitL_join {c : Nat} : ∀ {ps : List (List Nat)}, ps ≠ [] → (∀ p ∈ ps, c ∉ p) → splitL c (joinL [c] ps) = ps
  | [], h, _ => absurd rfl h
  | [p], _, h => splitL_free (h p (.head _))
  | p :: q :: r, _, h => by
    rw [joinL, List.append_assoc, List.singleton_append, splitL_cut (h p (.head _)), splitL_join (by simp) fun x hx => h x (.tail _ hx)]
/-- each c of a text made z -/
def repL (c : Nat) (z x : List Nat) : List Nat := x.flatMap fun d => if d = c then z else [d]
theorem join_rep (c : Nat) (z : List Nat) : ∀ x, joinL z (splitL c x) = repL c z x
  | [] => rfl
  | d :: r => by
    have ih := join_rep c z r
    unfold repL at ih ⊢
    simp only [splitL, List.flatMap_cons]
    cases hs : splitL c r with
    | nil => exact absurd hs (splitL_ne c r)
    | cons p ps =>
      rw [hs] at ih
      split
      · rw [joinL, ih]; simp
      · cases ps with
        | nil => simp only [joinL] at ih ⊢; rw [ih]; rfl
        | cons q ps => simp only [joinL] at ih ⊢; rw [← ih]; simp
theorem join_toList (sep : List Nat) (ps : List Str) : (Str.join (mkS sep) ps).cps.toList = joinL sep (ps.map fun p => p.cps.toList) := by
  have h := join_eq sep (ps.map fun p => p.cps.toList)
  unfold Txt.join at h
  rw [StrLaws.glued_eq_join] at h
  have e : (ps.map fun p => p.cps.toList).map mkS = ps := by
    rw [List.map_map]
    conv => rhs; rw [← List.map_id ps]
    apply List.map_congr_left
    intro p _
    obtain ⟨a⟩ := p
    simp [mkS]
  rw [e] at h
  rw [h]
theorem split_eq (x : List Nat) (c : Nat) : (Txt.split (mkS x) (mkS [c])).map (fun p => p.cps.toList) = splitL c x := by
  have h1 : joinL [c] ((Txt.split (mkS x) (mkS [c])).map fun p => p.cps.toList) = x := by
    rw [← join_toList, StrLaws.join_split]
  have h2 : ∀ p ∈ (Txt.split (mkS x) (mkS [c])).map (fun p => p.cps.toList), c ∉ p := by
    intro p hp
    obtain ⟨q, hq, rfl⟩ := List.mem_map.mp hp
    exact StrLaws.split_free (mkS x) c q hq
  have h3 : (Txt.split (mkS x) (mkS [c])).map (fun p => p.cps.toList) ≠ [] := by
    intro e
    rw [e] at h1
    have hx : x = [] := h1.symm
    subst hx
    have : Txt.split (mkS []) (mkS [c]) = [mkS []] := by
      unfold Txt.split
      rw [if_pos (by simp [Str.length])]
    rw [this] at e
    cases e
  have := splitL_join h3 h2
  rw [h1] at this
  exact this.symm
theorem replace_eq (x z : List Nat) (c : Nat) : (Txt.replace (mkS x) (mkS [c]) (mkS z)).cps.toList = repL c z x := by
  have := StrLaws.replace_one (mkS x) (mkS z) c
  rw [show (mkS [c] : Str) = ⟨#[c]⟩ from rfl, this, join_toList]
  rw [show (⟨#[c]⟩ : Str) = mkS [c] from rfl, split_eq, join_rep]
theorem repL_one (c : Nat) (z : List Nat) (d : Nat) (r : List Nat) : repL c z (d :: r) = (if d = c then z else [d]) ++ repL c z r := by unfold repL; rw [List.flatMap_cons]
def rstripBy (y l : List Nat) : List Nat := (l.reverse.dropWhile fun c => decide (c ∈ y)).reverse
section
variable {C : Cx} {Zo : Addr → Prop} {ρ : Loc} {ω : Own} {l : Nat} {K : D → Prop} {x y : List Nat}
/-- a text with one written text made another -/
theorem pe_replace {o : Expr} {y z : Str} {apos pos p1 p2 : Pos} {k1 k2 : Nat}
    (h : Pe C ρ ω o (fun d => ∃ x, d = .str x ∧ x.length + (x.length + 1) * z.length ≤ lim ∧ K (.str (Txt.replace (mkS x) y z).cps.toList))) (hyz : (y == z) = false)
    (hbase : attributeBase o (Str.ofString "replace") C.env (eval o C.env) = eval o C.env)
    (hfew : ((backTo pos (starEach [.Constant (.str y) k1 p1, .Constant (.str z) k2 p2] C.env)).all (fun x => !x.1) && (backToKw pos (keywordEach [] C.env)).all (fun x => x.1.isSome)
      && decide (([.Constant (.str y) k1 p1, .Constant (.str z) k2 p2] : List Expr).length + ([] : List Keyword).length + (if ([] : List Keyword).isEmpty then 0 else 1) < 30)) = true)
    (hline : (apos.endLine == pos.line) = true) :
    Pe C ρ ω (.Call (.Attribute o (Str.ofString "replace") apos) [.Constant (.str y) k1 p1, .Constant (.str z) k2 p2] [] pos) K := .mk fun {Zo} s hs => by
  refine wpAny_Call_method_lateS hbase hfew hline (wpAny_mono (h.run s hs) (fun ov s₁ x => ?_) fun _ _ e => e)
  obtain ⟨k1, d, i1, x, rfl, hl, hK⟩ := x
  cases i1
  have hs1 := hs.keeps k1
  refine ⟨"str", _, F.plainAttrs_str, F.slot_str_replace, F.type_str_replace, typeIs_str _ _ _, (fun _ e => nomatch e), ?_⟩
  refine callWith_method1 (first := [.str (mkS x) _]) ?_ rfl rfl
  refine wpAny_items_cons (wpAny_Constant_str (wpAny_items_cons (wpAny_Constant_str (Calls.spliced_nil ?_)) rfl)) rfl
  refine wpAny_free ?_
  have ht := hs1.tok
  refine SC.replace (Nat.ne_of_gt ht) (Nat.succ_ne_zero _) (Nat.ne_of_lt (Nat.lt_succ_self _)) hyz (by rw [mkS_length]; simpa [lim, Str.length] using hl) fun t' k htk => ?_
  have htk' : s₁.toks ≤ k := Nat.le_trans (Nat.le_trans (Nat.le_succ _) (Nat.le_succ _)) htk
  exact ⟨k1.trans (Kp.tok _ _ htk'), _, is_lit rfl, hK⟩
/-- a datum's kind -/
def TyD (C : Cx) (T : String) (d : D) : Prop := ∀ (Z : Addr → Prop) (s : Shared) (v : Value), Und C Z s → Is Z s.heap v d → s.TypeIs v T ∧ ∀ a, v = .ref a → ∃ ob, s.heap.get? a = some ob ∧ ob.dict = none
/-- a method of an object -/
theorem pe_methT {T : String} {o : Expr} {name : Str} {id : String} {apos pos : Pos} {e : Expr} {es : List Expr} (pa : PlainAttrs T) (slot : Slot T name id) (ty : typeOf (.builtin id) = pure (.type "method_descriptor"))
    (h : Pe C ρ ω o (fun d => TyD C T d ∧ Pl C ρ ω (e :: es) (fun ds => DoC C (.builtin id) (d :: ds) K)))
    (hbase : attributeBase o name C.env (eval o C.env) = eval o C.env)
    (hfew : ((backTo pos (starEach (e :: es) C.env)).all (fun x => !x.1) && (backToKw pos (keywordEach [] C.env)).all (fun x => x.1.isSome)
      && decide ((e :: es).length + ([] : List Keyword).length + (if ([] : List Keyword).isEmpty then 0 else 1) < 30)) = true)
    (hline : (apos.endLine == pos.line) = true)
    (he : starEach (e :: es) C.env = (false, eval e C.env) :: starEach es C.env) (hplain : (backTo pos (starEach es C.env)).any (·.1) = false) :
    Pe C ρ ω (.Call (.Attribute o name apos) (e :: es) [] pos) K := .mk fun {Zo} s hs => by
  refine wpAny_Call_method_lateS hbase hfew hline (wpAny_mono (h.run s hs) (fun ov s₁ x => ?_) fun _ _ e => e)
  obtain ⟨k1, d, i1, hT, h1⟩ := x
  have hs1 := hs.keeps k1
  obtain ⟨t1, t2⟩ := hT _ _ _ hs1.und i1
  refine ⟨T, id, pa, slot, ty, t1, t2, ?_⟩
  refine callWith_method1 (first := [ov]) (wpAny_mono (h1.run s₁ pos hs1) (fun vs s₂ ⟨k2, ds, i2, h2⟩ => ?_) fun _ _ e => e) he hplain
  have hs2 := hs1.keeps k2
  exact wpAny_mono (h2.run s₂ _ hs2.und (.cons (i1.keepsK k2) i2)) (fun r s₃ ⟨k3, d, i3, h3⟩ => ⟨(k1.trans k2).trans k3, d, i3, h3⟩) fun _ _ e => e
end
end Mine
end

section
namespace Mine
section
variable {C : Cx} {Zo : Addr → Prop} {ρ : Loc} {ω : Own} {l : Nat} {K : D → Prop} {a b : Int}
theorem str_of {x : Str} {l : List Nat} (e : x.cps.toList = l) : x = mkS l := by
  obtain ⟨a⟩ := x; subst e; simp [mkS]
theorem pe_replace1 {o : Expr} {y z : Str} {c : Nat} {zl : List Nat} {apos pos p1 p2 : Pos} {k1 k2 : Nat} (hy : y.cps.toList = [c]) (hz : z.cps.toList = zl)
    (h : Pe C ρ ω o (fun d => ∃ x, d = .str x ∧ x.length + (x.length + 1) * zl.length ≤ lim ∧ K (.str (repL c zl x)))) (hyz : (y == z) = false)
    (hbase : attributeBase o (Str.ofString "replace") C.env (eval o C.env) = eval o C.env)
    (hfew : ((backTo pos (starEach [.Constant (.str y) k1 p1, .Constant (.str z) k2 p2] C.env)).all (fun x => !x.1) && (backToKw pos (keywordEach [] C.env)).all (fun x => x.1.isSome)
      && decide (([.Constant (.str y) k1 p1, .Constant (.str z) k2 p2] : List Expr).length + ([] : List Keyword).length + (if ([] : List Keyword).isEmpty then 0 else 1) < 30)) = true)
    (hline : (apos.endLine == pos.line) = true) :
    Pe C ρ ω (.Call (.Attribute o (Str.ofString "replace") apos) [.Constant (.str y) k1 p1, .Constant (.str z) k2 p2] [] pos) K := by
  refine pe_replace (h.mono fun d ⟨x, e, hl, hK⟩ => ⟨x, e, ?_, ?_⟩) hyz hbase hfew hline
  · rw [str_of hz, mkS_length]; exact hl
  · rw [str_of hy, str_of hz, replace_eq]; exact hK
end
end Mine
end

section
namespace Mine
/-- what a table says of a sign -/
def MapOk (tr : Nat → List Nat) (c : Nat) : Builtin.Str.Mapped → Prop
  | .text t => t.cps.toList = tr c
  | .keep => tr c = [c]
  | _ => False
section
variable {M : Model} {A : Around} {E : Value → Shared → Prop} {s : Shared} {x : List Nat} {a : Addr} {t : Tok} {tr : Nat → List Nat}
end
end Mine
end

section
namespace Mine
def allStr : List Value → List (List Nat) → Bool
  | [], [] => true
  | .str s _ :: vs, l :: ls => s.cps.toList == l && allStr vs ls
  | _, _ => false
theorem allStr_is {Z : Addr → Prop} {h : Heap} : ∀ {vs : List Value} {ls : List (List Nat)}, allStr vs ls = true → IsAll Z h vs (ls.map .str)
  | [], [], _ => .nil
  | .str s t :: vs, l :: ls, e => by
    simp only [allStr, Bool.and_eq_true, beq_iff_eq] at e
    exact .cons (is_lit e.1) (allStr_is e.2)
  | [], _ :: _, e => by cases e
  | .none :: _, _, e => by cases e
  | .bool _ :: _, _, e => by cases e
  | .int _ _ :: _, _, e => by cases e
  | .str _ _ :: _, [], e => by cases e
  | .float _ _ :: _, _, e => by cases e
  | .bytes _ _ :: _, _, e => by cases e
  | .ref _ :: _, _, e => by cases e
  | .builtin _ :: _, _, e => by cases e
  | .type _ :: _, _, e => by cases e
  | .notImplemented :: _, _, e => by cases e
  | .ellipsis :: _, _, e => by cases e
theorem base_list {h : Heap} {a : Addr} {o : Obj} {vs : Array Value} {n : Nat} {ls : List (List Nat)} (ho : h.get? a = some o) (hc : o.cls = .type "list") (hd : o.data = .seq vs n) (e : allStr vs.toList ls = true) :
    Is (fun b => h.get? b = none) h (.ref a) (.list (ls.map .str)) :=
  .list (vs := vs.toList) (fun q => by rw [ho] at q; cases q) ⟨o, ho, hc, n, by rw [hd]⟩ (allStr_is e)
section
variable {C : Cx} {ρ : Loc} {ω : Own} {l : Nat} {K : D → Prop} {x : List Nat}
end
end Mine
end

section
namespace Mine
section
variable {C : Cx} {ρ : Loc} {ω : Own} {l : Nat} {K : D → Prop} {x y : List Nat} {a b : Int}
end
end Mine
end

section
namespace Mine
def fmt08 : List Nat := [61, 63, 37, 115, 63, 113, 63, 37, 115, 63, 61]
section
variable {C : Cx} {ρ : Loc} {ω : Own} {l : Nat} {K : D → Prop} {x y : List Nat} {a b : Int}
end
section
variable {prog : Program} {w : World} {A : Around} {E : Value → Shared → Prop} {s : Shared}
end
section
variable {C : Cx} {K : D → Prop}
end
end Mine
end

section
namespace Mine
section
variable {C : Cx} {ρ : Loc} {ω : Own} {l : Nat} {K : D → Prop}
/-- the parts of a laid text -/
structure Pj (C : Cx) (ρ : Loc) (ω : Own) (es : List Expr) (acc : List Nat) (K : List Nat → Prop) : Prop where
  run : ∀ {Zo : Addr → Prop} s, Sta C Zo ρ ω s → Joins C.M C.A NoE (evalEach es C.env) (mkS acc) (fun out s₁ => Kp (C.Z Zo ω) s s₁ ∧ ∃ o, out = mkS o ∧ K o) s
end
end Mine
end

section
namespace Mine
structure B07 (C : Cx) : Prop where
  X : (hd.heap_39 C.w.params).In C.h₀
  G : Ground0 C
  bl : ∀ x : Str, x ≠ "__name__" → C.mb x = bootBuiltins x
theorem B07.kin {C C' : Cx} (B : B07 C) (k : Kin C C') : B07 C' := ⟨by rw [k.w, k.h₀]; exact B.X, ⟨by rw [k.h₀, k.mg]; exact B.G.g, by rw [k.h₀, k.mb]; exact B.G.b, by rw [k.h₀]; exact B.G.nolimit⟩, by rw [k.mb]; exact B.bl⟩
theorem B07.g__QUOPRI_MAP {C : Cx} (B : B07 C) : C.mg (Str.ofString "_QUOPRI_MAP") = some (Value.ref 39) := by rw [mg_of B.G.g (B.X 3 _ rfl) rfl]; rfl
theorem B07.g__law_due {C : Cx} (B : B07 C) : C.mg (Str.ofString "_law_due") = some (Value.ref 107) := by rw [mg_of B.G.g (B.X 3 _ rfl) rfl]; rfl
theorem B07.g__law_told {C : Cx} (B : B07 C) : C.mg (Str.ofString "_law_told") = some (Value.ref 100) := by rw [mg_of B.G.g (B.X 3 _ rfl) rfl]; rfl
theorem B07.g__twin_re_1 {C : Cx} (B : B07 C) : C.mg (Str.ofString "_twin_re_1") = some (Value.ref 36) := by rw [mg_of B.G.g (B.X 3 _ rfl) rfl]; rfl
theorem B07.g__unquote_match {C : Cx} (B : B07 C) : C.mg (Str.ofString "_unquote_match") = some (Value.ref 86) := by rw [mg_of B.G.g (B.X 3 _ rfl) rfl]; rfl
theorem B07.g_decode {C : Cx} (B : B07 C) : C.mg (Str.ofString "decode") = some (Value.ref 79) := by rw [mg_of B.G.g (B.X 3 _ rfl) rfl]; rfl
theorem B07.g_header_decode {C : Cx} (B : B07 C) : C.mg (Str.ofString "header_decode") = some (Value.ref 93) := by rw [mg_of B.G.g (B.X 3 _ rfl) rfl]; rfl
theorem B07.g_hexdigits {C : Cx} (B : B07 C) : C.mg (Str.ofString "hexdigits") = some (Value.str (Str.ofString "0123456789abcdefABCDEF") 1360) := by rw [mg_of B.G.g (B.X 3 _ rfl) rfl]; rfl
theorem B07.g_quote {C : Cx} (B : B07 C) : C.mg (Str.ofString "quote") = some (Value.ref 66) := by rw [mg_of B.G.g (B.X 3 _ rfl) rfl]; rfl
theorem B07.g_unquote {C : Cx} (B : B07 C) : C.mg (Str.ofString "unquote") = some (Value.ref 59) := by rw [mg_of B.G.g (B.X 3 _ rfl) rfl]; rfl
theorem B07.g_IndexError {C : Cx} (B : B07 C) : C.mg (Str.ofString "IndexError") = none ∧ C.mb (Str.ofString "IndexError") = some (.type "IndexError") := ⟨by rw [mg_of B.G.g (B.X 3 _ rfl) rfl]; rfl, by rw [B.bl _ (by decide)]; exact PyProof.Rows.Boot.«IndexError»⟩
theorem B07.g_TypeError {C : Cx} (B : B07 C) : C.mg (Str.ofString "TypeError") = none ∧ C.mb (Str.ofString "TypeError") = some (.type "TypeError") := ⟨by rw [mg_of B.G.g (B.X 3 _ rfl) rfl]; rfl, by rw [B.bl _ (by decide)]; exact PyProof.Rows.Boot.«TypeError»⟩
theorem B07.g_chr {C : Cx} (B : B07 C) : C.mg (Str.ofString "chr") = none ∧ C.mb (Str.ofString "chr") = some (.builtin "chr") := ⟨by rw [mg_of B.G.g (B.X 3 _ rfl) rfl]; rfl, by rw [B.bl _ (by decide)]; exact boot_chr⟩
theorem B07.g_divmod {C : Cx} (B : B07 C) : C.mg (Str.ofString "divmod") = none ∧ C.mb (Str.ofString "divmod") = some (.builtin "divmod") := ⟨by rw [mg_of B.G.g (B.X 3 _ rfl) rfl]; rfl, by rw [B.bl _ (by decide)]; exact boot_divmod⟩
theorem B07.g_int {C : Cx} (B : B07 C) : C.mg (Str.ofString "int") = none ∧ C.mb (Str.ofString "int") = some (.type "int") := ⟨by rw [mg_of B.G.g (B.X 3 _ rfl) rfl]; rfl, by rw [B.bl _ (by decide)]; exact boot_int⟩
theorem B07.g_len {C : Cx} (B : B07 C) : C.mg (Str.ofString "len") = none ∧ C.mb (Str.ofString "len") = some (.builtin "len") := ⟨by rw [mg_of B.G.g (B.X 3 _ rfl) rfl]; rfl, by rw [B.bl _ (by decide)]; exact boot_len⟩
theorem B07.g_ord {C : Cx} (B : B07 C) : C.mg (Str.ofString "ord") = none ∧ C.mb (Str.ofString "ord") = some (.builtin "ord") := ⟨by rw [mg_of B.G.g (B.X 3 _ rfl) rfl]; rfl, by rw [B.bl _ (by decide)]; exact boot_ord⟩
theorem B07.g_range {C : Cx} (B : B07 C) : C.mg (Str.ofString "range") = none ∧ C.mb (Str.ofString "range") = some (.type "range") := ⟨by rw [mg_of B.G.g (B.X 3 _ rfl) rfl]; rfl, by rw [B.bl _ (by decide)]; exact boot_range⟩
end Mine
end

section
namespace Mine
/-- many names at once -/
def puts : Loc → List (Str × Pos) → List D → Loc
  | ρ, x :: xs, d :: ds => puts (put ρ x.1 d) xs ds
  | ρ, _, _ => ρ
abbrev nms (xs : List (Str × Pos)) : List Expr := xs.map fun x => .Name x.1 x.2
theorem assignEach_nms {env : Env} : ∀ (xs : List (Str × Pos)), assignEach (nms xs) env = xs.map fun x => (false, assign (.Name x.1 x.2) env)
  | [] => rfl
  | x :: xs => by
    show (false, assign (.Name x.1 x.2) env) :: assignEach (nms xs) env = _
    rw [assignEach_nms xs]; rfl
section
variable {prog : Program} {w : World} {A : Around} {E : Value → Shared → Prop} {s : Shared}
end
section
variable {C : Cx} {Zo : Addr → Prop} {ρ : Loc} {ω : Own} {l : Nat} {K : Fl → Loc → Own → Prop}
theorem Step.out {ω' : Own} {s s' : Shared} (x : Step C Zo ω ω' s s') {b : Addr} {o : Obj} (hz : ¬ C.Z Zo ω b) (e : s.heap.get? b = some o) : s'.heap.get? b = some o := (x.keep b o (fun q => hz (.inr q)) e).1 fun z => hz (.inl z.1)
theorem stores_doc (ok : C.Ok l) : ∀ (xs : List (Str × Pos)) (vs : List Value) (ds : List D) (ρ : Loc) (s : Shared), Sta C Zo ρ ω s → IsAll (C.Z Zo ω) s.heap vs ds → ds.length = xs.length → (∀ x ∈ xs, Stor C x.1) →
    wpAny C.M C.A (assignInOrder (xs.map fun x => assign (.Name x.1 x.2) C.env) vs) (fun _ s' => Sta C Zo (puts ρ xs ds) ω s' ∧ Step C Zo ω ω s s') NoE s
  | [], _, _, ρ, s, hs, ia, hl, _ => by
    cases ia with
    | nil => exact wpAny_pure ⟨hs, Step.refl _ _ _ _⟩
    | cons _ _ => simp at hl
  | x :: xs, _, _, ρ, s, hs, ia, hl, hx => by
    cases ia with
    | nil => simp at hl
    | cons i ia =>
      rename_i v d vs ds
      show wpAny C.M C.A (do holding vs (assign (.Name x.1 x.2) C.env v); assignInOrder _ vs) _ _ s
      refine wpAny_bind (wpAny_holding (wpAny_assign_Name (wpAny_mono (store_doc ok hs i (hx x (.head _))) (fun _ s₁ ⟨hs1, st1⟩ => ?_) fun _ _ e => e.elim)))
      have ia' : IsAll (C.Z Zo ω) s₁.heap vs ds := ia.move fun b o hz e => ⟨hz, st1.out hz e⟩
      exact wpAny_mono (stores_doc ok xs vs ds _ s₁ hs1 ia' (by simpa using hl) fun y hy => hx y (.tail _ hy)) (fun _ s₂ ⟨hs2, st2⟩ => ⟨hs2, st1.trans st2⟩) fun _ _ e => e
/-- a tuple to many names -/
theorem unpack_doc {xs : List (Str × Pos)} {k : Nat} {tp : Pos} {s : Shared} {v : Value} {ds : List D} (ok : C.Ok l) (hs : Sta C Zo ρ ω s) (i : Is (C.Z Zo ω) s.heap v (.tup ds)) (hl : ds.length = xs.length) (hx : ∀ x ∈ xs, Stor C x.1) :
    wpAny C.M C.A (assign (.Tuple (nms xs) k tp) C.env v) (fun _ s' => Sta C Zo (puts ρ xs ds) ω s' ∧ Step C Zo ω ω s s') NoE s := by
  cases i with
  | tup hz ht ia =>
    rename_i a vs
    have hlen := ia.length
    refine wpAny_assign_Tuple ok.room.hd ht ?_ ?_ fun h' he => ?_
    · rw [assignEach_nms, List.length_map, List.size_toArray]; omega
    · rw [assignEach_nms]; exact List.findIdx?_eq_none_iff.mpr fun x hx => by obtain ⟨y, _, rfl⟩ := List.mem_map.mp hx; rfl
    · rw [assignEach_nms, List.map_map]
      have kp : Kp (C.Z Zo ω) s { s with heap := h' } := ⟨h', s.toks, rfl, .of fun b o e => he b o (Nat.ne_of_lt (Heap.lt_size e)) e, Nat.le_refl _⟩
      exact wpAny_mono (stores_doc ok xs vs ds ρ { s with heap := h' } (hs.keeps kp) (ia.keepsK kp) hl hx) (fun _ s₂ ⟨hs2, st2⟩ => ⟨hs2, kp.step.trans st2⟩) fun _ _ e => e
theorem ex_unpack {xs : List (Str × Pos)} {k : Nat} {tp pos : Pos} {value : Expr} (ok : C.Ok l) (hx : ∀ x ∈ xs, Stor C x.1)
    (h : Pe C ρ ω value (fun d => ∃ ds, d = .tup ds ∧ ds.length = xs.length ∧ K .next (puts ρ xs ds) ω))
    (hs : swapsWithSole [.Tuple (nms xs) k tp] value pos.line C.env = pure false) (hw : swappedStores [.Tuple (nms xs) k tp] value C.env = pure none) :
    Ex C ρ ω (.Assign [.Tuple (nms xs) k tp] value pos) K := .mk fun {Zo} s hs₀ => by
  refine Assign_Tuple (wpAny_mono (h.run s hs₀) (fun v s₁ ⟨k1, d, i1, ds, e, hl, hK⟩ => ?_) fun _ _ e => e) hs hw
  subst e
  exact wpAny_mono (unpack_doc ok (hs₀.keeps k1) i1 hl hx) (fun _ s₂ ⟨hs2, st2⟩ => ⟨.next, _, ω, trivial, hs2, k1.step.trans st2, hK⟩) fun _ _ e => e
end
end Mine
end

section
namespace Mine
section
variable {C : Cx} {Zo : Addr → Prop} {ρ : Loc} {ω : Own} {l : Nat} {K : Fl → Loc → Own → Prop}
end
section
variable {prog : Program} {w : World} {A : Around} {E : Value → Shared → Prop} {s : Shared}
end
end Mine
end

section
namespace Mine
section
variable {C : Cx} {Zo : Addr → Prop} {ρ : Loc} {ω : Own} {l : Nat} {K : Fl → Loc → Own → Prop}
end
end Mine
end

section
namespace Mine
end Mine
end

section
namespace Mine
end Mine
end

section
namespace Mine
section
variable {C : Cx} {Zo : Addr → Prop} {ρ : Loc} {ω : Own} {l : Nat} {K : D → Prop}
/-- data without addresses -/
def Atom : D → Prop
  | .none => True
  | .bool _ => True
  | .int _ => True
  | .str _ => True
  | _ => False
/-- a call lends own lists to be read -/
inductive Lend (ω : Own) : List D → List D → Prop where
  | nil : Lend ω [] []
  | same {d : D} {ds es : List D} : Lend ω ds es → Lend ω (d :: ds) (d :: es)
  | lent {a : Addr} {xs : List D} {ds es : List D} : getO ω a = some xs → Lend ω ds es → Lend ω (.val (.ref a) :: ds) (.list xs :: es)
end
end Mine
end

section
namespace Mine
/-- the bound method a.append -/
def bndObj (a : Addr) : Obj := { cls := .type "builtin_function_or_method", data := .fields #[.builtin "list.append", .ref a] }
section
variable {prog : Program} {w : World} {A : Around} {E : Value → Shared → Prop} {h : Heap} {g : Array GenState} {d : Drawn} {t : Nat} {os : OsState} {a : Addr} {o : Obj}
end
/-- the bound method's datum -/
def bndD (q a : Addr) : D := .frag [(q, bndObj a)] (.ref q)
section
variable {C : Cx} {ρ : Loc} {ω : Own} {K : D → Prop}
end
end Mine
end

section
namespace Mine
section
variable {M : Model} {A : Around} {E : Value → Shared → Prop} {s : Shared} {prog : Program} {w : World}
def sigA : Manifest.Signature := ⟨.oneArg, "list.append", "append", .self, [⟨"object", .posOnly, true⟩]⟩
end
section
variable {C : Cx} {ρ : Loc} {ω : Own} {K : Fl → Loc → Own → Prop}
end
end Mine
end

section
namespace Mine
/-- an own list is let go: it will not be changed any more -/
def remO (ω : Own) (a : Addr) : Own := ω.filter fun p => decide (p.1 ≠ a)
section
variable {C : Cx} {Zo : Addr → Prop} {ρ : Loc} {ω : Own} {l : Nat}
end
section
variable {C : Cx} {Zo : Addr → Prop} {ρ : Loc} {ω : Own} {l : Nat} {K : Fl → Loc → Own → Prop}
end
end Mine
end

section
namespace Mine
/-- each a b becomes z -/
def rep2 (a b : Nat) (z : List Nat) : List Nat → List Nat
  | [] => []
  | [c] => [c]
  | c :: d :: r => if c = a ∧ d = b then z ++ rep2 a b z r else c :: rep2 a b z (d :: r)
section
variable {C : Cx} {Zo : Addr → Prop} {ρ : Loc} {ω : Own} {l : Nat}
end
section
variable {C : Cx} {K : D → Prop}
theorem doc_divmod {a b : Int} (h0 : 0 < b) (hb : b < 1073741824) (h : K (.tup [.int (a / b), .int (a % b)])) : DoC C (.builtin "divmod") [.int a, .int b] K := .mk fun {Z} s vs U i => by
  cases i with
  | cons i j =>
    cases j with
    | cons j k =>
      cases k; cases i; cases j
      refine PyProof.Rows.divmod_int (by omega) ⟨Kp.push_tok _ _ _ (by omega), _, .tup (vs := [_, _]) (ds := [.int (a / b), .int (a % b)]) U.live.new ⟨_, Heap.get?_push_size _ rfl, rfl, _, rfl⟩ (.cons ?_ (.cons ?_ .nil)), h⟩ (.inl (PyProof.noPylong_small (by omega)))
      · rw [Int.fdiv_eq_ediv_of_nonneg _ (by omega)]; exact .int
      · rw [Int.fmod_eq_emod_of_nonneg _ (by omega)]; exact .int
end
end Mine
end

section
namespace Mine
section
variable {C : Cx} {K : D → Prop}
end
end Mine
end

section
namespace Mine
def hxB (n : Nat) : Nat := if n < 10 then 48 + n else 55 + n
abbrev plainB (c : Nat) : Prop := (32 ≤ c ∧ c ≤ 126 ∧ c ≠ 61) ∨ c = 9
/-- quote -/
def qm (c : Nat) : List Nat := [61, hxB (c / 16), hxB (c % 16)]
/-- the body's map; a sign above 255 stays -/
def bm (c : Nat) : List Nat := if plainB c ∨ 256 ≤ c then [c] else qm c
/-- body_encode's map -/
def em (c : Nat) : List Nat := if c = 10 ∨ c = 13 then [c] else bm c
theorem hxB_ok : ∀ n, n < 16 → hxB n ∈ hexL ∧ hv (hxB n) = n ∧ hxB n ≠ 61 ∧ hxB n ≠ 32 ∧ hxB n ≠ 9 ∧ hxB n ≠ 10 ∧ hxB n ≠ 13 ∧ 48 ≤ hxB n ∧ hxB n < 71 := by
  have h : ∀ n : _root_.Fin 16, hxB n.1 ∈ hexL ∧ hv (hxB n.1) = n.1 ∧ hxB n.1 ≠ 61 ∧ hxB n.1 ≠ 32 ∧ hxB n.1 ≠ 9 ∧ hxB n.1 ≠ 10 ∧ hxB n.1 ≠ 13 ∧ 48 ≤ hxB n.1 ∧ hxB n.1 < 71 := by decide
  intro n hn; exact h ⟨n, hn⟩
/-- where a row ends -/
def cutN (M : Nat) (r : List Nat) : Nat := if r[M - 3]? = some 61 then M - 3 else if r[M - 2]? = some 61 then M - 2 else M - 1
def encGo (M : Nat) : Nat → List Nat → List (List Nat) × List Nat
  | 0, r => ([], r)
  | n + 1, r => if r.length ≤ M then ([], r) else ((r.take (cutN M r) ++ [61]) :: (encGo M n (r.drop (cutN M r))).1, (encGo M n (r.drop (cutN M r))).2)
def encW (M : Nat) (r : List Nat) : List (List Nat) × List Nat := encGo M r.length r
/-- the last row of a line -/
def lastB (M : Nat) (eol : List Nat) (line r : List Nat) : List Nat :=
  if line ≠ [] ∧ (line.getLast? = some 32 ∨ line.getLast? = some 9) then
    (if r.length + 2 ≤ M then r.dropLast ++ qm (line.getLastD 0) else if r.length + 1 = M then r.dropLast ++ ([line.getLastD 0] ++ (61 :: eol)) else r.dropLast ++ ((61 :: eol) ++ qm (line.getLastD 0)))
  else r
def encLine (M : Nat) (eol line : List Nat) : List (List Nat) := (encW M line).1 ++ [lastB M eol line (encW M line).2]
def bodyL (t : List Nat) : List Nat := (t.map em).flatten
/-- what body_encode gives -/
def bodyF (M : Nat) (eol t : List Nat) : List Nat :=
  if t = [] then [] else joinL eol ((linesL (bodyL t)).flatMap (encLine M eol) ++ if (bodyL t).getLast? = some 13 ∨ (bodyL t).getLast? = some 10 then [[]] else [])
theorem joinL_cons {eol a : List Nat} {L : List (List Nat)} (h : L ≠ []) : joinL eol (a :: L) = a ++ eol ++ joinL eol L := by
  cases L with
  | nil => exact (h rfl).elim
  | cons b L => rfl
theorem joinL_app {eol : List Nat} : ∀ {A B : List (List Nat)}, A ≠ [] → B ≠ [] → joinL eol (A ++ B) = joinL eol A ++ eol ++ joinL eol B
  | [a], B, _, hB => joinL_cons hB
  | a :: b :: A, B, _, hB => by
    rw [List.cons_append, joinL_cons (by simp), joinL_app (by simp) hB, joinL_cons (L := b :: A) (by simp)]
    simp [List.append_assoc]
end Mine
end

section
namespace Mine
local macro_rules | `(tactic| walk_at "m_ne") => `(tactic| first | with_reducible assumption | decide +kernel)
local macro_rules | `(tactic| walk_at "m_get") => `(tactic| first | with_reducible exact get_put_same | with_reducible exact get_cons_same | with_reducible assumption | ((with_reducible refine get_put_eq ?_); rfl) | ((with_reducible refine get_cons_eq ?_); rfl) | ((with_reducible refine get_put_ne ?_ ?_); (walk_at "m_ne"); walk_at "m_get") | ((with_reducible refine get_cons_ne ?_ ?_); (walk_at "m_ne"); walk_at "m_get") | ((with_reducible refine cap_get1 ?_); walk_at "m_get") | ((with_reducible refine cap_get3 ?_); walk_at "m_get") | ((with_reducible refine cap_get2 ?_); walk_at "m_get"))
local macro_rules | `(tactic| walk_at "m_kind") => `(tactic| with_reducible assumption)
local macro_rules | `(tactic| walk_at "m_dbg") => `(tactic| decide +kernel)
local macro_rules | `(tactic| walk_at "m_stor") => `(tactic| first | exact Or.inl (by with_reducible assumption) | exact Or.inr ⟨by with_reducible assumption, cells_of (by with_reducible assumption) rfl⟩)
local macro_rules | `(tactic| walk_at "m_name") => `(tactic| first
  | (apply pe_loc; (with_reducible assumption); walk_at "m_get"; walk_at "m_kind"; rotate_left; walk_at "m_dbg")
  | (apply pe_cell; (with_reducible assumption); walk_at "m_get"; walk_at "m_kind"; rotate_left; walk_at "m_dbg")
  | (apply pe_blt; (with_reducible assumption); exact And.left (by with_reducible assumption); exact And.right (by with_reducible assumption); walk_at "m_kind"; rotate_left; walk_at "m_dbg")
  | (apply pe_glob; (with_reducible assumption); (with_reducible assumption); (first | exact is_lit (by with_reducible assumption) | (with_reducible assumption) | (with_reducible exact Is.val)); walk_at "m_kind"; rotate_left; walk_at "m_dbg"))
local macro_rules | `(tactic| walk_at "m_meth") => `(tactic| first
  | (apply pe_replace1; (with_reducible assumption); (with_reducible assumption); rotate_left; decide +kernel; rfl; rfl; rfl)
  | (refine pe_meth F.slot_str_split F.type_str_split ?_ ?_ ?_ ?_ ?_ ?_; rotate_left; rfl; rfl; rfl; rfl; rfl)
  | (refine pe_meth F.slot_str_translate F.type_str_translate ?_ ?_ ?_ ?_ ?_ ?_; rotate_left; rfl; rfl; rfl; rfl; rfl)
  | (refine pe_meth F.slot_str_rstrip F.type_str_rstrip ?_ ?_ ?_ ?_ ?_ ?_; rotate_left; rfl; rfl; rfl; rfl; rfl)
  | (refine pe_meth0 F.slot_str_rstrip F.type_str_rstrip ?_ ?_ ?_; rotate_left; rfl; rfl)
  | (refine pe_meth0 F.slot_str_lower F.type_str_lower ?_ ?_ ?_; rotate_left; rfl; rfl)
  | (refine pe_meth0 F.slot_str_splitlines F.type_str_splitlines ?_ ?_ ?_; rotate_left; rfl; rfl)
  | (refine pe_meth F.slot_str_endswith F.type_str_endswith ?_ ?_ ?_ ?_ ?_ ?_; rotate_left; rfl; rfl; rfl; rfl; rfl)
  | (refine pe_meth F.slot_str_index F.type_str_index ?_ ?_ ?_ ?_ ?_ ?_; rotate_left; rfl; rfl; rfl; rfl; rfl)
  | (refine pe_meth F.slot_str_find F.type_str_find ?_ ?_ ?_ ?_ ?_ ?_; rotate_left; rfl; rfl; rfl; rfl; rfl)
  | (refine pe_meth F.slot_str_join F.type_str_join ?_ ?_ ?_ ?_ ?_ ?_; rotate_left; rfl; rfl; rfl; rfl; rfl))
local macro_rules | `(tactic| walk_at "m_pe") => `(tactic| first
  | (guard_target =~ Pe _ _ _ (Expr.Name _ _) _; walk_at "m_name")
  | refine pe_int ?_
  | ((apply pe_strL); (with_reducible assumption))
  | refine pe_str ?_
  | refine pe_bool ?_
  | refine pe_bin ?_
  | refine pe_un ?_
  | (refine pe_rev ?_ ?_; rotate_left; (intros; rfl))
  | refine pe_slice ?_
  | (refine pe_cmp ?_ ?_; rotate_left; rfl)
  | (refine pe_sub ?_ ?_; rotate_left; (intros; rfl))
  | (refine pe_call ?_ ?_ ?_; rotate_left; rfl; rfl)
  | refine pe_ifexp ?_
  | refine pe_joined ?_
  | refine pe_fs ?_
  | refine pe_tup ?_
  | walk_at "m_meth")
local macro_rules | `(tactic| walk_at "m_asg") => `(tactic| (apply ex_assign; (with_reducible assumption); walk_at "m_stor"; rotate_left; rfl))
local macro_rules | `(tactic| walk_at "m_new") => `(tactic| (apply ex_new; (with_reducible assumption); walk_at "m_stor"; rotate_left; rfl))
local macro_rules | `(tactic| walk_at "m_ex") => `(tactic| first
  | refine ex_ret ?_
  | refine ex_if ?_
  | refine ex_cont ?_
  | refine ex_brk ?_
  | (refine ex_append ?_ ?_ ?_ ?_ ?_ ?_ ?_ ?_; rotate_left; rfl; rfl; rfl; rfl; rfl; exact inter (by assumption); rfl)
  | (refine ex_pop ?_ ?_ ?_ ?_ ?_; rotate_left; rfl; rfl; exact inter (by assumption); rfl)
  | ((fail_if_success (guard_target =~ Ex _ _ _ (Stmt.Assign _ (Expr.List _ _) _) _)); (fail_if_success (guard_target =~ Ex _ _ _ (Stmt.Assign _ (Expr.ListComp _ _ _ _) _) _)); walk_at "m_asg")
  | (apply ex_aug; (with_reducible assumption); walk_at "m_stor"; walk_at "m_get"))
local macro_rules | `(tactic| walk_at "m_do") => `(tactic| first
  | refine do_add_int ?_ | refine do_sub_int ?_ | refine do_iadd_int ?_ | refine do_isub_int ?_
  | refine do_eq_int ?_ | refine do_ne_int ?_ | refine do_lt_int ?_ | refine do_le_int ?_ | refine do_gt_int ?_ | refine do_ge_int ?_
  | refine do_eq_str ?_ | refine do_ne_str ?_ | refine do_in_str ?_ | refine do_notin_str ?_
  | refine do_mod_int (by decide) (by decide) ?_ | refine do_fdiv_int (by decide) (by decide) ?_)
local macro_rules | `(tactic| walk_at "m") => `(tactic| first
  | (guard_target =~ Pe _ _ _ _ _; walk_at "m_pe")
  | (guard_target =~ Exs _ _ _ _ _; (fail_if_success (guard_target =~ Exs _ _ _ (Stmt.If (Expr.BoolOp _ _ _) _ _ _ :: _) _)); first | refine exs_cons ?_ | refine exs_nil ?_)
  | (guard_target =~ Ex _ _ _ _ _; walk_at "m_ex")
  | (guard_target =~ Do2 _ _ _ _ _; walk_at "m_do")
  | (guard_target =~ Do1 _ _ _ _; first | refine do_neg_int ?_ | refine do_not ?_)
  | (guard_target =~ Pl _ _ _ _ _; first | refine pl_nil ?_ | (refine pl_cons ?_ ?_; rotate_left; rfl))
  | (guard_target =~ Pj _ _ _ _ _ _; first | refine pj_nil ?_ | refine pj_cons ?_)
  | (guard_target =~ Po _ _ _ _ _; first | refine po_none ?_ | refine po_some ?_)
  | (guard_target =~ Pt _ _ _ _ _; first | (refine pt_cmp ?_ ?_; rotate_left; rfl) | (refine pt_cmp2 ?_ ?_; rotate_left; rfl) | refine pt_not ?_ | refine pt_bool ?_ | (refine pt_val ?_ ?_; rotate_left; (intro _; rfl)))
  | (guard_target =~ Pi _ _ _ _ _ _; first | refine pi_nil ?_ | refine pi_one ?_)
  | (guard_target =~ Pb _ _ _ _ _ _; first | refine pb_and ?_ | refine pb_and_nil ?_ | refine pb_or ?_ | refine pb_or_nil ?_)
  | (guard_target =~ Tr1 _ _ _; first | refine tr_bool ?_ | refine tr_int ?_)
  | (guard_target =~ ite _ _ _; first | with_reducible refine ite_t ?_ | with_reducible refine ite_f ?_ | with_reducible refine ite_nt ?_ | with_reducible refine ite_nf ?_)
  | (guard_target =~ Exists _; first | refine ⟨_, rfl, .blt, ?_⟩ | refine ⟨_, rfl, .typ, ?_⟩ | refine ⟨_, rfl, ?_⟩))

theorem tabQ07 {C : Cx} (B : B07 C) : Is (fun b => C.h₀.get? b = none) C.h₀ (.ref 39) (.list (((List.range 256).map qm).map .str)) :=
  base_list (B.X 39 _ rfl) rfl rfl (by decide +kernel)
theorem tab_idx (f : Nat → List Nat) {c : Nat} (hc : c < 256) : idx (((List.range 256).map f).map D.str) (c : Int) = some (.str (f c)) := by
  refine idx_of ?_
  rw [List.getElem?_map, List.getElem?_map, List.getElem?_range hc]; rfl
theorem tab_len (f : Nat → List Nat) : (((List.range 256).map f).map D.str).length ≤ lim := by simp [lim]
theorem quote07 {C : Cx} {K : D → Prop} (B : B07 C) (room : Room C.A 1) {c : Nat} (hc : c < 256) (h : K (.str (qm c))) : DoC C (.ref 66) [.str [c]] K := by
  refine enter' (l := 0) B.G room [(Str.ofString "c", .str [c])] ⟨⟨_, B.X 66 _ rfl, rfl⟩, codeRec_of B.X rfl, rfl, rfl, rfl, rfl, rfl, rfl, rfl⟩ ?_ ?_ ?_
  · intro Z s vs U ia
    cases ia with | cons i0 r0 => cases r0; exact ⟨[(Str.ofString "c", _)], BindsTo.of_eq rfl, rfl, .cons i0 .nil, by simp only [List.map_cons, List.map_nil]; decide +kernel⟩
  · intro n x hx
    simp only [List.map_cons, List.map_nil, List.mem_cons, List.not_mem_nil, or_false] at hx
    subst hx; exact Or.inl rfl
  intro C' ok kin hN hcl
  dsimp only at hN
  have B := B.kin kin
  replace hcl := hcl _ rfl
  replace hcl : C'.env.cells = [] := hcl
  have mg__QUOPRI_MAP := B.g__QUOPRI_MAP
  have mg_ord := B.g_ord
  have k_c : C'.env.kindOf (Str.ofString "c") = some .local := kind_of hN rfl
  have k__QUOPRI_MAP : C'.env.kindOf (Str.ofString "_QUOPRI_MAP") = some .globalImplicit := kind_of hN rfl
  have k_ord : C'.env.kindOf (Str.ofString "ord") = some .globalImplicit := kind_of hN rfl
  clear kin hN
  have hT := tabQ07 B
  repeat (walk_at "m")
  refine doc_ord ?_
  exact ⟨_, tab_idx qm hc, tab_len qm, h⟩

end Mine
end

section
namespace Mine
section
variable {C : Cx} {K : D → Prop}
end
end Mine
end

section
namespace Mine
/-- a heap with some objects out of sight -/
theorem hide (P : Addr → Prop) (h : Heap) : ∃ B : Heap, (∀ b, P b → B.get? b = none) ∧ ∀ b, ¬ P b → B.get? b = h.get? b := by
  classical
  refine ⟨{ h with objs := h.objs.mapIdx fun i o => if P i then { o with data := .freed } else o }, fun b hb => ?_, fun b hb => ?_⟩
  · unfold Heap.get?
    simp only [Array.getElem?_mapIdx]
    cases h.objs[b]? with
    | none => rfl
    | some o => simp [hb]
  · unfold Heap.get?
    simp only [Array.getElem?_mapIdx]
    cases h.objs[b]? with
    | none => rfl
    | some o => simp [hb]

/-- an exception that was made since s: its class, its traceback's head with the flight fl -/
def Flies (s : Heap) (X : String) (a : Addr) (fl : Value) (h : Heap) : Prop := s.get? a = none ∧
  ∃ oe vs T oT ts, h.get? a = some oe ∧ oe.cls = .type X ∧ oe.data = .fields vs ∧ vs[1]? = some (.ref T) ∧ s.get? T = none ∧ T ≠ a ∧ h.get? T = some oT ∧ oT.data = .fields ts ∧ ts[3]? = some fl
/-- an exception that was made since s and has no traceback yet -/
def Made (s : Heap) (X : String) (a : Addr) (h : Heap) : Prop := s.get? a = none ∧ ∃ oe vs, h.get? a = some oe ∧ oe.cls = .type X ∧ oe.data = .fields vs ∧ vs[1]? = some .none

section
variable {C : Cx} {Z : Addr → Prop} {h h' : Heap}
/-- the base for the library's rules: all but the zone's dicts -/
structure Shy (Z : Addr → Prop) (h B : Heap) : Prop where
  off : ∀ b o, h.get? b = some o → Z b → DictD o → B.get? b = none
  on : ∀ b o, h.get? b = some o → ¬ (Z b ∧ DictD o) → B.get? b = some o
  no : ∀ b, h.get? b = none → B.get? b = none
theorem shy (Z : Addr → Prop) (h : Heap) : ∃ B, Shy Z h B := by
  obtain ⟨B, h1, h2⟩ := hide (fun b => Z b ∧ ∃ o, h.get? b = some o ∧ DictD o) h
  refine ⟨B, fun b o e hz hd => h1 b ⟨hz, o, e, hd⟩, fun b o e q => ?_, fun b e => ?_⟩
  · rw [h2 b fun ⟨hz, o', e', hd⟩ => q ⟨hz, by rw [e] at e'; cases e'; exact hd⟩]; exact e
  · rw [h2 b fun ⟨hz, o', e', hd⟩ => by rw [e] at e'; cases e']; exact e
theorem Shy.stays {B : Heap} (x : Shy Z h B) (k : KG Z h h') : B.StaysIn h' := fun b o e => by
  cases e1 : h.get? b with
  | none => rw [x.no b e1] at e; cases e
  | some o1 =>
    by_cases q : Z b ∧ DictD o1
    · rw [x.off b o1 e1 q.1 q.2] at e; cases e
    · rw [x.on b o1 e1 q] at e; cases e; exact (k b o e1).1 q
/-- from the base back -/
theorem Shy.kg {B : Heap} {h'' : Heap} (x : Shy Z h B) (k : KG Z h h') (hs : B.StaysIn h'') (hu : ∀ b o, h'.get? b = some o → (∀ vs, o.data ≠ .fields vs) → ∃ sl, h''.get? b = some { o with slots := sl }) : KG Z h h'' := fun b o e => by
  by_cases q : Z b ∧ DictD o
  · refine ⟨fun n => (n q).elim, ?_⟩
    obtain ⟨sl, e1⟩ := (k b o e).2
    obtain ⟨es, ep, hd⟩ := q.2
    obtain ⟨sl2, e2⟩ := hu b _ e1 (fun vs p => by rw [show ({ o with slots := sl } : Obj).data = o.data from rfl, hd] at p; cases p)
    exact ⟨sl2, e2⟩
  · have := hs b o (x.on b o e q)
    exact ⟨fun _ => this, o.slots, this⟩
theorem Shy.none_of_fields {B : Heap} (x : Shy Z h B) {h'' : Heap} (k : KG Z h h'') {T : Addr} {oT : Obj} {ts : Array Value} (hn : B.get? T = none) (e : h''.get? T = some oT) (hd : oT.data = .fields ts) : h.get? T = none := by
  cases e1 : h.get? T with
  | none => rfl
  | some o =>
    by_cases q : Z T ∧ DictD o
    · obtain ⟨sl, e2⟩ := (k T o e1).2
      rw [e] at e2; cases e2
      obtain ⟨es, ep, hd'⟩ := q.2
      have hd2 : o.data = .fields ts := hd
      rw [hd'] at hd2; cases hd2
    · rw [x.on T o e1 q] at hn; cases hn
theorem FrOk.funFrames {B : Heap} (x : Shy Z h B) (f : FrOk C Z h) (k : KG Z h h') : ∃ l, C.A.frames = some l ∧ h'.FunFrames B l := by
  obtain ⟨l, hl, ff⟩ := f
  refine ⟨l, hl, ?_⟩
  clear hl
  induction l with
  | nil => trivial
  | cons e l ih =>
    obtain ⟨h1, L, o, h2, h3, h4, h5⟩ := ff e (.head _)
    obtain ⟨sl, e'⟩ := (k L o h4).2
    obtain ⟨es, ep, hd⟩ := h5
    exact ⟨h1, ⟨L, _, h2, x.off L o h4 h3 ⟨es, ep, hd⟩, e', fun vs p => by rw [show ({ o with slots := sl } : Obj).data = o.data from rfl, hd] at p; cases p⟩, ih fun a ha => ff a (.tail _ ha)⟩
end
end Mine
end

section
namespace Mine
/-- statements that may raise an exception of their own -/
structure ExsR (C : Cx) (ρ : Loc) (ω : Own) (sts : List Stmt) (K : Fl → Loc → Own → Prop) (X : String → Prop) : Prop where
  run : ∀ {Zo : Addr → Prop} s, Sta C Zo ρ ω s → wpAny C.M C.A (execs sts C.env) (Out C Zo ω s K) (fun e s' => ∃ a x, e = .ref a ∧ Kp (C.Z Zo ω) s s' ∧ Made s.heap x a s'.heap ∧ X x) s
/-- a call that may raise -/
structure DoR (C : Cx) (f : Value) (as : List D) (K : D → Prop) (X : String → Prop) : Prop where
  run : ∀ {Z : Addr → Prop} s vs, Und C Z s → IsAll Z s.heap vs as → wpAny C.M C.A (call f vs) (Gv Z s K) (fun e s' => ∃ a x, e = .ref a ∧ Kp Z s s' ∧ Flies s.heap x a .none s'.heap ∧ X x) s
theorem leave_first {C : Cx} {Z : Addr → Prop} {s s₁ s' : Shared} {f : Addr} {fd : FuncData} {body : List Stmt} {ρ : Loc} {K : D → Prop} {X : String → Prop} {a : Addr} {x : String} {oe : Obj} {ws : Array Value} {m : Str → Option Value} {hh : Heap} {tk : Nat}
    (G : Ground0 C) (fo : FnOk C f fd body) (U : Und0 C Z s) (hn : s₁.heap.Ns (callEnvC fd s.heap.objs.size f).locals m) (hkeep : ∀ b o, s.heap.get? b = some o → s₁.heap.get? b = some o)
    (hmu : ∀ a, (C.into fd f s.heap.objs.size).Mu [] a → s.heap.get? a = none) (es : s₁ = { s with heap := hh, toks := tk }) (hltk : s.toks ≤ s₁.toks)
    (hs1 : Sta (C.into fd f s.heap.objs.size) Z ρ [] s₁) (k1 : Kp ((C.into fd f s.heap.objs.size).Z Z []) s₁ s') (hna : s₁.heap.get? a = none) (he : s'.heap.get? a = some oe) (hcls : oe.cls = .type x) (hde : oe.data = .fields ws) (h1 : ws[1]? = some .none) (hX : X x) :
    wpAny C.M (C.A.deeper (callEnvC fd s.heap.objs.size f)) (leaving (callEnvC fd s.heap.objs.size f) (.ref a))
      (fun _ s'' => (∃ v, (Except.error (Value.ref a) : Result) = .ok (.ret v) ∧ Gv Z s K v s'') ∨ ∃ a' x, (Except.error (Value.ref a) : Result) = .error (.ref a') ∧ Kp Z s s'' ∧ Flies s.heap x a' .none s''.heap ∧ X x)
      (fun e' s'' => (∃ v, (Except.error e' : Result) = .ok (.ret v) ∧ Gv Z s K v s'') ∨ ∃ a' x, (Except.error e' : Result) = .error (.ref a') ∧ Kp Z s s'' ∧ Flies s.heap x a' .none s''.heap ∧ X x) s' := by
  obtain ⟨B, sh⟩ := shy Z s.heap
  have zz : ∀ b o, s.heap.get? b = some o → (C.into fd f s.heap.objs.size).Z Z [] b → Z b := fun b o e q => q.elim id fun q => by rw [hmu b q] at e; cases e
  have kg : KG Z s.heap s'.heap := (KG.of hkeep).trans2 k1.get zz
  have hsa : s.heap.get? a = none := by
    cases e : s.heap.get? a with
    | none => rfl
    | some o => rw [hkeep _ _ e] at hna; cases hna
  obtain ⟨l, hl, ff⟩ := FrOk.funFrames sh U.fr kg
  obtain ⟨oL, esL, epL, hoL, hdL, _⟩ := k1.get.ns hn
  have hff : s'.heap.FunFrames B (callEnvC fd s.heap.objs.size f :: l) := by
    refine ⟨fun q => ?_, ⟨s.heap.objs.size, oL, rfl, sh.no _ (size_none _), hoL, fun vs p => by rw [hdL] at p; cases p⟩, ff⟩
    have : fd.scope.kind = .module := q
    rw [fo.kind] at this; cases this
  refine wpAny_leaving_first (base := B) (outer := l) (by show C.A.frames.map _ = _; rw [hl]; rfl) hff rfl he (sh.stays kg) (sh.no _ hsa) hde h1 fun h'' ⟨q1, q2, q3, q4⟩ => ?_
  have kg2 : KG Z s.heap h'' := sh.kg kg q1 q4
  obtain ⟨oe', vs', T, oT, ts, t1, t2, t3, t4, t5, t6, t7, t8, t9⟩ := q3
  obtain ⟨h2, t2', e2, _, l2⟩ := k1
  refine .inr ⟨a, x, rfl, ⟨h'', t2', by rw [e2, es], kg2, Nat.le_trans hltk l2⟩, ⟨hsa, oe', vs', T, oT, ts, t1, t2.trans hcls, t3, t4, sh.none_of_fields kg2 t5 t7 t8, t6, t7, t8, t9⟩, hX⟩
theorem enterGR {C : Cx} {Z : Addr → Prop} {s : Shared} {vs : List Value} {f : Addr} {fd : FuncData} {body : List Stmt} {l : Nat} {as : List D} {K : D → Prop} {X : String → Prop} (G : Ground0 C) (fo : FnOk C f fd body) (room : Room C.A (l + 1)) (ρ : Loc)
    (hbind : ∀ (Z : Addr → Prop) s vs, Und0 C Z s → IsAll Z s.heap vs as → ∃ binds, BindsTo s fd ⟨vs, []⟩ binds ∧ Par Z s.heap binds ρ)
    (hkind : ∀ n, ∀ x ∈ ρ.map (·.1), fd.scope.names.lookup x = some .local ∨ (fd.scope.names.lookup x = some .cell ∧ ((cellsFrom n fd.scope.names []).lookup x).isSome = true))
    (h : ∀ L, ExsR (C.into fd f L) ρ [] body (fun fl _ _ => match fl with | .ret d => K d | .next => K .none | _ => False) X)
    (U : Und0 C Z s) (ia : IsAll Z s.heap vs as) (ht : 0 < s.toks ∨ ∃ n d r, ρ = (n, d) :: r ∧ fd.scope.names.lookup n = some .local) : codeAny C.M C.A (.call (.ref f) ⟨vs, []⟩) (fun r s' => (∃ v, r = .ok (.ret v) ∧ Gv Z s K v s') ∨ ∃ a x, r = .error (.ref a) ∧ Kp Z s s' ∧ Flies s.heap x a .none s'.heap ∧ X x) s := by
  have live := U.live
  obtain ⟨o, ho, hdata⟩ := fo.at_
  obtain ⟨binds, hb, par⟩ := hbind Z s vs U ia
  refine codeAny_call_function (by have := room.depth; show C.A.depth < 1000; omega) (U.base _ _ ho) hdata fo.co fo.gen fo.body ?_ (hb _ _ _ _ ?_)
  · obtain ⟨c, oc, ws, t, e1, e2, e3⟩ := fo.code
    exact ⟨c, oc, ws, t, e1, U.base _ _ e2, e3⟩
  rw [fo.clo]
  have hkb : ∀ x ∈ binds, fd.scope.names.lookup x.1 = some .local ∨ (fd.scope.names.lookup x.1 = some .cell ∧ ((cellsFrom (s.heap.objs.size + 1) fd.scope.names []).lookup x.1).isSome = true) := fun x hx => hkind _ x.1 (by rw [← par.names]; exact List.mem_map.mpr ⟨x, hx, rfl⟩)
  refine (fun main => ht.elim (fun ht => wpAny_free (wpAny_newFunctionEnv_cells fo.kind hkb fun env he s₁ x hltk => main env he s₁ x hltk (Nat.lt_of_lt_of_le ht hltk))) (fun ⟨n, d, r, e, hl⟩ => ?_) :
    (∀ env, env = newEnv fd.scope s.heap.objs.size fd.globals (cellsFrom (s.heap.objs.size + 1) fd.scope.names []) (fd.qualname ++ ".<locals>.") (some f) fd.code none fd.builtins → ∀ s₁, InCallC s env.locals (bindL env.kindOf binds fun _ => none) env.cells (bindC env.kindOf binds fun _ => none) s₁ → s.toks ≤ s₁.toks → 0 < s₁.toks → _) → _) ?_
  · have hn := par.names
    rw [e] at hn
    cases binds with
    | nil => cases hn
    | cons p bs =>
      obtain ⟨n', v⟩ := p
      simp only [List.map_cons, List.cons.injEq] at hn
      obtain ⟨rfl, _⟩ := hn
      exact wpAny_free (frame_tok fo.kind hl hkb fun env he s₁ x htok hltk => main env he s₁ x hltk htok)
  intro env he s₁ x hltk htok
  have henv : env = callEnvC fd s.heap.objs.size f := he
  subst henv
  refine ⟨(G.nolimit.keeps U.base).keeps x.toInCall.keep, codeAny_func ?_⟩
  have hkeep := x.toInCall.keep
  obtain ⟨hh, tk, es⟩ := x.toInCall.same
  have hL : s.heap.get? (callEnvC fd s.heap.objs.size f).locals = none := size_none _
  have hmu : ∀ a, (C.into fd f s.heap.objs.size).Mu [] a → s.heap.get? a = none := by
    rintro a (q | ⟨y, q⟩ | q)
    · rw [q]; exact hL
    · cases e : s.heap.get? a with
      | none => rfl
      | some o =>
        have h1 := x.above y a (mem_of_lookup q)
        have h2 := Heap.lt_size e
        exact absurd (Nat.lt_trans h2 h1) (Nat.lt_irrefl _)
    · cases q
  have mv : ∀ b o, ¬ Z b → s.heap.get? b = some o → ¬ (C.into fd f s.heap.objs.size).Z Z [] b ∧ s₁.heap.get? b = some o := fun b o hz e =>
    ⟨fun q => q.elim hz fun q => (by rw [hmu b q] at e; cases e), hkeep b o e⟩
  have hs1 : Sta (C.into fd f s.heap.objs.size) Z ρ [] s₁ := by
    refine ⟨fun b o e => hkeep b o (U.base b o e), ?_, ⟨_, x.toInCall.ns, fun y d hy hl => ?_⟩, fun y d hy hl => ?_, fun y c hy => ?_, fun y z c hy hz => ?_, (fun p hp => by cases hp), List.nodup_nil, (fun a ha => by cases ha), live.keeps hkeep, htok, ?_⟩
    · rintro a (q | q)
      · exact U.new a q
      · cases e : C.h₀.get? a with
        | none => rfl
        | some o => have := U.base a o e; rw [hmu a q] at this; cases this
    · obtain ⟨v, h1, h2⟩ := bindL_get (kindOf := (callEnvC fd s.heap.objs.size f).kindOf) hl (m := fun _ => none) par hy
      exact ⟨v, h1, h2.move mv⟩
    · have hnl : (callEnvC fd s.heap.objs.size f).kindOf y ≠ some .local := fun q => by
        have hl' : (callEnvC fd s.heap.objs.size f).kindOf y = some .cell ∨ (callEnvC fd s.heap.objs.size f).kindOf y = some .free := hl
        rw [q] at hl'; rcases hl' with h | h <;> cases h
      obtain ⟨v, h1, h2⟩ := bindC_get (kindOf := (callEnvC fd s.heap.objs.size f).kindOf) hnl (m := fun _ => none) par hy
      have hyr : y ∈ ρ.map (·.1) := get_mem hy
      rcases hkind (s.heap.objs.size + 1) y hyr with q | ⟨q, qc⟩
      · exact absurd q hnl
      · obtain ⟨c, hc⟩ := Option.isSome_iff_exists.mp qc
        have := x.cell y c hc
        rw [h1] at this
        exact ⟨c, v, hc, this, h2.move mv⟩
    · exact ⟨_, x.cell y c hy⟩
    · exact name_of_addr x.apart (mem_of_lookup hy) (mem_of_lookup hz)
    · obtain ⟨lf, hlf, ff⟩ := U.fr
      refine ⟨callEnvC fd s.heap.objs.size f :: lf, by show C.A.frames.map _ = _; rw [hlf]; rfl, fun e he => ?_⟩
      rcases List.mem_cons.mp he with rfl | he
      · obtain ⟨o', es, ep, ho', hd', _⟩ := x.toInCall.ns
        refine ⟨fun q => ?_, s.heap.objs.size, o', rfl, .inr rfl, ho', es, ep, hd'⟩
        have : fd.scope.kind = .module := q
        rw [fo.kind] at this; cases this
      · obtain ⟨q1, L, o', q2, q3, q4, q5⟩ := ff e he
        exact ⟨q1, L, o', q2, .inl q3, hkeep _ _ q4, q5⟩
  refine wpAny_mono ((h s.heap.objs.size).run s₁ hs1) (fun fl s' out => ?_) (fun e s' er => ?_)
  case refine_2 =>
    obtain ⟨a, x', rfl, k1, ⟨hna, oe, ws, he, hcls, hde, h1⟩, hX⟩ := er
    exact leave_first G fo U x.toInCall.ns hkeep hmu es hltk hs1 k1 hna he hcls hde h1 hX
  obtain ⟨fl', ρ', ω', hf, hs', st, hK⟩ := out
  have kp : Kp Z s s' := by
    obtain ⟨h2, t2, e2, l2⟩ := st.same
    refine ⟨h2, t2, by rw [e2, es], fun b o e => ?_, Nat.le_trans hltk l2⟩
    have h3 := st.keep b o (fun q => by rw [hmu b q] at e; cases e) (hkeep b o e)
    rw [e2] at h3; exact h3
  cases fl' with
  | ret d => cases fl with
    | ret v =>
      have hf' : Is ((C.into fd f s.heap.objs.size).Z Z ω') s'.heap v d := hf
      exact .inl ⟨_, rfl, kp, d, hf'.move fun b o hz e => ⟨fun q => hz (.inl q), e⟩, hK⟩
    | _ => exact hf.elim
  | next => cases fl with
    | next => exact .inl ⟨_, rfl, kp, .none, .none, hK⟩
    | _ => exact hf.elim
  | brk => exact hK.elim
  | cont => exact hK.elim
theorem enterR {C : Cx} {f : Addr} {fd : FuncData} {body : List Stmt} {l : Nat} {as : List D} {K : D → Prop} {X : String → Prop} (G : Ground0 C) (room : Room C.A (l + 1)) (ρ : Loc) (fo : FnOk C f fd body)
    (hbind : ∀ (Z : Addr → Prop) s vs, Und0 C Z s → IsAll Z s.heap vs as → ∃ binds, BindsTo s fd ⟨vs, []⟩ binds ∧ Par Z s.heap binds ρ)
    (hkind : ∀ n, ∀ x ∈ ρ.map (·.1), fd.scope.names.lookup x = some .local ∨ (fd.scope.names.lookup x = some .cell ∧ ((cellsFrom n fd.scope.names []).lookup x).isSome = true))
    (h : ∀ C', C'.Ok l → Kin C C' → C'.env.scope.names = fd.scope.names → (∀ n, n = C'.env.locals → C'.env.cells = cellsFrom (n + 1) fd.scope.names []) → ExsR C' ρ [] body (fun fl _ _ => match fl with | .ret d => K d | .next => K .none | _ => False) X) : DoR C (.ref f) as K X := .mk fun {Z} s vs U ia =>
  wpAny_call (codeAny_mono (enterGR G fo room ρ hbind hkind (fun L => h _ (G.ok fo room) ⟨rfl, rfl, rfl, rfl, rfl⟩ rfl fun n hn => by subst hn; rfl) U.to0 ia (.inl U.tok)) fun r s' x => by
    rcases x with ⟨v, e, g⟩ | ⟨a, x, e, g⟩
    · subst e; exact g
    · subst e; exact ⟨a, x, rfl, g⟩)
end Mine
end

section
namespace Mine
/-- an exception that came from a call -/
def Fly (Z : Addr → Prop) (s : Shared) (X : String → Prop) (e : Value) (s' : Shared) : Prop := ∃ a x, e = .ref a ∧ Kp Z s s' ∧ Flies s.heap x a .none s'.heap ∧ X x
structure PeF (C : Cx) (ρ : Loc) (ω : Own) (e : Expr) (K : D → Prop) (X : String → Prop) : Prop where
  run : ∀ {Zo : Addr → Prop} s, Sta C Zo ρ ω s → wpAny C.M C.A (eval e C.env) (Gv (C.Z Zo ω) s K) (Fly (C.Z Zo ω) s X) s
structure ExsF (C : Cx) (ρ : Loc) (ω : Own) (sts : List Stmt) (K : Fl → Loc → Own → Prop) (X : String → Prop) : Prop where
  run : ∀ {Zo : Addr → Prop} s, Sta C Zo ρ ω s → wpAny C.M C.A (execs sts C.env) (Out C Zo ω s K) (Fly (C.Z Zo ω) s X) s
theorem Flies.older {s s₁ : Heap} {Z : Addr → Prop} {X : String} {a : Addr} {fl : Value} {h : Heap} (k : KG Z s s₁) (x : Flies s₁ X a fl h) : Flies s X a fl h := by
  have old : ∀ b, s₁.get? b = none → s.get? b = none := fun b e => by
    cases e1 : s.get? b with
    | none => rfl
    | some o => obtain ⟨o', e2⟩ := k.live e1; rw [e] at e2; cases e2
  obtain ⟨h0, oe, vs, T, oT, ts, h1, h2, h3, h4, h5, r⟩ := x
  exact ⟨old _ h0, oe, vs, T, oT, ts, h1, h2, h3, h4, old _ h5, r⟩
theorem Fly.older {Z : Addr → Prop} {s s₁ s' : Shared} {X : String → Prop} {e : Value} (k : Kp Z s s₁) (x : Fly Z s₁ X e s') : Fly Z s X e s' :=
  let ⟨a, y, h1, h2, h3, h4⟩ := x; ⟨a, y, h1, k.trans h2, h3.older k.get, h4⟩
section
variable {C : Cx} {ρ : Loc} {ω : Own} {l : Nat} {K : D → Prop} {X : String → Prop}
theorem pef_call {f : Str} {np pos : Pos} {e : Expr} {es : List Expr} (h : Pe C ρ ω (.Name f np) (fun d => ∃ v, d = .val v ∧ Callable C.h₀ v ∧ Pl C ρ ω (e :: es) (fun ds => DoR C v ds K X)))
    (he : starEach (e :: es) C.env = (false, eval e C.env) :: starEach es C.env) (hplain : (backTo pos (starEach es C.env)).any (·.1) = false) : PeF C ρ ω (.Call (.Name f np) (e :: es) [] pos) K X := .mk fun {Zo} s hs => by
  refine wpAny_Call_NameR (wpAny_mono (h.run s hs) (fun fv s₁ x => ?_) fun _ _ e => e.elim)
  obtain ⟨k1, d, i1, v, rfl, hc, h1⟩ := x
  cases i1
  have hs1 := hs.keeps k1
  have hh : wpAny C.M C.A (spliced (backTo pos (starEach (e :: es) C.env))) (fun vs s₂ => Kp (C.Z Zo ω) s₁ s₂ ∧ wpAny C.M C.A (call fv vs) (Gv (C.Z Zo ω) s K) (Fly (C.Z Zo ω) s X) s₂) (Fly (C.Z Zo ω) s X) s₁ :=
    wpAny_mono (h1.run s₁ pos hs1) (fun vs s₂ ⟨k2, ds, i2, h2⟩ => ⟨k2, wpAny_mono (h2.run s₂ vs (hs1.keeps k2).und i2) (fun r s₃ ⟨k3, d, i3, h3⟩ => ⟨(k1.trans k2).trans k3, d, i3, h3⟩) fun e s₃ x => Fly.older (k1.trans k2) x⟩) fun _ _ e => e.elim
  cases hc with
  | blt => exact callWith_method1 (first := []) (wpAny_mono hh (fun vs s₁ x => x.2) fun _ _ e => e) he hplain
  | typ => exact PyProof.Rows.callWith_type1 (wpAny_mono hh (fun vs s₁ x => x.2) fun _ _ e => e) he hplain
  | fn hf => exact callWith_F (first := []) (FnAt.keeps hf hs1.base) (wpAny_mono hh (fun vs s₂ x => ⟨FnAt.keeps hf (hs1.keeps x.1).base, x.2⟩) fun _ _ e => e) he hplain
theorem exf_ret {e : Expr} {pos : Pos} {K : Fl → Loc → Own → Prop} (h : PeF C ρ ω e (fun d => K (.ret d) ρ ω) X) : ExsF C ρ ω [.Return (some e) pos] K X := .mk fun {Zo} s hs =>
  wpAny_execs_cons (wpAny_Return_some (wpAny_mono (h.run s hs) (fun v s₁ ⟨k1, d, i1, h1⟩ => ⟨.ret d, ρ, ω, i1, hs.keeps k1, k1.step, h1⟩) fun _ _ e => e))
end
/-- the frame on top is the context's own -/
def Top (C : Cx) : Prop := ∀ l, C.A.frames = some l → ∃ r, l = C.env :: r
section
variable {C : Cx} {Z : Addr → Prop} {M : Model} {A : Around} {E : Value → Shared → Prop} {s s' : Shared} {X : String} {a : Addr}
theorem fly_down {fl : Value} {Q : Unit → Shared → Prop} (k : Kp Z s s') (f : Flies s.heap X a fl s'.heap) (h : ∀ s'', Kp Z s s'' → Flies s.heap X a .none s''.heap → Q () s'') : wpAny M A (setFlight (.ref a) none) Q E s' := by
  obtain ⟨h0, oe, vs, T, oT, ts, h1, h2, h3, h4, h5, h6, h7, h8, h9⟩ := f
  have hsz : 3 < ts.size := (Array.getElem?_eq_some_iff.mp h9).1
  obtain ⟨hh, tk, rfl, kg, tl⟩ := k
  refine wpAny_setFlight_none h1 h3 h4 h7 h8 hsz (h _ ⟨_, tk, rfl, kg.after fun b o o' e e' => ?_, tl⟩ ?_)
  · exact (Heap.get?_update_ne _ _ _ _ (fun q => by rw [q, h5] at e; cases e)).trans e'
  · exact ⟨h0, oe, vs, T, _, _, (Heap.get?_update_ne _ _ _ _ h6.symm).trans h1, h2, h3, h4, h5, h6, Heap.get?_update_self _ h7 (Obj.isFreed_of_fields (Obj.data_mapFields h8 _)), Obj.data_mapFields h8 _, by simp [Array.getElem?_setIfInBounds, hsz]⟩
theorem fly_note {Q : Unit → Shared → Prop} (top : Top C) (fr : FrOk C Z s.heap) (k : Kp Z s s') (f : Flies s.heap X a .none s'.heap) (h : ∀ s'' fl, Kp Z s s'' → Flies s.heap X a fl s''.heap → Q () s'') : wpAny M C.A (noteFrame (.ref a) C.env) Q E s' := by
  obtain ⟨B, sh⟩ := shy Z s.heap
  obtain ⟨h0, oe, vs, T, oT, ts, h1, h2, h3, h4, h5, h6, h7, h8, h9⟩ := f
  obtain ⟨l, hl, ff⟩ := FrOk.funFrames sh fr k.get
  obtain ⟨r, rfl⟩ := top l hl
  obtain ⟨L, hL⟩ : ∃ L, C.env.frame = some L := let ⟨_, ⟨L, _, e, _⟩, _⟩ := ff; ⟨L, e⟩
  have hsz : 1 < vs.size := (Array.getElem?_eq_some_iff.mp h4).1
  obtain ⟨hh, tk, rfl, kg, tl⟩ := k
  refine wpAny_noteFrame_onW (base := B) (a0 := vs[0]) (cls := oe.cls) hl ff hL ⟨oe, vs, T, oT, ts, h1, ⟨rfl, by simp⟩, h3, h4, sh.no _ h5, h6, h7, h8, h9⟩ (sh.stays kg) (sh.no _ h0) fun h'' ⟨q1, q2, q3, q4⟩ => ?_
  have kg2 : KG Z s.heap h'' := sh.kg kg q1 q4
  obtain ⟨oe', vs', T', oT', ts', t1, t2, t3, t4, t5, t6, t7, t8, t9⟩ := q3
  exact h _ (rawInt L) ⟨h'', tk, rfl, kg2, tl⟩ ⟨h0, oe', vs', T', oT', ts', t1, t2.1.trans h2, t3, t4, sh.none_of_fields kg2 t5 t7 t8, t6, t7, t8, t9⟩
end
/-- a clause that returns a text -/
abbrev claw (n : Str) (np : Pos) (w : Str) (k : Nat) (p1 p2 p3 : Pos) : ExceptHandler := .ExceptHandler (some (.Name n np)) none [.Return (some (.Constant (.str w) k p1)) p2] p3
section
variable {C : Cx} {Zo : Addr → Prop} {ρ : Loc} {ω : Own} {l : Nat} {K : Fl → Loc → Own → Prop}
theorem clause {s s' : Shared} {x T : String} {b : Bool} {a : Addr} {n w : Str} {np p1 p2 p3 : Pos} {k : Nat} {rest : List ExceptHandler} (ok : C.Ok l) (hs : Sta C Zo ρ ω s) (kp : Kp (C.Z Zo ω) s s') (f : Flies s.heap x a .none s'.heap)
    (hm : C.mg n = none) (hv : C.mb n = some (.type T)) (hk : C.env.kindOf n = some .globalImplicit) (hd : (n == ("__debug__" : Str)) = false)
    (hexc : isSubtype (.type T) (.type "BaseException") = pure true) (hnt : isSubtype (.type ((Manifest.find? T).elim "type" fun y => y.metatype)) (.type "tuple") = pure false) (hsub : isSubtype (.type x) (.type T) = pure b)
    (h : if b then K (.ret (.str w.cps.toList)) ρ ω else wpAny C.M C.A (handleBy (.ref a) C.env rest) (Out C Zo ω s K) NoE s') :
    wpAny C.M C.A (handleBy (.ref a) C.env (claw n np w k p1 p2 p3 :: rest)) (Out C Zo ω s K) NoE s' := by
  have hs' := hs.keeps kp
  refine wpAny_handleBy_builtin (X := x) (T := T) (b := b) hexc hnt hsub ?_
  refine Calls.Name_function_global ok.kind hk (Calls.loadGlobal_builtin (by rw [ok.gl]; exact ok.g.keeps hs'.base) hm (by rw [ok.bl]; exact ok.b.keeps hs'.base) hv ⟨rfl, ?_, ?_⟩) hd
  · obtain ⟨_, oe, _, _, _, _, h1, h2, _⟩ := f; exact ⟨oe, h1, h2⟩
  · cases b with
    | false => exact h
    | true =>
      refine fly_down kp f fun s'' k2 f2 => ?_
      refine wpAny_execs_cons (wpAny_Return_some (wpAny_Constant_str ?_))
      have k3 := k2.trans (Kp.tok s'' (s''.toks + 1))
      refine ⟨.ret (.str w.cps.toList), ρ, ω, ?_, hs.keeps k3, k3.step, h⟩
      have e : w = mkS w.cps.toList := by obtain ⟨a⟩ := w; simp [mkS]
      show Is _ _ _ _
      conv => arg 3; rw [e]
      exact .str
theorem ex_try {body : List Stmt} {h₀ : ExceptHandler} {hs : List ExceptHandler} {pos : Pos} {X : String → Prop} (top : Top C) (hb : ExsF C ρ ω body K X)
    (hh : ∀ {Zo : Addr → Prop} s s' x a, Sta C Zo ρ ω s → Kp (C.Z Zo ω) s s' → Flies s.heap x a .none s'.heap → X x → wpAny C.M C.A (handleBy (.ref a) C.env (h₀ :: hs)) (Out C Zo ω s K) NoE s') :
    Ex C ρ ω (.Try body (h₀ :: hs) [] [] pos) K := .mk fun {Zo} s hs₀ => by
  refine wpAny_Try_except (wpAny_mono (hb.run s hs₀) (fun f s₁ o => ?_) fun e s₁ x => ?_)
  · cases f <;> first | exact wpAny_execs_nil o | exact o
  · obtain ⟨a, x, rfl, kp, f, hX⟩ := x
    exact fly_note top hs₀.und.fr kp f fun s₂ fl k2 f2 => fly_down k2 f2 fun s₃ k3 f3 => hh s s₃ x a hs₀ k3 f3 hX
end
end Mine
end

section
namespace Mine
/-- a raise of one's own -/
def Mkd (Z : Addr → Prop) (s : Shared) (X : String → Prop) (e : Value) (s' : Shared) : Prop := ∃ a x, e = .ref a ∧ Kp Z s s' ∧ Made s.heap x a s'.heap ∧ X x
theorem Made.older {s s₁ : Heap} {Z : Addr → Prop} {X : String} {a : Addr} {h : Heap} (k : KG Z s s₁) (x : Made s₁ X a h) : Made s X a h := by
  obtain ⟨h0, r⟩ := x
  refine ⟨?_, r⟩
  cases e1 : s.get? a with
  | none => rfl
  | some o => obtain ⟨o', e2⟩ := k.live e1; rw [h0] at e2; cases e2
theorem Mkd.older {Z : Addr → Prop} {s s₁ s' : Shared} {X : String → Prop} {e : Value} (k : Kp Z s s₁) (x : Mkd Z s₁ X e s') : Mkd Z s X e s' :=
  let ⟨a, y, h1, h2, h3, h4⟩ := x; ⟨a, y, h1, k.trans h2, h3.older k.get, h4⟩
theorem Mkd.of {Z : Addr → Prop} {s : Shared} {X : String → Prop} {h' : Heap} {tk : Nat} {e : Addr} {x : String} (n : Heap.NewExc s.heap h' e x) (htk : s.toks ≤ tk) (hX : X x) : Mkd Z s X (.ref e) { s with heap := h', toks := tk } := by
  obtain ⟨ob, t, h1, h2, h3⟩ := n.there
  exact ⟨e, x, rfl, Kp.of n.keeps htk, ⟨n.new, ob, _, h1, h2, h3, rfl⟩, hX⟩
/-- an expression that raises -/
structure PeR (C : Cx) (ρ : Loc) (ω : Own) (e : Expr) (X : String → Prop) : Prop where
  run : ∀ {Zo : Addr → Prop} s, Sta C Zo ρ ω s → wpAny C.M C.A (eval e C.env) (fun _ _ => False) (Mkd (C.Z Zo ω) s X) s
/-- a built-in's call that raises -/
structure DoRr (C : Cx) (f : Value) (as : List D) (X : String → Prop) : Prop where
  run : ∀ {Z : Addr → Prop} s vs, Und C Z s → IsAll Z s.heap vs as → wpAny C.M C.A (call f vs) (fun _ _ => False) (Mkd Z s X) s
section
variable {C : Cx} {ρ : Loc} {ω : Own} {l : Nat} {X : String → Prop}
theorem exr_ret {e : Expr} {pos : Pos} {K : Fl → Loc → Own → Prop} (h : PeR C ρ ω e X) : ExsR C ρ ω [.Return (some e) pos] K X := .mk fun {Zo} s hs =>
  wpAny_execs_cons (wpAny_Return_some (wpAny_mono (h.run s hs) (fun v s₁ q => q.elim) fun _ _ e => e))
theorem per_sub {value slice : Expr} {p : Pos} (ok : C.Ok l) (hX : X "IndexError") (h : Pe C ρ ω value (fun o => ∃ ds, o = .list ds ∧ Pe C ρ ω slice (fun i => ∃ k : Int, i = .int k ∧ (ds.length : Int) ≤ k ∧ k < 2 ^ 63)))
    (hsl : ∀ o i, subscripted slice false o i = operate [o, i] (getItem o i)) : PeR C ρ ω (.Subscript value slice p) X := .mk fun {Zo} s hs => by
  refine Subscript_ (wpAny_mono (h.run s hs) (fun o s₁ ⟨k1, x, i1, ds, e, h1⟩ => wpAny_mono (h1.run s₁ (hs.keeps k1)) (fun i s₂ ⟨k2, y, i2, k, e2, hk, hk2⟩ => ?_) fun _ _ e => e.elim) fun _ _ e => e.elim)
  subst e; subst e2
  have i1' := i1.keepsK k2
  cases i2
  cases i1' with
  | list hz hl hi =>
    rename_i t a vs
    have hlen := hi.length
    refine tail_any hl.typeIs slot_list_getitem.lookup (wpAny_free (wpAny_getItem_list_out ok.room.hd hl (.inr (by simp; omega)) (by omega) hk2 ?_)) (hsl _ _)
    intro h' tk e n htk
    exact Mkd.older (k1.trans k2) (Mkd.of n htk hX)
theorem per_call {f : Str} {np pos : Pos} {e : Expr} {es : List Expr} (h : Pe C ρ ω (.Name f np) (fun d => ∃ id, d = .val (.builtin id) ∧ Pl C ρ ω (e :: es) (fun ds => DoRr C (.builtin id) ds X)))
    (he : starEach (e :: es) C.env = (false, eval e C.env) :: starEach es C.env) (hplain : (backTo pos (starEach es C.env)).any (·.1) = false) : PeR C ρ ω (.Call (.Name f np) (e :: es) [] pos) X := .mk fun {Zo} s hs => by
  refine wpAny_Call_NameR (wpAny_mono (h.run s hs) (fun fv s₁ x => ?_) fun _ _ e => e.elim)
  obtain ⟨k1, d, i1, id, rfl, h1⟩ := x
  cases i1
  have hs1 := hs.keeps k1
  refine callWith_method1 (first := []) (wpAny_mono (h1.run s₁ pos hs1) (fun vs s₂ ⟨k2, ds, i2, h2⟩ => wpAny_mono (h2.run s₂ vs (hs1.keeps k2).und i2) (fun r s₃ q => q.elim) fun e s₃ x => Mkd.older (k1.trans k2) x) fun _ _ e => e.elim) he hplain
end
end Mine
end

section
namespace Mine
theorem top_into (C : Cx) (fd : FuncData) (f L : Addr) : Top (C.into fd f L) := fun l e => by
  have e' : C.A.frames.map (callEnvC fd L f :: ·) = some l := e
  cases h : C.A.frames with
  | none => rw [h] at e'; cases e'
  | some r => rw [h] at e'; cases e'; exact ⟨r, rfl⟩
/-- a def that looks at its own frame -/
theorem enterT {C : Cx} {f : Addr} {fd : FuncData} {body : List Stmt} {l : Nat} {as : List D} {K : D → Prop} (G : Ground0 C) (room : Room C.A (l + 1)) (ρ : Loc) (fo : FnOk C f fd body)
    (hbind : ∀ (Z : Addr → Prop) s vs, Und0 C Z s → IsAll Z s.heap vs as → ∃ binds, BindsTo s fd ⟨vs, []⟩ binds ∧ Par Z s.heap binds ρ)
    (hkind : ∀ n, ∀ x ∈ ρ.map (·.1), fd.scope.names.lookup x = some .local ∨ (fd.scope.names.lookup x = some .cell ∧ ((cellsFrom n fd.scope.names []).lookup x).isSome = true))
    (h : ∀ C', Top C' → C'.Ok l → Kin C C' → C'.env.scope.names = fd.scope.names → (∀ n, n = C'.env.locals → C'.env.cells = cellsFrom (n + 1) fd.scope.names []) → Exs C' ρ [] body (fun fl _ _ => match fl with | .ret d => K d | .next => K .none | _ => False)) : DoC C (.ref f) as K :=
  enter G fo room ρ hbind hkind fun L => h _ (top_into _ _ _ _) (G.ok fo room) ⟨rfl, rfl, rfl, rfl, rfl⟩ rfl fun n hn => by subst hn; rfl
theorem DoC.toR {C : Cx} {f : Value} {as : List D} {K : D → Prop} {X : String → Prop} (h : DoC C f as K) : DoR C f as K X := .mk fun s vs U ia => wpAny_mono (h.run s vs U ia) (fun _ _ q => q) fun _ _ e => e.elim
end Mine
end

section
namespace Mine
theorem all_same (xs ys : List (List Nat)) (hl : xs.length = ys.length) : (List.range xs.length).all (fun j => mkS (xs.getD j []) == mkS (ys.getD j [])) = decide (xs = ys) := by
  rw [Bool.eq_iff_iff, List.all_eq_true, decide_eq_true_iff]
  constructor
  · intro h
    refine List.ext_getElem hl fun i h1 h2 => ?_
    have := h i (List.mem_range.mpr h1)
    rw [beq_iff_eq] at this
    have e := congrArg (fun z : Str => z.cps.toList) this
    simpa [mkS, List.getElem?_eq_getElem h1, List.getElem?_eq_getElem h2] using e
  · rintro rfl j _
    simp
section
variable {C : Cx} {K : D → Prop}
theorem is_at {Z : Addr → Prop} {h : Heap} {vs : List Value} {xs : List (List Nat)} (hi : IsAll Z h vs (xs.map .str)) {j : Nat} (hj : j < vs.toArray.size) : ∃ t, vs.toArray[j] = .str (mkS (xs.getD j [])) t := by
  have hj' : j < vs.length := by simpa using hj
  obtain ⟨d, h1, h2⟩ := hi.get' (List.getElem?_eq_getElem hj')
  rw [List.getElem?_map] at h1
  cases e : xs[j]? with
  | none => rw [e] at h1; cases h1
  | some x =>
    rw [e] at h1; cases h1
    have e2 : vs.toArray[j] = vs[j] := by simp
    rw [e2]
    generalize vs[j] = v at *
    have e3 : xs.getD j [] = x := by simp [e]
    rw [e3]
    cases h2 with
    | str => exact ⟨_, rfl⟩
theorem do_ne_strs {xs ys : List (List Nat)} (hu : C.A.units < 9000) (h : K (.bool (decide (xs ≠ ys)))) : Do2 C (compareOp .NotEq) (.list (xs.map .str)) (.list (ys.map .str)) K := .mk fun s v w U i j => by
  cases i with
  | list hz hl hi => cases j with
    | list hz' hl' hi' =>
      rename_i a vs b ws
      have n1 := hi.length
      have n2 := hi'.length
      simp only [List.length_map] at n1 n2
      by_cases hn : xs.length = ys.length
      · refine SeqAt.RcNeAt.lists (e := fun j => mkS (xs.getD j []) == mkS (ys.getD j [])) hl hl' (by simp; omega) (Nat.lt_of_lt_of_le hu (by decide)) (fun j h1 h2 => ?_) _ _ _ _ ⟨Kp.refl _, _, .bool, ?_⟩
        · obtain ⟨t, e1⟩ := is_at hi h1
          obtain ⟨u, e2⟩ := is_at hi' h2
          rw [e1, e2]
          exact SeqAt.EqAt.str_str _ _ _ _
        · rw [List.size_toArray, n1, all_same _ _ hn, ← decide_not]; exact h
      · refine SeqAt.RcNeAt.lists_lengths hl hl' (by simp; omega) (Nat.lt_of_lt_of_le hu (by decide)) _ _ _ _ ⟨Kp.refl _, _, .bool, ?_⟩
        have : decide (xs ≠ ys) = true := decide_eq_true fun q => hn (q ▸ rfl)
        rw [this] at h; exact h
end
section
variable {C : Cx} {ρ : Loc} {ω : Own} {l : Nat} {X : String → Prop}
theorem per_subS {value slice : Expr} {p : Pos} (h : Pe C ρ ω value (fun _ => PeR C ρ ω slice X)) : PeR C ρ ω (.Subscript value slice p) X := .mk fun {Zo} s hs =>
  Subscript_ (wpAny_mono (h.run s hs) (fun o s₁ ⟨k1, x, i1, h1⟩ => wpAny_mono (h1.run s₁ (hs.keeps k1)) (fun i s₂ q => q.elim) fun _ _ e => Mkd.older k1 e) fun _ _ e => e.elim)
theorem raises_ord0 (t : Tok) : Meets (Builtin.«ord» ⟨[.str (mkS []) t], []⟩) (raisesNew "TypeError") :=
  Meets.rule (t := raiseErrorMade "TypeError" s!"ord() expected a character, but string of length {([] : List Nat).length} found") (.raisesMade rfl plainExc_TypeError (by decide +kernel))
theorem raises_ord2 (a b : Nat) (t : Tok) : Meets (Builtin.«ord» ⟨[.str (mkS [a, b]) t], []⟩) (raisesNew "TypeError") :=
  Meets.rule (t := raiseErrorMade "TypeError" s!"ord() expected a character, but string of length {2} found") (.raisesMade rfl plainExc_TypeError (by decide +kernel))
theorem dor_ord {x : List Nat} (hh : C.A.handled = none) (h : x = [] ∨ ∃ a b, x = [a, b]) (hX : X "TypeError") : DoRr C (.builtin "ord") [.str x] X := .mk fun {Z} s vs U ia => by
  cases ia with | cons i j =>
    cases j; cases i
    rcases h with rfl | ⟨a, b, rfl⟩
    · exact wpAny_free (call_function_meets F.kind_ord F.plain_ord F.entry_ord (F.args_ord1 _) (raises_ord0 _) ⟨hh, fun h' tk e n htk => Mkd.of n htk hX⟩)
    · exact wpAny_free (call_function_meets F.kind_ord F.plain_ord F.entry_ord (F.args_ord1 _) (raises_ord2 a b _) ⟨hh, fun h' tk e n htk => Mkd.of n htk hX⟩)
end
end Mine
end

section
namespace Mine
local macro_rules | `(tactic| walk_at "m_ne") => `(tactic| first | with_reducible assumption | decide +kernel)
local macro_rules | `(tactic| walk_at "m_get") => `(tactic| first | with_reducible exact get_put_same | with_reducible exact get_cons_same | with_reducible assumption | ((with_reducible refine get_put_eq ?_); rfl) | ((with_reducible refine get_cons_eq ?_); rfl) | ((with_reducible refine get_put_ne ?_ ?_); (walk_at "m_ne"); walk_at "m_get") | ((with_reducible refine get_cons_ne ?_ ?_); (walk_at "m_ne"); walk_at "m_get") | ((with_reducible refine cap_get1 ?_); walk_at "m_get") | ((with_reducible refine cap_get3 ?_); walk_at "m_get") | ((with_reducible refine cap_get2 ?_); walk_at "m_get"))
local macro_rules | `(tactic| walk_at "m_kind") => `(tactic| with_reducible assumption)
local macro_rules | `(tactic| walk_at "m_dbg") => `(tactic| decide +kernel)
local macro_rules | `(tactic| walk_at "m_stor") => `(tactic| first | exact Or.inl (by with_reducible assumption) | exact Or.inr ⟨by with_reducible assumption, cells_of (by with_reducible assumption) rfl⟩)
local macro_rules | `(tactic| walk_at "m_name") => `(tactic| first
  | (apply pe_loc; (with_reducible assumption); walk_at "m_get"; walk_at "m_kind"; rotate_left; walk_at "m_dbg")
  | (apply pe_cell; (with_reducible assumption); walk_at "m_get"; walk_at "m_kind"; rotate_left; walk_at "m_dbg")
  | (apply pe_blt; (with_reducible assumption); exact And.left (by with_reducible assumption); exact And.right (by with_reducible assumption); walk_at "m_kind"; rotate_left; walk_at "m_dbg")
  | (apply pe_glob; (with_reducible assumption); (with_reducible assumption); (first | exact is_lit (by with_reducible assumption) | (with_reducible assumption) | (with_reducible exact Is.val)); walk_at "m_kind"; rotate_left; walk_at "m_dbg"))
local macro_rules | `(tactic| walk_at "m_meth") => `(tactic| first
  | (apply pe_replace1; (with_reducible assumption); (with_reducible assumption); rotate_left; decide +kernel; rfl; rfl; rfl)
  | (refine pe_meth F.slot_str_split F.type_str_split ?_ ?_ ?_ ?_ ?_ ?_; rotate_left; rfl; rfl; rfl; rfl; rfl)
  | (refine pe_meth F.slot_str_translate F.type_str_translate ?_ ?_ ?_ ?_ ?_ ?_; rotate_left; rfl; rfl; rfl; rfl; rfl)
  | (refine pe_meth F.slot_str_rstrip F.type_str_rstrip ?_ ?_ ?_ ?_ ?_ ?_; rotate_left; rfl; rfl; rfl; rfl; rfl)
  | (refine pe_meth0 F.slot_str_rstrip F.type_str_rstrip ?_ ?_ ?_; rotate_left; rfl; rfl)
  | (refine pe_meth0 F.slot_str_lower F.type_str_lower ?_ ?_ ?_; rotate_left; rfl; rfl)
  | (refine pe_meth0 F.slot_str_splitlines F.type_str_splitlines ?_ ?_ ?_; rotate_left; rfl; rfl)
  | (refine pe_meth F.slot_str_endswith F.type_str_endswith ?_ ?_ ?_ ?_ ?_ ?_; rotate_left; rfl; rfl; rfl; rfl; rfl)
  | (refine pe_meth F.slot_str_index F.type_str_index ?_ ?_ ?_ ?_ ?_ ?_; rotate_left; rfl; rfl; rfl; rfl; rfl)
  | (refine pe_meth F.slot_str_find F.type_str_find ?_ ?_ ?_ ?_ ?_ ?_; rotate_left; rfl; rfl; rfl; rfl; rfl)
  | (refine pe_meth F.slot_str_join F.type_str_join ?_ ?_ ?_ ?_ ?_ ?_; rotate_left; rfl; rfl; rfl; rfl; rfl))
local macro_rules | `(tactic| walk_at "m_pe") => `(tactic| first
  | (guard_target =~ Pe _ _ _ (Expr.Name _ _) _; walk_at "m_name")
  | refine pe_int ?_
  | ((apply pe_strL); (with_reducible assumption))
  | refine pe_str ?_
  | refine pe_bool ?_
  | refine pe_bin ?_
  | refine pe_un ?_
  | (refine pe_rev ?_ ?_; rotate_left; (intros; rfl))
  | refine pe_slice ?_
  | (refine pe_cmp ?_ ?_; rotate_left; rfl)
  | (refine pe_sub ?_ ?_; rotate_left; (intros; rfl))
  | (refine pe_call ?_ ?_ ?_; rotate_left; rfl; rfl)
  | refine pe_ifexp ?_
  | refine pe_joined ?_
  | refine pe_fs ?_
  | refine pe_tup ?_
  | walk_at "m_meth")
local macro_rules | `(tactic| walk_at "m_asg") => `(tactic| (apply ex_assign; (with_reducible assumption); walk_at "m_stor"; rotate_left; rfl))
local macro_rules | `(tactic| walk_at "m_new") => `(tactic| (apply ex_new; (with_reducible assumption); walk_at "m_stor"; rotate_left; rfl))
local macro_rules | `(tactic| walk_at "m_ex") => `(tactic| first
  | refine ex_ret ?_
  | refine ex_if ?_
  | refine ex_cont ?_
  | refine ex_brk ?_
  | (refine ex_append ?_ ?_ ?_ ?_ ?_ ?_ ?_ ?_; rotate_left; rfl; rfl; rfl; rfl; rfl; exact inter (by assumption); rfl)
  | (refine ex_pop ?_ ?_ ?_ ?_ ?_; rotate_left; rfl; rfl; exact inter (by assumption); rfl)
  | ((fail_if_success (guard_target =~ Ex _ _ _ (Stmt.Assign _ (Expr.List _ _) _) _)); (fail_if_success (guard_target =~ Ex _ _ _ (Stmt.Assign _ (Expr.ListComp _ _ _ _) _) _)); walk_at "m_asg")
  | (apply ex_aug; (with_reducible assumption); walk_at "m_stor"; walk_at "m_get"))
local macro_rules | `(tactic| walk_at "m_do") => `(tactic| first
  | refine do_add_int ?_ | refine do_sub_int ?_ | refine do_iadd_int ?_ | refine do_isub_int ?_
  | refine do_eq_int ?_ | refine do_ne_int ?_ | refine do_lt_int ?_ | refine do_le_int ?_ | refine do_gt_int ?_ | refine do_ge_int ?_
  | refine do_eq_str ?_ | refine do_ne_str ?_ | refine do_in_str ?_ | refine do_notin_str ?_
  | refine do_mod_int (by decide) (by decide) ?_ | refine do_fdiv_int (by decide) (by decide) ?_)
local macro_rules | `(tactic| walk_at "m") => `(tactic| first
  | (guard_target =~ Pe _ _ _ _ _; walk_at "m_pe")
  | (guard_target =~ Exs _ _ _ _ _; (fail_if_success (guard_target =~ Exs _ _ _ (Stmt.If (Expr.BoolOp _ _ _) _ _ _ :: _) _)); first | refine exs_cons ?_ | refine exs_nil ?_)
  | (guard_target =~ Ex _ _ _ _ _; walk_at "m_ex")
  | (guard_target =~ Do2 _ _ _ _ _; walk_at "m_do")
  | (guard_target =~ Do1 _ _ _ _; first | refine do_neg_int ?_ | refine do_not ?_)
  | (guard_target =~ Pl _ _ _ _ _; first | refine pl_nil ?_ | (refine pl_cons ?_ ?_; rotate_left; rfl))
  | (guard_target =~ Pj _ _ _ _ _ _; first | refine pj_nil ?_ | refine pj_cons ?_)
  | (guard_target =~ Po _ _ _ _ _; first | refine po_none ?_ | refine po_some ?_)
  | (guard_target =~ Pt _ _ _ _ _; first | (refine pt_cmp ?_ ?_; rotate_left; rfl) | (refine pt_cmp2 ?_ ?_; rotate_left; rfl) | refine pt_not ?_ | refine pt_bool ?_ | (refine pt_val ?_ ?_; rotate_left; (intro _; rfl)))
  | (guard_target =~ Pi _ _ _ _ _ _; first | refine pi_nil ?_ | refine pi_one ?_)
  | (guard_target =~ Pb _ _ _ _ _ _; first | refine pb_and ?_ | refine pb_and_nil ?_ | refine pb_or ?_ | refine pb_or_nil ?_)
  | (guard_target =~ Tr1 _ _ _; first | refine tr_bool ?_ | refine tr_int ?_)
  | (guard_target =~ ite _ _ _; first | with_reducible refine ite_t ?_ | with_reducible refine ite_f ?_ | with_reducible refine ite_nt ?_ | with_reducible refine ite_nf ?_)
  | (guard_target =~ Exists _; first | refine ⟨_, rfl, .blt, ?_⟩ | refine ⟨_, rfl, .typ, ?_⟩ | refine ⟨_, rfl, ?_⟩))

theorem sub_exc_i : isSubtype (.type "IndexError") (.type "BaseException") = pure true := by kernel_rfl
theorem sub_exc_t : isSubtype (.type "TypeError") (.type "BaseException") = pure true := by kernel_rfl
theorem sub_ii : isSubtype (.type "IndexError") (.type "IndexError") = pure true := by kernel_rfl
theorem sub_ti : isSubtype (.type "TypeError") (.type "IndexError") = pure false := by kernel_rfl
theorem sub_tt : isSubtype (.type "TypeError") (.type "TypeError") = pure true := by kernel_rfl
theorem nt_i : isSubtype (.type ((Manifest.find? "IndexError").elim "type" fun y => y.metatype)) (.type "tuple") = pure false := by kernel_rfl
theorem nt_t : isSubtype (.type ((Manifest.find? "TypeError").elim "type" fun y => y.metatype)) (.type "tuple") = pure false := by kernel_rfl
def tIdx : List Nat := [73, 110, 100, 101, 120, 69, 114, 114, 111, 114]
def tTyp : List Nat := [84, 121, 112, 101, 69, 114, 114, 111, 114]
theorem tIdx_eq : (Str.ofString "IndexError").cps.toList = tIdx := by decide +kernel
theorem tTyp_eq : (Str.ofString "TypeError").cps.toList = tTyp := by decide +kernel
/-- what quote says of a text -/
def due07 : List Nat → List Nat
  | [c] => if c < 256 then qm c else tIdx
  | _ => tTyp
abbrev Few (x : List Nat) : Prop := x = [] ∨ (∃ a b, x = [a, b]) ∨ ∃ c, x = [c] ∧ c < 1114112
theorem quoteR07 {C : Cx} {K : D → Prop} {X : String → Prop} (B : B07 C) (room : Room C.A 1) {c : Nat} (hc : 256 ≤ c) (hc2 : c < 1114112) (hX : X "IndexError") : DoR C (.ref 66) [.str [c]] K X := by
  refine enterR (l := 0) B.G room [(Str.ofString "c", .str [c])] ⟨⟨_, B.X 66 _ rfl, rfl⟩, codeRec_of B.X rfl, rfl, rfl, rfl, rfl, rfl, rfl, rfl⟩ ?_ ?_ ?_
  · intro Z s vs U ia
    cases ia with | cons i0 r0 => cases r0; exact ⟨[(Str.ofString "c", _)], BindsTo.of_eq rfl, rfl, .cons i0 .nil, by simp only [List.map_cons, List.map_nil]; decide +kernel⟩
  · intro n x hx
    simp only [List.map_cons, List.map_nil, List.mem_cons, List.not_mem_nil, or_false] at hx
    subst hx; exact Or.inl rfl
  intro C' ok kin hN hcl
  dsimp only at hN
  have B := B.kin kin
  replace hcl := hcl _ rfl
  replace hcl : C'.env.cells = [] := hcl
  have mg__QUOPRI_MAP := B.g__QUOPRI_MAP
  have mg_ord := B.g_ord
  have k_c : C'.env.kindOf (Str.ofString "c") = some .local := kind_of hN rfl
  have k__QUOPRI_MAP : C'.env.kindOf (Str.ofString "_QUOPRI_MAP") = some .globalImplicit := kind_of hN rfl
  have k_ord : C'.env.kindOf (Str.ofString "ord") = some .globalImplicit := kind_of hN rfl
  clear kin hN
  have hT := tabQ07 B
  refine exr_ret (per_sub ok hX ?_ ?_)
  · repeat (walk_at "m")
    refine doc_ord ?_
    exact ⟨_, rfl, by simp; omega, by omega⟩
  · intro _ _; rfl
theorem quoteT07 {C : Cx} {K : D → Prop} {X : String → Prop} (B : B07 C) (room : Room C.A 1) {x : List Nat} (hx : x = [] ∨ ∃ a b, x = [a, b]) (hX : X "TypeError") : DoR C (.ref 66) [.str x] K X := by
  refine enterR (l := 0) B.G room [(Str.ofString "c", .str x)] ⟨⟨_, B.X 66 _ rfl, rfl⟩, codeRec_of B.X rfl, rfl, rfl, rfl, rfl, rfl, rfl, rfl⟩ ?_ ?_ ?_
  · intro Z s vs U ia
    cases ia with | cons i0 r0 => cases r0; exact ⟨[(Str.ofString "c", _)], BindsTo.of_eq rfl, rfl, .cons i0 .nil, by simp only [List.map_cons, List.map_nil]; decide +kernel⟩
  · intro n x hx
    simp only [List.map_cons, List.map_nil, List.mem_cons, List.not_mem_nil, or_false] at hx
    subst hx; exact Or.inl rfl
  intro C' ok kin hN hcl
  dsimp only at hN
  have B := B.kin kin
  replace hcl := hcl _ rfl
  replace hcl : C'.env.cells = [] := hcl
  have mg__QUOPRI_MAP := B.g__QUOPRI_MAP
  have mg_ord := B.g_ord
  have k_c : C'.env.kindOf (Str.ofString "c") = some .local := kind_of hN rfl
  have k__QUOPRI_MAP : C'.env.kindOf (Str.ofString "_QUOPRI_MAP") = some .globalImplicit := kind_of hN rfl
  have k_ord : C'.env.kindOf (Str.ofString "ord") = some .globalImplicit := kind_of hN rfl
  clear kin hN
  have hT := tabQ07 B
  refine exr_ret (per_subS ?_)
  walk_at "m"
  refine per_call ?_ rfl rfl
  repeat (walk_at "m")
  exact dor_ord ok.room.hd hx hX
abbrev Told (K : D → Prop) (x : String) : Prop := (x = "IndexError" ∧ K (.str tIdx)) ∨ (x = "TypeError" ∧ K (.str tTyp))
theorem told07 {C : Cx} {K : D → Prop} (B : B07 C) (room : Room C.A 2) {x : List Nat} (hx : Few x) (h : K (.str (due07 x))) : DoC C (.ref 100) [.str x] K := by
  refine enterT (l := 1) B.G room [(Str.ofString "text", .str x)] ⟨⟨_, B.X 100 _ rfl, rfl⟩, codeRec_of B.X rfl, rfl, rfl, rfl, rfl, rfl, rfl, rfl⟩ ?_ ?_ ?_
  · intro Z s vs U ia
    cases ia with | cons i0 r0 => cases r0; exact ⟨[(Str.ofString "text", _)], BindsTo.of_eq rfl, rfl, .cons i0 .nil, by simp only [List.map_cons, List.map_nil]; decide +kernel⟩
  · intro n x hx
    simp only [List.map_cons, List.map_nil, List.mem_cons, List.not_mem_nil, or_false] at hx
    subst hx; exact Or.inl rfl
  intro C' top ok kin hN hcl
  dsimp only at hN
  have B := B.kin kin
  replace hcl := hcl _ rfl
  replace hcl : C'.env.cells = [] := hcl
  have mg_IndexError := B.g_IndexError
  have mg_TypeError := B.g_TypeError
  have mg_quote := B.g_quote
  have k_text : C'.env.kindOf (Str.ofString "text") = some .local := kind_of hN rfl
  have k_quote : C'.env.kindOf (Str.ofString "quote") = some .globalImplicit := kind_of hN rfl
  have k_IndexError : C'.env.kindOf (Str.ofString "IndexError") = some .globalImplicit := kind_of hN rfl
  have k_TypeError : C'.env.kindOf (Str.ofString "TypeError") = some .globalImplicit := kind_of hN rfl
  clear hN
  refine exs_cons (ex_try top (X := Told K) (exf_ret (pef_call ?_ rfl rfl)) ?_)
  · repeat (walk_at "m")
    refine ⟨.fn ⟨_, _, _, _, B.X 66 _ rfl⟩, ?_⟩
    repeat (walk_at "m")
    rcases hx with rfl | ⟨a, b, rfl⟩ | ⟨c, rfl, hc⟩
    · exact quoteT07 B ok.room (.inl rfl) (.inr ⟨rfl, h⟩)
    · exact quoteT07 B ok.room (.inr ⟨a, b, rfl⟩) (.inr ⟨rfl, h⟩)
    · by_cases h2 : c < 256
      · refine DoC.toR (quote07 B ok.room h2 ?_)
        rw [due07, if_pos h2] at h
        exact h
      · rw [due07, if_neg h2] at h
        exact quoteR07 B ok.room (by omega) hc (.inl ⟨rfl, h⟩)
  · intro Zo s s' x a hs kp f hX
    rcases hX with ⟨rfl, hk⟩ | ⟨rfl, hk⟩
    · refine clause (b := true) ok hs kp f mg_IndexError.1 mg_IndexError.2 k_IndexError (by decide) sub_exc_i nt_i sub_ii ?_
      rw [tIdx_eq]; exact hk
    · refine clause (b := false) ok hs kp f mg_IndexError.1 mg_IndexError.2 k_IndexError (by decide) sub_exc_i nt_i sub_ti (clause (b := true) ok hs kp f mg_TypeError.1 mg_TypeError.2 k_TypeError (by decide) sub_exc_t nt_t sub_tt ?_)
      rw [tTyp_eq]; exact hk
theorem lawdue07 {C : Cx} {K : D → Prop} (B : B07 C) (room : Room C.A 1) {x : List Nat} (hx : Few x) (h : K (.str (due07 x))) : DoC C (.ref 107) [.str x] K := by
  refine enter' (l := 0) B.G room [(Str.ofString "text", .str x)] ⟨⟨_, B.X 107 _ rfl, rfl⟩, codeRec_of B.X rfl, rfl, rfl, rfl, rfl, rfl, rfl, rfl⟩ ?_ ?_ ?_
  · intro Z s vs U ia
    cases ia with | cons i0 r0 => cases r0; exact ⟨[(Str.ofString "text", _)], BindsTo.of_eq rfl, rfl, .cons i0 .nil, by simp only [List.map_cons, List.map_nil]; decide +kernel⟩
  · intro n x hx
    simp only [List.map_cons, List.map_nil, List.mem_cons, List.not_mem_nil, or_false] at hx
    subst hx; exact Or.inl rfl
  intro C' ok kin hN hcl
  dsimp only at hN
  have B := B.kin kin
  replace hcl := hcl _ rfl
  replace hcl : C'.env.cells = [] := hcl
  have mg_divmod := B.g_divmod
  have mg_len := B.g_len
  have mg_ord := B.g_ord
  have k_text : C'.env.kindOf (Str.ofString "text") = some .local := kind_of hN rfl
  have k_len : C'.env.kindOf (Str.ofString "len") = some .globalImplicit := kind_of hN rfl
  have k_high : C'.env.kindOf (Str.ofString "high") = some .local := kind_of hN rfl
  have k_low : C'.env.kindOf (Str.ofString "low") = some .local := kind_of hN rfl
  have k_divmod : C'.env.kindOf (Str.ofString "divmod") = some .globalImplicit := kind_of hN rfl
  have k_ord : C'.env.kindOf (Str.ofString "ord") = some .globalImplicit := kind_of hN rfl
  clear kin hN
  have lit_0 : (Str.ofString "TypeError").cps.toList = [84, 121, 112, 101, 69, 114, 114, 111, 114] := by decide +kernel
  have lit_1 : (Str.ofString "IndexError").cps.toList = [73, 110, 100, 101, 120, 69, 114, 114, 111, 114] := by decide +kernel
  have lit_2 : (Str.ofString "=").cps.toList = [61] := by decide +kernel
  have lit_3 : (Str.ofString "0123456789ABCDEF").cps.toList = [48, 49, 50, 51, 52, 53, 54, 55, 56, 57, 65, 66, 67, 68, 69, 70] := by decide +kernel
  have hfig : ∀ i : _root_.Fin 16, ([48, 49, 50, 51, 52, 53, 54, 55, 56, 57, 65, 66, 67, 68, 69, 70] : List Nat)[i.1]? = some (hxB i.1) := by decide
  by_cases hl : x.length = 1
  · obtain ⟨c, rfl, hc⟩ : ∃ c, x = [c] ∧ c < 1114112 := by
      rcases hx with rfl | ⟨a, b, rfl⟩ | h
      · cases hl
      · cases hl
      · exact h
    repeat (walk_at "m")
    refine doc_len_str (by simp [lim]) ?_
    repeat (walk_at "m")
    refine ex_unpack (xs := [(Str.ofString "high", _), (Str.ofString "low", _)]) ok ?_ ?_ rfl rfl
    · intro y hy
      simp only [List.mem_cons, List.not_mem_nil, or_false] at hy
      rcases hy with rfl | rfl <;> walk_at "m_stor"
    repeat (walk_at "m")
    refine doc_ord ?_
    repeat (walk_at "m")
    refine doc_divmod (by decide) (by decide) ?_
    refine ⟨_, rfl, rfl, ?_⟩
    dsimp only [puts]
    repeat (walk_at "m")
    refine ite_dec (fun q => ?_) (fun q => ?_)
    · rw [due07, if_neg (by omega)] at h
      repeat (walk_at "m")
      exact h
    · rw [due07, if_pos (by omega)] at h
      have hi1 : idx ([48, 49, 50, 51, 52, 53, 54, 55, 56, 57, 65, 66, 67, 68, 69, 70] : List Nat) ((c : Int) / 16) = some (hxB (c / 16)) := by
        have := idx_of (hfig ⟨c / 16, by omega⟩)
        simpa using this
      have hi2 : idx ([48, 49, 50, 51, 52, 53, 54, 55, 56, 57, 65, 66, 67, 68, 69, 70] : List Nat) ((c : Int) % 16) = some (hxB (c % 16)) := by
        have := idx_of (hfig ⟨c % 16, by omega⟩)
        simpa using this
      repeat (walk_at "m")
      refine ⟨_, hi1, by simp [lim], ?_⟩
      repeat (walk_at "m")
      refine do_add_str (by simp [lim]) ?_
      repeat (walk_at "m")
      refine ⟨_, hi2, by simp [lim], ?_⟩
      repeat (walk_at "m")
      refine do_add_str (by simp [lim]) ?_
      exact h
  · have hd : due07 x = tTyp := by
      rcases hx with rfl | ⟨a, b, rfl⟩ | ⟨c, rfl, _⟩
      · rfl
      · rfl
      · exact absurd rfl hl
    have hx2 : x.length ≤ 2 := by rcases hx with rfl | ⟨a, b, rfl⟩ | ⟨c, rfl, _⟩ <;> simp
    rw [hd] at h
    repeat (walk_at "m")
    refine doc_len_str (by simp only [lim]; omega) ?_
    repeat (walk_at "m")
    refine ite_dec (fun q => ?_) (fun q => by omega)
    repeat (walk_at "m")
    exact h

theorem unquote07 {C : Cx} {K : D → Prop} (B : B07 C) (room : Room C.A 1) {c d : Nat} (hc : c ∈ hexL) (hd : d ∈ hexL) (h : K (.str [hv c * 16 + hv d])) : DoC C (.ref 59) [.str [61, c, d]] K := by
  refine enter' (l := 0) B.G room [(Str.ofString "s", .str [61, c, d])] ⟨⟨_, B.X 59 _ rfl, rfl⟩, codeRec_of B.X rfl, rfl, rfl, rfl, rfl, rfl, rfl, rfl⟩ ?_ ?_ ?_
  · intro Z s vs U ia
    cases ia with | cons i0 r0 => cases r0; exact ⟨[(Str.ofString "s", _)], BindsTo.of_eq rfl, rfl, .cons i0 .nil, by simp only [List.map_cons, List.map_nil]; decide +kernel⟩
  · intro n x hx
    simp only [List.map_cons, List.map_nil, List.mem_cons, List.not_mem_nil, or_false] at hx
    subst hx; exact Or.inl rfl
  intro C' ok kin hN hcl
  dsimp only at hN
  have B := B.kin kin
  replace hcl := hcl _ rfl
  replace hcl : C'.env.cells = [] := hcl
  have mg_chr := B.g_chr
  have mg_int := B.g_int
  have k_s : C'.env.kindOf (Str.ofString "s") = some .local := kind_of hN rfl
  have k_chr : C'.env.kindOf (Str.ofString "chr") = some .globalImplicit := kind_of hN rfl
  have k_int : C'.env.kindOf (Str.ofString "int") = some .globalImplicit := kind_of hN rfl
  clear kin hN
  repeat (walk_at "m")
  refine ⟨by simp [lim], ?_⟩
  repeat (walk_at "m")
  refine doc_int16 (c := c) (d := d) hc hd ?_
  repeat (walk_at "m")
  refine doc_chr (by omega) ?_ ?_
  · have h1 : ∀ c ∈ hexL, hv c < 16 := by decide
    have := h1 c hc; have := h1 d hd; omega
  · rw [Int.toNat_natCast]; exact h
theorem decode07 {C : Cx} {K : D → Prop} (B : B07 C) (room : Room C.A 2) {x eol : List Nat} {as : List D} (has : as = [.str x, .str eol] ∨ (as = [.str x] ∧ eol = [10])) (hx : (x.length + 1) * (eol.length + 1) ≤ lim) (h : K (.str (decF eol x))) : DoC C (.ref 79) as K := by
  refine enter' (l := 1) B.G room [(Str.ofString "encoded", .str x), (Str.ofString "eol", .str eol)] ⟨⟨_, B.X 79 _ rfl, rfl⟩, codeRec_of B.X rfl, rfl, rfl, rfl, rfl, rfl, rfl, rfl⟩ ?_ ?_ ?_
  · intro Z s vs U ia
    rcases has with rfl | ⟨rfl, rfl⟩
    · cases ia with | cons i0 r0 => cases r0 with | cons i1 r1 => cases r1; exact ⟨[(Str.ofString "encoded", _), (Str.ofString "eol", _)], BindsTo.of_defaults rfl (U.base _ _ (B.X 72 _ rfl)) rfl rfl rfl, rfl, .cons i0 (.cons i1 .nil), by simp only [List.map_cons, List.map_nil]; decide +kernel⟩
    · cases ia with | cons i0 r0 => cases r0; exact ⟨[(Str.ofString "encoded", _), (Str.ofString "eol", _)], BindsTo.of_defaults rfl (U.base _ _ (B.X 72 _ rfl)) rfl rfl rfl, rfl, .cons i0 (.cons .str .nil), by simp only [List.map_cons, List.map_nil]; decide +kernel⟩
  · intro n x hx
    simp only [List.map_cons, List.map_nil, List.mem_cons, List.not_mem_nil, or_false] at hx
    rcases hx with rfl | rfl
    · exact Or.inl rfl
    · exact Or.inl rfl
  intro C' ok kin hN hcl
  dsimp only at hN
  have B := B.kin kin
  replace hcl := hcl _ rfl
  replace hcl : C'.env.cells = [] := hcl
  have mg_hexdigits := B.g_hexdigits
  have mg_len := B.g_len
  have mg_unquote := B.g_unquote
  have k_encoded : C'.env.kindOf (Str.ofString "encoded") = some .local := kind_of hN rfl
  have k_eol : C'.env.kindOf (Str.ofString "eol") = some .local := kind_of hN rfl
  have k_decoded : C'.env.kindOf (Str.ofString "decoded") = some .local := kind_of hN rfl
  have k_line : C'.env.kindOf (Str.ofString "line") = some .local := kind_of hN rfl
  have k_i : C'.env.kindOf (Str.ofString "i") = some .local := kind_of hN rfl
  have k_n : C'.env.kindOf (Str.ofString "n") = some .local := kind_of hN rfl
  have k_len : C'.env.kindOf (Str.ofString "len") = some .globalImplicit := kind_of hN rfl
  have k_c : C'.env.kindOf (Str.ofString "c") = some .local := kind_of hN rfl
  have k_hexdigits : C'.env.kindOf (Str.ofString "hexdigits") = some .globalImplicit := kind_of hN rfl
  have k_unquote : C'.env.kindOf (Str.ofString "unquote") = some .globalImplicit := kind_of hN rfl
  clear kin hN
  obtain ⟨P, hP⟩ : ∃ P, (x.length + 1) * (eol.length + 1) = P := ⟨_, rfl⟩
  have hP1 : x.length + 1 ≤ P := by rw [← hP]; exact Nat.le_mul_of_pos_right _ (Nat.succ_pos _)
  have hP2 : eol.length + 1 ≤ P := by rw [← hP]; exact Nat.le_mul_of_pos_left _ (Nat.succ_pos _)
  rw [hP] at hx
  have hxl : x.length ≤ lim := by omega
  have lit2 : (Str.ofString "0123456789abcdefABCDEF").cps.toList = hexL := by decide +kernel
  have lit1 : (Str.ofString "=").cps.toList = [61] := by decide +kernel
  repeat (walk_at "m")
  refine tr_str hxl ?_
  refine ite_ndec (fun h0 => ?_) (fun h0 => ?_)
  · have h0 : x = [] := by simpa using h0
    subst h0
    repeat (walk_at "m")
    exact h
  repeat (walk_at "m")
  refine ex_for ok (by walk_at "m_stor") ?_ (by intro _; rfl)
  repeat (walk_at "m")
  refine doc_splitlines (by simp only [lim] at hx ⊢; omega) ?_
  refine ⟨_, rfl, (fun k ρ' ω' => ω' = [] ∧ get ρ' (Str.ofString "encoded") = some (.str x) ∧ get ρ' (Str.ofString "eol") = some (.str eol) ∧ get ρ' (Str.ofString "decoded") = some (.str ((((linesL x).take k).map (lineF eol)).flatten))), ?_, ?_, ?_⟩
  · exact ⟨rfl, by walk_at "m_get", by walk_at "m_get", by walk_at "m_get"⟩
  · rintro k d ρ' ω' hk ⟨rfl, g1, g2, g3⟩
    obtain ⟨line, hline, rfl⟩ : ∃ line, (linesL x)[k]? = some line ∧ d = .str line := by
      rw [List.getElem?_map] at hk
      cases hq : (linesL x)[k]? with
      | none => rw [hq] at hk; cases hk
      | some line => rw [hq] at hk; exact ⟨line, rfl, by simpa using hk.symm⟩
    have hll := line_len x hline
    have hstep := raw_step eol x hline
    have hle := raw_le eol x (k + 1)
    rw [hP] at hle
    generalize (((linesL x).take k).map (lineF eol)).flatten = D0 at *
    repeat (walk_at "m")
    refine doc_rstrip (by simp only [lim] at hx ⊢; omega) ?_
    have hrl := rstripL_len line
    have hF : lineF eol line = if rstripL line = [] then eol else lineGo eol (rstripL line) := rfl
    generalize rstripL line = ln at *
    repeat (walk_at "m")
    refine tr_str (by simp only [lim] at hx ⊢; omega) ?_
    refine ite_ndec (fun h1 => ?_) (fun h1 => ?_)
    · have h1 : ln = [] := by simpa using h1
      rw [if_pos h1] at hF
      rw [hF] at hstep
      rw [hstep] at hle
      repeat (walk_at "m")
      refine do_iadd_str (by simp only [lim, List.length_append, List.length_cons, List.length_nil] at hx hle ⊢; omega) ?_
      repeat (walk_at "m")
      refine ⟨rfl, by walk_at "m_get", by walk_at "m_get", ?_⟩
      rw [hstep]; walk_at "m_get"
    · rw [if_neg h1] at hF
      rw [hF] at hstep
      rw [hstep] at hle
      repeat (walk_at "m")
      refine doc_len_str (by simp only [lim] at hx ⊢; omega) ?_
      repeat (walk_at "m")
      refine ex_while (fun m ρ'' ω'' => ω'' = [] ∧ ∃ (i : Nat) (dec : List Nat), i ≤ ln.length ∧ m = ln.length - i ∧ dec ++ lineGo eol (ln.drop i) = D0 ++ lineGo eol ln ∧
        get ρ'' (Str.ofString "encoded") = some (.str x) ∧ get ρ'' (Str.ofString "eol") = some (.str eol) ∧ get ρ'' (Str.ofString "decoded") = some (.str dec) ∧
        get ρ'' (Str.ofString "line") = some (.str ln) ∧ get ρ'' (Str.ofString "i") = some (.int i) ∧ get ρ'' (Str.ofString "n") = some (.int ln.length)) ln.length ?_ ?_
      · exact ⟨rfl, 0, D0, Nat.zero_le _, by omega, rfl, by walk_at "m_get", by walk_at "m_get", by walk_at "m_get", by walk_at "m_get", by walk_at "m_get", by walk_at "m_get"⟩
      rintro m ρ'' ω'' ⟨rfl, i, dec, hi, rfl, hdec, e1, e2, e3, e4, e5, e6⟩
      repeat (walk_at "m")
      refine ite_dec (fun hlt => ?_) (fun hge => ?_)
      · have hlt : i < ln.length := by omega
        have hdrop : ln.drop i = ln[i] :: ln.drop (i + 1) := List.drop_eq_getElem_cons hlt
        have hdl : dec.length + (lineGo eol (ln.drop i)).length = (D0 ++ lineGo eol ln).length := by rw [← List.length_append, hdec]
        repeat (walk_at "m")
        refine ⟨ln[i], idx_nat ln i hlt, by simp only [lim] at hx ⊢; omega, ?_⟩
        dsimp only
        have hne0 : ∀ r : List Nat, (if r = [] then eol else lineGo eol r) = (if r = [] then eol else []) ++ lineGo eol r := by
          intro r; cases r with
          | nil => simp [lineGo]
          | cons a r => simp
        repeat (walk_at "m")
        try rw [lit1]
        refine ite_dec (fun hc => ?_) (fun hc => ?_)
        · have hc : ln[i] ≠ 61 := by simpa using hc
          have hg : lineGo eol (ln.drop i) = ln[i] :: ((if ln.drop (i + 1) = [] then eol else []) ++ lineGo eol (ln.drop (i + 1))) := by
            rw [hdrop, lineGo_ne hc, hne0]
          rw [hg] at hdec hdl
          repeat (walk_at "m")
          refine do_iadd_str (by simp only [lim, List.length_append, List.length_cons, List.length_nil] at hx hle hdl ⊢; omega) ?_
          repeat (walk_at "m")
          refine ite_dec (fun hq => ?_) (fun hq => ?_)
          · have hq : i + 1 = ln.length := by omega
            have hd0 : ln.drop (i + 1) = [] := List.drop_of_length_le (by omega)
            rw [hd0] at hdec hdl
            simp only [if_true] at hdec hdl
            repeat (walk_at "m")
            refine do_iadd_str (by simp only [lim, List.length_append, List.length_cons, List.length_nil] at hx hle hdl ⊢; omega) ?_
            repeat (walk_at "m")
            refine ⟨ln.length - (i + 1), by omega, rfl, i + 1, _, by omega, rfl, ?_, by walk_at "m_get", by walk_at "m_get", by walk_at "m_get", by walk_at "m_get", by walk_at "m_get", by walk_at "m_get"⟩
            rw [hd0, ← hdec]; simp
          · have hd0 : ln.drop (i + 1) ≠ [] := by
              intro e; have := congrArg List.length e; simp at this; omega
            rw [if_neg hd0] at hdec
            repeat (walk_at "m")
            refine ⟨ln.length - (i + 1), by omega, rfl, i + 1, _, by omega, rfl, ?_, by walk_at "m_get", by walk_at "m_get", by walk_at "m_get", by walk_at "m_get", by walk_at "m_get", by walk_at "m_get"⟩
            rw [← hdec]; simp
        · have hc : ln[i] = 61 := by simpa using hc
          repeat (walk_at "m")
          refine ite_dec (fun hq => ?_) (fun hq => ?_)
          · -- a soft break
            have hq : i + 1 = ln.length := by omega
            have hd0 : ln.drop (i + 1) = [] := List.drop_of_length_le (by omega)
            rw [hdrop, hc, hd0, lineGo_soft] at hdec
            repeat (walk_at "m")
            refine ⟨ln.length - (i + 1), by omega, rfl, i + 1, dec, by omega, rfl, ?_, by walk_at "m_get", by walk_at "m_get", by walk_at "m_get", by walk_at "m_get", by walk_at "m_get", by walk_at "m_get"⟩
            rw [hd0, lineGo_nil]; exact hdec
          · have hlt2 : i + 1 < ln.length := by omega
            -- the literal case, shared
            have hdrop1 : ln.drop (i + 1) = ln[i + 1] :: ln.drop (i + 2) := List.drop_eq_getElem_cons hlt2
            refine exs_cons (ex_if (pt_bool ?_))
            refine Pb.mono (K := fun b => b = decide (∃ h2 : i + 2 < ln.length, ln[i + 1] ∈ hexL ∧ ln[i + 2] ∈ hexL)) ?_ ?_
            · repeat (walk_at "m")
              refine ite_dec (fun q1 => ?_) (fun q1 => ?_)
              · have q1 : i + 2 < ln.length := by omega
                repeat (walk_at "m")
                refine ⟨ln[i + 1], by exact_mod_cast idx_nat ln (i + 1) hlt2, by simp only [lim] at hx ⊢; omega, ?_⟩
                dsimp only
                repeat (walk_at "m")
                refine ite_dec (fun q2 => ?_) (fun q2 => ?_)
                · repeat (walk_at "m")
                  refine ⟨ln[i + 2], by exact_mod_cast idx_nat ln (i + 2) q1, by simp only [lim] at hx ⊢; omega, ?_⟩
                  dsimp only
                  repeat (walk_at "m")
                  refine ite_dec (fun q3 => ?_) (fun q3 => ?_)
                  · repeat (walk_at "m")
                    exact (decide_eq_true ⟨q1, q2, q3⟩).symm
                  · exact (decide_eq_false fun q => q3 q.2.2).symm
                · exact (decide_eq_false fun q => q2 q.2.1).symm
              · exact (decide_eq_false fun q => q1 (by have := q.1; omega)).symm
            rintro b rfl
            refine ite_dec (fun hq2 => ?_) (fun hq2 => ?_)
            · obtain ⟨h3, ha, hb⟩ := hq2
              have hdrop2 : ln.drop (i + 2) = ln[i + 2] :: ln.drop (i + 3) := List.drop_eq_getElem_cons h3
              have hg : lineGo eol (ln.drop i) = (hv ln[i + 1] * 16 + hv ln[i + 2]) :: ((if ln.drop (i + 3) = [] then eol else []) ++ lineGo eol (ln.drop (i + 3))) := by
                rw [hdrop, hc, hdrop1, hdrop2, lineGo_esc ha hb, hne0]
              rw [hg] at hdec hdl
              have hsl : sl ln (some (i : Int)) (some ((i : Int) + 3)) = [61, ln[i + 1], ln[i + 2]] := by
                have e := sl_mid ln i (i + 3) (by omega) (by omega)
                have e' : ((i + 3 : Nat) : Int) = (i : Int) + 3 := by omega
                rw [e'] at e
                rw [e, hdrop, hc, hdrop1, hdrop2, show i + 3 - i = 3 by omega]; rfl
              repeat (walk_at "m")
              refine ⟨.fn ⟨_, _, _, _, B.X 59 _ rfl⟩, ?_⟩
              repeat (walk_at "m")
              refine ⟨by simp only [lim] at hx ⊢; omega, ?_⟩
              rw [hsl]
              repeat (walk_at "m")
              refine unquote07 B ok.room ha hb ?_
              refine do_iadd_str (by simp only [lim, List.length_append, List.length_cons, List.length_nil] at hx hle hdl ⊢; omega) ?_
              dsimp only
              repeat (walk_at "m")
              refine ite_dec (fun hq => ?_) (fun hq => ?_)
              · have hq : i + 3 = ln.length := by omega
                have hd0 : ln.drop (i + 3) = [] := List.drop_of_length_le (by omega)
                rw [hd0] at hdec hdl
                simp only [if_true] at hdec hdl
                repeat (walk_at "m")
                refine do_iadd_str (by simp only [lim, List.length_append, List.length_cons, List.length_nil] at hx hle hdl ⊢; omega) ?_
                dsimp only
                repeat (walk_at "m")
                refine ⟨ln.length - (i + 3), by omega, rfl, i + 3, _, by omega, rfl, ?_, by walk_at "m_get", by walk_at "m_get", by walk_at "m_get", by walk_at "m_get", by walk_at "m_get", by walk_at "m_get"⟩
                rw [hd0, ← hdec]; simp
              · have hd0 : ln.drop (i + 3) ≠ [] := by
                  intro e; have := congrArg List.length e; simp at this; omega
                rw [if_neg hd0] at hdec
                repeat (walk_at "m")
                refine ⟨ln.length - (i + 3), by omega, rfl, i + 3, _, by omega, rfl, ?_, by walk_at "m_get", by walk_at "m_get", by walk_at "m_get", by walk_at "m_get", by walk_at "m_get", by walk_at "m_get"⟩
                rw [← hdec]; simp
            · have hg : lineGo eol (ln.drop i) = 61 :: lineGo eol (ln.drop (i + 1)) := by
                rw [hdrop, hc, hdrop1]
                by_cases h3 : i + 2 < ln.length
                · have hdrop2 : ln.drop (i + 2) = ln[i + 2] :: ln.drop (i + 3) := List.drop_eq_getElem_cons h3
                  rw [hdrop2, lineGo_lit2 fun q => hq2 ⟨h3, q⟩]
                · have : ln.drop (i + 2) = [] := List.drop_of_length_le (by omega)
                  rw [this, lineGo_lit1]
              rw [hg] at hdec hdl
              repeat (walk_at "m")
              refine do_iadd_str (by simp only [lim, List.length_append, List.length_cons, List.length_nil] at hx hle hdl ⊢; omega) ?_
              dsimp only
              repeat (walk_at "m")
              refine ite_dec (fun hq => ?_) (fun hq => ?_)
              · exfalso; omega
              · repeat (walk_at "m")
                refine ⟨ln.length - (i + 1), by omega, rfl, i + 1, _, by omega, rfl, ?_, by walk_at "m_get", by walk_at "m_get", by walk_at "m_get", by walk_at "m_get", by walk_at "m_get", by walk_at "m_get"⟩
                rw [← hdec, hc]; simp
      · have : i = ln.length := by omega
        subst this
        simp only [List.drop_length, lineGo, List.append_nil] at hdec
        refine exs_nil ⟨rfl, e1, e2, ?_⟩
        rw [hstep, ← hdec]; exact e3
  · rintro ρ' ω' ⟨rfl, g1, g2, g3⟩
    have hraw : ((List.take (List.map D.str (linesL x)).length (linesL x)).map (lineF eol)).flatten = decRaw eol x := by
      rw [List.length_map, List.take_length]; rfl
    rw [hraw] at g3
    have hdl := decRaw_len eol x
    rw [hP] at hdl
    refine exs_cons (ex_if (pt_bool ?_))
    repeat (walk_at "m")
    have hlast : idx x (-1) = some (x.getLast (by simpa using h0)) := idx_last x _
    have hlast' : x.getLast? = some (x.getLast (by simpa using h0)) := List.getLast?_eq_some_getLast _
    refine ⟨_, hlast, hxl, ?_⟩
    have hdec : decF eol x = if x.getLast? ≠ some 13 ∧ x.getLast? ≠ some 10 ∧ endsL (decRaw eol x) eol = true then sl (decRaw eol x) none (some (-(eol.length : Int))) else decRaw eol x := by
      unfold decF; rw [if_neg (by simpa using h0)]
    rw [hlast'] at hdec
    generalize x.getLast _ = lc at *
    have lit3 : (Str.ofString "\x0d\n").cps.toList = [13, 10] := by decide +kernel
    dsimp only
    repeat (walk_at "m")
    try rw [lit3]
    refine ite_dec (fun q1 => ?_) (fun q1 => ?_)
    · have q1 : lc ≠ 13 ∧ lc ≠ 10 := by simpa using q1
      repeat (walk_at "m")
      refine doc_endswith ?_
      repeat (walk_at "m")
      refine ite_b (fun q2 => ?_) (fun q2 => ?_)
      · repeat (walk_at "m")
        refine doc_len_str (by simp only [lim] at hx ⊢; omega) ?_
        repeat (walk_at "m")
        refine ⟨by simp only [lim] at hx ⊢; omega, ?_⟩
        dsimp only
        repeat (walk_at "m")
        rw [if_pos ⟨by simpa using q1.1, by simpa using q1.2, q2⟩] at hdec
        rw [hdec] at h; exact h
      · repeat (walk_at "m")
        rw [if_neg fun q => by rw [q.2.2] at q2; cases q2] at hdec
        rw [hdec] at h; exact h
    · repeat (walk_at "m")
      rw [if_neg fun q => q1 (by simpa using ⟨fun e => q.1 (by rw [e]), fun e => q.2.1 (by rw [e])⟩)] at hdec
      rw [hdec] at h; exact h

end Mine
end

section
namespace Mine
open Sre (M)
/-- the pattern's words -/
def reCode : Array Nat := #[14, 8, 1, 3, 3, 1, 1, 61, 0, 16, 61, 24, 16, 2, 2, 13, 11, 9, 0, 67043328, 126, 126, 0, 0, 0, 0, 0, 1, 1]
def stepN : Nat → M → M
  | 0, m => m
  | n + 1, m => stepN n m.step
theorem step_stay {m : M} (h : m.outcome.isSome = true) : m.step = m := by unfold M.step; rw [if_pos h]
theorem stepN_stay {m : M} (h : m.outcome.isSome = true) : ∀ n, stepN n m = m
  | 0 => rfl
  | n + 1 => by rw [stepN, step_stay h, stepN_stay h n]
theorem runFor_eq : ∀ (n : Nat) (m : M), M.runFor n m = stepN n m
  | 0, m => rfl
  | n + 1, m => by
    rw [M.runFor, stepN]
    split
    · rename_i h; rw [step_stay h, stepN_stay h]
    · exact runFor_eq n _
theorem stepN_add : ∀ (a b : Nat) (m : M), stepN (a + b) m = stepN b (stepN a m)
  | 0, b, m => by rw [Nat.zero_add]; rfl
  | a + 1, b, m => by rw [Nat.succ_add, stepN, stepN, stepN_add a b]
theorem stepN_end {k j : Nat} {m : M} (hk : (stepN k m).outcome.isSome = true) (hj : k ≤ j) : stepN j m = stepN k m := by
  obtain ⟨d, rfl⟩ := Nat.exists_eq_add_of_le hj
  rw [stepN_add, stepN_stay hk]
theorem stepN_uniq {k j : Nat} {m : M} (hk : (stepN k m).outcome.isSome = true) (hj : (stepN j m).outcome.isSome = true) : stepN j m = stepN k m := by
  rcases Nat.le_total k j with h | h
  · exact stepN_end hk h
  · exact (stepN_end hj h).symm
section
variable {MM : Model} {A : Around} {E : Value → Shared → Prop} {s : Shared}
theorem wp_reDrive {Q : M → Shared → Prop} : ∀ (turns k : Nat) (m : M), (stepN k m).outcome.isSome = true → k ≤ 4 * turns → 1 ≤ turns → Q (stepN k m) s → wpAny MM A (Builtin.Re.reDrive turns m) Q E s
  | 0, k, m, hk, h1, h2, hQ => by omega
  | t + 1, k, m, hk, h1, h2, hQ => by
    unfold Builtin.Re.reDrive
    dsimp only
    rw [runFor_eq]
    by_cases h : (stepN Builtin.Re.reTurnSteps m).outcome.isSome = true
    · rw [if_pos h]
      refine wpAny_pure ?_
      rw [stepN_uniq hk h]; exact hQ
    · rw [if_neg h]
      refine wpAny_bind (wpAny_rule ?_)
      have hlt : 4 < k := by
        rcases Nat.lt_or_ge 4 k with q | q
        · exact q
        · exact absurd (by rw [show Builtin.Re.reTurnSteps = 4 from rfl, stepN_end hk q]; exact hk) h
      have e : stepN k m = stepN (k - 4) (stepN Builtin.Re.reTurnSteps m) := by
        rw [show Builtin.Re.reTurnSteps = 4 from rfl, ← stepN_add, show 4 + (k - 4) = k by omega]
      rw [e] at hk hQ
      exact wp_reDrive t (k - 4) _ hk (by omega) (by omega) hQ
end
/-- the machine at a start -/
def m0 (text : Array Nat) (lim : Nat) (first must : Bool) (seen : Sre.Seen) (s : Nat) : M :=
  { code := reCode, text, lim, start := s, lastStart := lim, wholeText := false, mustAdvance := must, pc := 9, pos := s, handed := s, outermost := first, marks := #[], lastmark := -1, lastindex := -1,
    loops := #[], inner := none, frames := [{ wait := .nextStart, pc := 9, pos := s, outermost := first }], weight := 1, answer := none, seen, outcome := none }
theorem acc_lit (c : Nat) (seen : Sre.Seen) : Sre.accepts reCode 9 c seen = .ok (c == 61, seen) := rfl
theorem bits : ∀ c, c < 256 → (reCode.getD (18 + c / 32) 0).testBit (c % 32) = decide (c ∈ hexL) := by
  have h : ∀ c : _root_.Fin 256, (reCode.getD (18 + c.1 / 32) 0).testBit (c.1 % 32) = decide (c.1 ∈ hexL) := by decide +kernel
  intro c hc; exact h ⟨c, hc⟩
theorem hex_lt : ∀ c ∈ hexL, c < 256 := by decide
theorem acc_set (c : Nat) (seen : Sre.Seen) : ∃ seen', Sre.accepts reCode 15 c seen = .ok (decide (c ∈ hexL), seen') := by
  have e : Sre.accepts reCode 15 c seen = (if c < 256 && (reCode.getD (17 + (1 + c / 32)) 0).testBit (c % 32) then .ok (true, seen.add 9) else .ok (false, (seen.add 9).add 0)) := rfl
  rw [e]
  by_cases hc : c < 256
  · have := bits c hc
    rw [show 17 + (1 + c / 32) = 18 + c / 32 by omega, this]
    by_cases hh : c ∈ hexL
    · exact ⟨seen.add 9, by simp [hc, hh]⟩
    · exact ⟨(seen.add 9).add 0, by simp [hc, hh]⟩
  · have hh : c ∉ hexL := fun q => hc (hex_lt c q)
    exact ⟨(seen.add 9).add 0, by simp [hc, hh]⟩
/-- a match stands at s -/
def hexAt (l : List Nat) (s : Nat) : Prop := ∃ a b, l[s]? = some 61 ∧ l[s + 1]? = some a ∧ l[s + 2]? = some b ∧ a ∈ hexL ∧ b ∈ hexL
section
variable {text : Array Nat} {lim : Nat} {first must : Bool} {seen : Sre.Seen} {s : Nat}
theorem exec_lit : (m0 text lim first must seen s).step = (if s ≥ lim then { m0 text lim first must (seen.add 16) s with answer := some false }
    else if (text.getD s 0 == 61) = true then { m0 text lim first must (seen.add 16) s with pc := 11, pos := s + 1 } else { m0 text lim first must (seen.add 16) s with answer := some false }) := by
  have e : (m0 text lim first must seen s).step = (if s ≥ lim then { m0 text lim first must (seen.add 16) s with answer := some false }
    else match Sre.accepts reCode 9 (text.getD s 0) (seen.add 16) with
    | .error why => (m0 text lim first must (seen.add 16) s).stick why
    | .ok (false, seen') => { m0 text lim first must seen' s with answer := some false }
    | .ok (true, seen') => { m0 text lim first must seen' s with pc := 11, pos := s + 1 }) := rfl
  rw [e, acc_lit]
  split
  · rfl
  · cases text.getD s 0 == 61 <;> rfl
/-- a start that failed -/
theorem fail_next {seen2 : Sre.Seen} {pc pos : Nat} (h : s < lim) : M.step { m0 text lim first must seen2 s with pc, pos, answer := some false } = m0 text lim false false seen2 (s + 1) := by
  have e : M.step { m0 text lim first must seen2 s with pc, pos, answer := some false } = (if s < lim then m0 text lim false false seen2 (s + 1) else { m0 text lim first must seen2 s with pc := 9, pos := s, answer := some false, frames := [], weight := 0 }) := by
    rfl
  rw [e, if_pos h]
theorem fail_end {seen2 : Sre.Seen} {pc pos : Nat} (h : ¬ s < lim) : (stepN 2 { m0 text lim first must seen2 s with pc, pos, answer := some false }).outcome = some .failed := by
  have e : M.step { m0 text lim first must seen2 s with pc, pos, answer := some false } = (if s < lim then m0 text lim false false seen2 (s + 1) else { m0 text lim first must seen2 s with pc := 9, pos := s, answer := some false, frames := [], weight := 0 }) := by
    rfl
  rw [stepN, e, if_neg h]
  rfl
theorem exec_rep : ∃ seen', M.step { m0 text lim first must seen s with pc := 11, pos := s + 1 } = (
    if (2 : Int) > (lim : Int) - ((s + 1 : Nat) : Int) then { m0 text lim first must (seen.add 24) s with pc := 11, pos := s + 1, answer := some false }
    else if text.getD (s + 1) 0 ∈ hexL ∧ text.getD (s + 2) 0 ∈ hexL then
      { m0 text lim first must seen' s with pc := 28, pos := s + 3, handed := s + 3, weight := 2, frames := [{ wait := .giveBack, pc := 11, pos := s + 3, outermost := first, count := 2, kept := { lastmark := -1, lastindex := -1, whole := false, marks := #[] } }, { wait := .nextStart, pc := 9, pos := s, outermost := first }] }
    else { m0 text lim first must seen' s with pc := 11, pos := s + 1, answer := some false }) := by
  have e : M.step { m0 text lim first must seen s with pc := 11, pos := s + 1 } = (
    if (2 : Int) > (lim : Int) - ((s + 1 : Nat) : Int) then { m0 text lim first must (seen.add 24) s with pc := 11, pos := s + 1, answer := some false }
    else match Sre.run reCode text 15 (min 2 ((lim : Int) - ((s + 1 : Nat) : Int)).toNat) (s + 1) 0 ((seen.add 24).add 13) with
      | .error why => M.stick { m0 text lim first must (seen.add 24) s with pc := 11, pos := s + 1 } why
      | .ok (n, seen') =>
        if n < 2 then { m0 text lim first must seen' s with pc := 11, pos := s + 1, answer := some false } else
        M.afterRun { m0 text lim first must seen' s with pc := 11, pos := s + 1 + n } .giveBack n { lastmark := -1, lastindex := -1, whole := false, marks := #[] }) := rfl
  rw [e]
  by_cases h : (2 : Int) > (lim : Int) - ((s + 1 : Nat) : Int)
  · exact ⟨seen, by rw [if_pos h, if_pos h]⟩
  rw [if_neg h]
  have hmin : min 2 ((lim : Int) - ((s + 1 : Nat) : Int)).toNat = 2 := by omega
  rw [hmin]
  obtain ⟨sn1, h1⟩ := acc_set (text.getD (s + 1) 0) ((seen.add 24).add 13)
  obtain ⟨sn2, h2⟩ := acc_set (text.getD (s + 2) 0) sn1
  by_cases c1 : text.getD (s + 1) 0 ∈ hexL
  · by_cases c2 : text.getD (s + 2) 0 ∈ hexL
    · refine ⟨sn2, ?_⟩
      rw [if_neg h, if_pos ⟨c1, c2⟩]
      simp only [Sre.run, h1, h2, c1, c2, decide_true, bind, Except.bind, if_true]
      rfl
    · refine ⟨sn2, ?_⟩
      rw [if_neg h, if_neg (fun q => c2 q.2)]
      simp only [Sre.run, h1, h2, c1, c2, decide_true, decide_false, bind, Except.bind, if_true, Bool.false_eq_true, if_false, pure, Except.pure]
      rfl
  · refine ⟨sn1, ?_⟩
    rw [if_neg h, if_neg (fun q => c1 q.1)]
    simp only [Sre.run, h1, c1, decide_false, bind, Except.bind, Bool.false_eq_true, if_false, pure, Except.pure]
    rfl
theorem win_end {seen' : Sre.Seen} : ∃ m', stepN 4 { m0 text lim first must seen' s with pc := 28, pos := s + 3, handed := s + 3, weight := 2, frames := [{ wait := .giveBack, pc := 11, pos := s + 3, outermost := first, count := 2, kept := { lastmark := -1, lastindex := -1, whole := false, marks := #[] } }, { wait := .nextStart, pc := 9, pos := s, outermost := first }] } = m' ∧
      m'.outcome = some .matched ∧ m'.start = s ∧ m'.handed = s + 3 ∧ m'.lastmark = -1 ∧ m'.lastindex = -1 ∧ m'.marks = #[] := by
  have e : M.step { m0 text lim first must seen' s with pc := 28, pos := s + 3, handed := s + 3, weight := 2, frames := [{ wait := .giveBack, pc := 11, pos := s + 3, outermost := first, count := 2, kept := { lastmark := -1, lastindex := -1, whole := false, marks := #[] } }, { wait := .nextStart, pc := 9, pos := s, outermost := first }] } =
      (if (first && ((false && (s + 3 != lim)) || (must && (s + 3 == s)))) = true then { m0 text lim first must (seen'.add 1) s with pc := 28, pos := s + 3, handed := s + 3, weight := 2, answer := some false, frames := [{ wait := .giveBack, pc := 11, pos := s + 3, outermost := first, count := 2, kept := { lastmark := -1, lastindex := -1, whole := false, marks := #[] } }, { wait := .nextStart, pc := 9, pos := s, outermost := first }] }
      else { m0 text lim first must (seen'.add 1) s with pc := 28, pos := s + 3, handed := s + 3, weight := 2, answer := some true, frames := [{ wait := .giveBack, pc := 11, pos := s + 3, outermost := first, count := 2, kept := { lastmark := -1, lastindex := -1, whole := false, marks := #[] } }, { wait := .nextStart, pc := 9, pos := s, outermost := first }] }) := rfl
  rw [stepN, e]
  have hs : (s + 3 == s) = false := by simp
  rw [hs]
  simp only [Bool.false_and, Bool.and_false, Bool.or_self, Bool.false_eq_true, if_false]
  exact ⟨_, rfl, rfl, rfl, rfl, rfl, rfl, rfl⟩
end
/-- where the first match from s stands -/
def nextHex : List Nat → Option Nat
  | 61 :: a :: b :: r => if a ∈ hexL ∧ b ∈ hexL then some 0 else (nextHex (a :: b :: r)).map (· + 1)
  | _ :: r => (nextHex r).map (· + 1)
  | [] => none
def Found (l : List Nat) (s : Nat) (m' : M) : Prop := match nextHex (l.drop s) with
  | some k => m'.outcome = some .matched ∧ m'.start = s + k ∧ m'.handed = s + k + 3 ∧ m'.lastmark = -1 ∧ m'.lastindex = -1 ∧ m'.marks = #[]
  | none => m'.outcome = some .failed
theorem nextHex_cons {c : Nat} {r : List Nat} (h : ¬ (c = 61 ∧ ∃ a b r', r = a :: b :: r' ∧ a ∈ hexL ∧ b ∈ hexL)) : nextHex (c :: r) = (nextHex r).map (· + 1) := by
  match c, r with
  | 61, a :: b :: r' =>
    rw [nextHex, if_neg fun q => h ⟨rfl, a, b, r', rfl, q⟩]
  | 61, [a] => rw [nextHex]; intro a' b r' e1 e2; simp at e2
  | 61, [] => rw [nextHex]; intro a' b r' e1 e2; simp at e2
  | c, r =>
    by_cases hc : c = 61
    · subst hc
      match r with
      | [] => rw [nextHex]; intro a' b r' e1 e2; simp at e2
      | [a] => rw [nextHex]; intro a' b r' e1 e2; simp at e2
      | a :: b :: r' => rw [nextHex, if_neg fun q => h ⟨rfl, a, b, r', rfl, q⟩]
    · rw [nextHex]; intro a b r' e1 e2; exact hc e1
theorem getD_list (l : List Nat) (i : Nat) : l.toArray.getD i 0 = (l[i]?).getD 0 := by
  simp [Array.getD_eq_getD_getElem?]
theorem search_from (l : List Nat) : ∀ (n s : Nat) (first must : Bool) (seen : Sre.Seen), l.length - s ≤ n → s ≤ l.length → ∃ k, k ≤ 8 * (n + 1) ∧ (stepN k (m0 l.toArray l.length first must seen s)).outcome.isSome = true ∧ Found l s (stepN k (m0 l.toArray l.length first must seen s))
  | n, s, first, must, seen, hn, hs => by
    have next : ∀ (seen2 : Sre.Seen) (pc pos : Nat), s < l.length → n ≠ 0 → nextHex (l.drop s) = (nextHex (l.drop (s + 1))).map (· + 1) → ∃ k, k ≤ 8 * n + 1 ∧ (stepN k { m0 l.toArray l.length first must seen2 s with pc, pos, answer := some false }).outcome.isSome = true ∧ Found l s (stepN k { m0 l.toArray l.length first must seen2 s with pc, pos, answer := some false }) := by
      intro seen2 pc pos hlt hn0 hnx
      obtain ⟨n', rfl⟩ : ∃ n', n = n' + 1 := ⟨n - 1, by omega⟩
      obtain ⟨k, h1, h2, h3⟩ := search_from l n' (s + 1) false false seen2 (by omega) (by omega)
      refine ⟨k + 1, by omega, ?_⟩
      rw [stepN, fail_next hlt]
      refine ⟨h2, ?_⟩
      unfold Found at h3 ⊢
      rw [hnx]
      cases hq : nextHex (l.drop (s + 1)) with
      | none => rw [hq] at h3; exact h3
      | some j =>
        rw [hq] at h3
        obtain ⟨a, b, c, d⟩ := h3
        exact ⟨a, by rw [b]; show s + 1 + j = s + (j + 1); omega, by rw [c]; show s + 1 + j + 3 = s + (j + 1) + 3; omega, d⟩
    by_cases hlt : s < l.length
    · have hn0 : n ≠ 0 := by omega
      have hdrop : l.drop s = l[s] :: l.drop (s + 1) := List.drop_eq_getElem_cons hlt
      have hget : l.toArray.getD s 0 = l[s] := by rw [getD_list, List.getElem?_eq_getElem hlt]; rfl
      by_cases hc : l[s] = 61
      · have e1 : (m0 l.toArray l.length first must seen s).step = { m0 l.toArray l.length first must (seen.add 16) s with pc := 11, pos := s + 1 } := by
          rw [exec_lit, if_neg (by omega), hget, hc]; rfl
        obtain ⟨seen', e2⟩ := exec_rep (text := l.toArray) (lim := l.length) (first := first) (must := must) (seen := seen.add 16) (s := s)
        by_cases hroom : (2 : Int) > (l.length : Int) - ((s + 1 : Nat) : Int)
        · rw [if_pos hroom] at e2
          have hnx : nextHex (l.drop s) = (nextHex (l.drop (s + 1))).map (· + 1) := by
            rw [hdrop]
            refine nextHex_cons ?_
            rintro ⟨_, a, b, r', e, _⟩
            have := congrArg List.length e
            simp at this; omega
          obtain ⟨k, h1, h2, h3⟩ := next _ 11 (s + 1) hlt hn0 hnx
          refine ⟨k + 2, by omega, ?_⟩
          rw [stepN, stepN, e1, e2]; exact ⟨h2, h3⟩
        · rw [if_neg hroom] at e2
          have h1 : s + 1 < l.length := by omega
          have h2 : s + 2 < l.length := by omega
          have g1 : l.toArray.getD (s + 1) 0 = l[s + 1] := by rw [getD_list, List.getElem?_eq_getElem h1]; rfl
          have g2 : l.toArray.getD (s + 2) 0 = l[s + 2] := by rw [getD_list, List.getElem?_eq_getElem h2]; rfl
          have hd1 : l.drop (s + 1) = l[s + 1] :: l.drop (s + 2) := List.drop_eq_getElem_cons h1
          have hd2 : l.drop (s + 2) = l[s + 2] :: l.drop (s + 3) := List.drop_eq_getElem_cons h2
          rw [g1, g2] at e2
          by_cases hh : l[s + 1] ∈ hexL ∧ l[s + 2] ∈ hexL
          · rw [if_pos hh] at e2
            obtain ⟨m', w1, w2, w3, w4, w5⟩ := win_end (text := l.toArray) (lim := l.length) (first := first) (must := must) (seen' := seen') (s := s)
            refine ⟨6, by omega, ?_⟩
            rw [stepN, stepN, e1, e2, w1]
            refine ⟨by rw [w2]; rfl, ?_⟩
            unfold Found
            rw [hdrop, hc, hd1, hd2, nextHex, if_pos hh]
            exact ⟨w2, w3, w4, w5⟩
          · rw [if_neg hh] at e2
            have hnx : nextHex (l.drop s) = (nextHex (l.drop (s + 1))).map (· + 1) := by
              rw [hdrop]
              refine nextHex_cons ?_
              rintro ⟨_, a, b, r', e, ha, hb⟩
              rw [hd1, hd2] at e
              simp only [List.cons.injEq] at e
              obtain ⟨rfl, rfl, _⟩ := e
              exact hh ⟨ha, hb⟩
            obtain ⟨k, h1, h2, h3⟩ := next _ 11 (s + 1) hlt hn0 hnx
            refine ⟨k + 2, by omega, ?_⟩
            rw [stepN, stepN, e1, e2]; exact ⟨h2, h3⟩
      · have e1 : (m0 l.toArray l.length first must seen s).step = { m0 l.toArray l.length first must (seen.add 16) s with answer := some false } := by
          rw [exec_lit, if_neg (by omega), hget, if_neg (by simpa using hc)]
        have hnx : nextHex (l.drop s) = (nextHex (l.drop (s + 1))).map (· + 1) := by
          rw [hdrop]; exact nextHex_cons fun q => hc q.1
        obtain ⟨k, h1, h2, h3⟩ := next (seen.add 16) 9 s hlt hn0 hnx
        refine ⟨k + 1, by omega, ?_⟩
        rw [stepN, e1]; exact ⟨h2, h3⟩
    · have hse : s = l.length := by omega
      have e1 : (m0 l.toArray l.length first must seen s).step = { m0 l.toArray l.length first must (seen.add 16) s with answer := some false } := by
        rw [exec_lit, if_pos (by omega)]
      have e2 := fail_end (text := l.toArray) (lim := l.length) (first := first) (must := must) (s := s) (seen2 := seen.add 16) (pc := 9) (pos := s) hlt
      refine ⟨3, by omega, ?_⟩
      rw [show (3 : Nat) = 2 + 1 from rfl, stepN, e1]
      have e3 : (stepN 2 { m0 l.toArray l.length first must (seen.add 16) s with answer := some false }).outcome = some .failed := e2
      refine ⟨by rw [e3]; rfl, ?_⟩
      unfold Found
      rw [hse, List.drop_length, nextHex]
      rw [hse] at e3; exact e3
end Mine
end

section
namespace Mine
theorem plainAttrs_pat : PlainAttrs "re.Pattern" :=
  ⟨⟨"object.__getattribute__", by rw [typeLookup_type, builtinLookup_eq_fast]; kernel_rfl, by decide +kernel⟩, by rw [typeLookup_type, builtinLookup_eq_fast]; kernel_rfl⟩
theorem plainAttrs_mat : PlainAttrs "re.Match" :=
  ⟨⟨"object.__getattribute__", by rw [typeLookup_type, builtinLookup_eq_fast]; kernel_rfl, by decide +kernel⟩, by rw [typeLookup_type, builtinLookup_eq_fast]; kernel_rfl⟩
theorem slot_sub : Slot "re.Pattern" "sub" "re.Pattern.sub" :=
  .of (owner := "re.Pattern") (n := "sub") (by rw [typeLookup_type, builtinLookup_eq_fast]; kernel_rfl) (by decide +kernel) (by decide +kernel) (by decide +kernel)
    (by first | exact .inl (by decide +kernel) | exact .inr (by decide +kernel)) (by rw [isSubtype_type]; kernel_rfl)
theorem type_sub : typeOf (.builtin "re.Pattern.sub") = pure (.type "method_descriptor") := by show builtinType _ = _; rw [builtinType_eq_fast]; kernel_rfl
theorem entry_sub : entryFor table "re.Pattern.sub" = some Builtin.«re.Pattern.sub» := entryFor_of_tree (by kernel_rfl)
theorem entry_sub_loop : entryFor table "re.Pattern.sub.loop" = some Builtin.«re.Pattern.sub.loop» := entryFor_of_tree (by kernel_rfl)
theorem plain_sub_loop : plainId "re.Pattern.sub.loop" = true := by decide +kernel
theorem owner_pat : Manifest.owners.lookup (String.ofList ['n', 'r', 'e', 't', 't', 'a', 'P', '.', 'e', 'r'].reverse) = some Manifest.sig_re_Pattern := by kernel_rfl
theorem args_sub_3 (a b c : Value) : argsOk "re.Pattern.sub" ⟨[a, b, c], []⟩ := by
  unfold argsOk; rw [signature?_of (id := "re.Pattern.sub") (n := ['b', 'u', 's']) (o := ['n', 'r', 'e', 't', 't', 'a', 'P', '.', 'e', 'r']) (by kernel_rfl) owner_pat]; kernel_rfl
theorem slot_group : Slot "re.Match" "group" "re.Match.group" :=
  .of (owner := "re.Match") (n := "group") (by rw [typeLookup_type, builtinLookup_eq_fast]; kernel_rfl) (by decide +kernel) (by decide +kernel) (by decide +kernel)
    (by first | exact .inl (by decide +kernel) | exact .inr (by decide +kernel)) (by rw [isSubtype_type]; kernel_rfl)
theorem type_group : typeOf (.builtin "re.Match.group") = pure (.type "method_descriptor") := by show builtinType _ = _; rw [builtinType_eq_fast]; kernel_rfl
theorem entry_group : entryFor table "re.Match.group" = some Builtin.«re.Match.group» := entryFor_of_tree (by kernel_rfl)
theorem owner_mat : Manifest.owners.lookup (String.ofList ['h', 'c', 't', 'a', 'M', '.', 'e', 'r'].reverse) = some Manifest.sig_re_Match := by kernel_rfl
theorem args_group_2 (a b : Value) : argsOk "re.Match.group" ⟨[a, b], []⟩ := by
  unfold argsOk; rw [signature?_of (id := "re.Match.group") (n := ['p', 'u', 'o', 'r', 'g']) (o := ['h', 'c', 't', 'a', 'M', '.', 'e', 'r']) (by kernel_rfl) owner_mat]; kernel_rfl
end Mine
end

section
namespace Mine
section
variable {prog : Program} {w : World} {A : Around} {E : Value → Shared → Prop} {s : Shared}
/-- a match object -/
abbrev matObj (x : Str) (tk : Tok) (p q1 q2 q3 : Value) (t : Addr) : Obj := { cls := .type "re.Match", data := .fields #[.str x tk, p, q1, q2, q3, .ref t] }
abbrev spanObj (b e : Nat) : Obj := { cls := .type "tuple", data := .seq #[.int b 0, .int e 0] }
theorem wp_group {x : Str} {tk u : Tok} {p q1 q2 q3 : Value} {a t : Addr} {b e : Nat} {Q : Value → Shared → Prop} (ha : s.heap.get? a = some (matObj x tk p q1 q2 q3 t)) (ht : s.heap.get? t = some (spanObj b e))
    (hl : (Str.mk (x.cps.extract b e)).length ≤ sizeLine) (h : Q (.str ⟨x.cps.extract b e⟩ s.toks) { s with toks := s.toks + 1 }) : wpAny (model prog w) A (call (.builtin "re.Match.group") [.ref a, .int 0 u]) Q E s := by
  refine wpAny_call (codeAny_call_builtin slot_group.plain entry_group (slot_group.check _ _ _ _ _ _ _ _ ⟨_, ha, rfl⟩ (args_group_2 _ _) ?_))
  obtain ⟨hp, g, dr, tks, os⟩ := s
  dsimp only at ha ht h ⊢
  repeat (any_goals (first
    | assumption
    | wp_step))
  have e0 : Array.map Builtin.Re.reRawOf ((some #[Value.int (b : Int) 0, Value.int (e : Int) 0]).getD #[]) = #[(b : Int), (e : Int)] := by
    apply Array.ext'; simp [Builtin.Re.reRawOf]
  rw [e0]
  refine wpAny_ite_false (show decide ((decide ((b : Int) < 0) || decide ((e : Int) < 0)) = true) = false by simp) ?_
  repeat (any_goals (first
    | assumption
    | wp_step))
end
end Mine
end

section
namespace Mine
open Sre (M)
theorem call_function : typeLookup (.type "function") "__call__" = pure (some (.builtin "function.__call__")) := by rw [typeLookup_type, builtinLookup_eq_fast]; kernel_rfl
theorem sub_str_ba : isSubtype (.type "str") (.type "bytearray") = pure false := by rw [isSubtype_type]; kernel_rfl
theorem nextHex_short : ∀ l : List Nat, l.length < 3 → nextHex l = none
  | [], _ => by rw [nextHex]
  | [a], _ => by rw [nextHex_cons (by rintro ⟨_, x, y, z, e, _⟩; cases e), nextHex]; rfl
  | [a, b], _ => by rw [nextHex_cons (by rintro ⟨_, x, y, z, e, _⟩; cases e), nextHex_cons (by rintro ⟨_, x, y, z, e, _⟩; cases e), nextHex]; rfl
  | a :: b :: c :: r, h => by simp at h; omega
theorem search_all (l : List Nat) (s : Nat) (must : Bool) (hs : s ≤ l.length) : ∃ k, k ≤ 8 * (l.length + 1) ∧ (stepN k (Sre.forSearch reCode l.toArray 0 s l.length must)).outcome.isSome = true ∧ Found l s (stepN k (Sre.forSearch reCode l.toArray 0 s l.length must)) := by
  have e : Sre.forSearch reCode l.toArray 0 s l.length must = if (decide (s > l.length) || decide (l.length - s < 3)) = true then { code := reCode, text := l.toArray, lim := l.length, start := s, pc := 9, pos := s, handed := s, marks := #[], mustAdvance := must, seen := ({} : Sre.Seen).add 14, answer := some false }
      else m0 l.toArray l.length true must (({} : Sre.Seen).add 14) s := rfl
  rw [e]
  by_cases h : (decide (s > l.length) || decide (l.length - s < 3)) = true
  · rw [if_pos h]
    have h3 : l.length - s < 3 := by simp at h; omega
    refine ⟨1, by omega, rfl, ?_⟩
    unfold Found
    rw [nextHex_short _ (by simp; omega)]
    rfl
  · rw [if_neg h]
    exact search_from l l.length s true must _ (by omega) hs
theorem wp_forIn_quiet {α β : Type} {MM : Model} {A : Around} {E : Value → Shared → Prop} {s : Shared} {b : β} {body : α → β → Sem (ForInStep β)} {Q : β → Shared → Prop} (h : ∀ a (Q : ForInStep β → Shared → Prop), Q (.yield b) s → wpAny MM A (body a b) Q E s) (hQ : Q b s) : ∀ l : List α, wpAny MM A (forIn l b body) Q E s
  | [] => by rw [List.forIn_nil]; exact wpAny_pure hQ
  | a :: l => by
    rw [List.forIn_cons]
    exact wpAny_bind (h a _ (wp_forIn_quiet h hQ l))
section
variable {prog : Program} {w : World} {A : Around} {E : Value → Shared → Prop} {s : Shared}
theorem wp_next {l : List Nat} {p : Nat} {must : Bool} {pat str : Value} {Q : Option M → Shared → Prop} (hp : p ≤ l.length) (hl : l.length ≤ lim)
    (h : ∀ m', Found l p m' → Q (if (nextHex (l.drop p)).isSome = true then some m' else none) s) :
    wpAny (model prog w) A (Builtin.Re.reNextFound ⟨pat, str, reCode, l.toArray, 0, 0, 0, l.length⟩ p must) Q E s := by
  unfold Builtin.Re.reNextFound Builtin.Re.reRunToEnd
  obtain ⟨k, hk, h1, h2⟩ := search_all l p must hp
  simp only [lim] at hl
  refine wpAny_bind (wp_reDrive (2 ^ 64) k _ h1 (by omega) (by omega) ?_)
  refine wpAny_bind (wp_forIn_quiet (fun i Q hQ => ?_) ?_ _)
  · split
    · exact wpAny_bind (wpAny_rule (wpAny_pure hQ))
    · exact wpAny_pure hQ
  · have hh := h _ h2
    unfold Found at h2
    cases hq : nextHex (l.drop p) with
    | none =>
      rw [hq] at h2 hh
      dsimp only at h2
      rw [h2]
      exact wpAny_pure hh
    | some j =>
      rw [hq] at h2 hh
      dsimp only at h2
      rw [h2.1]
      exact wpAny_pure hh
end
end Mine
end

section
namespace Mine
open Sre (M)
/-- the pattern object -/
abbrev patObj (n : Str) (t u : Tok) (cd : Addr) : Obj := { cls := .type "re.Pattern", data := .fields #[.str n t, .int 256 u, .int 0 0, .none, .none, .ref cd, .int 0 0] }
abbrev codeObj : Obj := { cls := .type "tuple", data := .seq #[.int 14 0, .int 8 0, .int 1 0, .int 3 0, .int 3 0, .int 1 0, .int 1 0, .int 61 0, .int 0 0, .int 16 0, .int 61 0, .int 24 0, .int 16 0, .int 2 0, .int 2 0, .int 13 0, .int 11 0, .int 9 0, .int 0 0, .int 67043328 0, .int 126 0, .int 126 0, .int 0 0, .int 0 0, .int 0 0, .int 0 0, .int 0 0, .int 1 0, .int 1 0] }
section
variable {prog : Program} {w : World} {A : Around} {E : Value → Shared → Prop} {s : Shared}
theorem wp_target {P cd : Addr} {n : Str} {t u tk : Tok} {l : List Nat} {Q : Builtin.Re.ReTarget → Shared → Prop} (hP : s.heap.get? P = some (patObj n t u cd)) (hc : s.heap.get? cd = some codeObj)
    (h : Q ⟨.ref P, .str (mkS l) tk, reCode, l.toArray, 0, 0, 0, l.length⟩ s) : wpAny (model prog w) A (Builtin.Re.reWholeTarget (.ref P) (.str (mkS l) tk)) Q E s := by
  obtain ⟨hp, g, dr, tks, os⟩ := s
  dsimp only at hP hc h ⊢
  repeat (any_goals (first
    | assumption
    | wp_step))
  have eC : Array.map (fun x => Int.toNat x) (Array.map Builtin.Re.reRawOf ((some #[Value.int 14 0, .int 8 0, .int 1 0, .int 3 0, .int 3 0, .int 1 0, .int 1 0, .int 61 0, .int 0 0, .int 16 0, .int 61 0, .int 24 0, .int 16 0, .int 2 0, .int 2 0, .int 13 0, .int 11 0, .int 9 0, .int 0 0, .int 67043328 0, .int 126 0, .int 126 0, .int 0 0, .int 0 0, .int 0 0, .int 0 0, .int 0 0, .int 1 0, .int 1 0]).getD #[])) = reCode := by
    apply Array.ext'; simp [Builtin.Re.reRawOf, reCode]
  have eL : (mkS l).cps.size = l.length := by simp
  rw [eC, eL]
  exact h
theorem wp_newMatch {P : Value} {l : List Nat} {tk : Tok} {m : M} {b e lm : Nat} {Q : Value → Shared → Prop} (h1 : m.start = b) (h2 : m.handed = e) (h3 : m.lastmark = -1) (h4 : m.lastindex = -1) (h5 : m.marks = #[])
    (h : Q (.ref (s.heap.objs.size + 1)) { s with heap := (s.heap.push (spanObj b e)).push (matObj (mkS l) tk P (.int 0 0) (.int lm 0) (.int (-1) 0) s.heap.objs.size) }) :
    wpAny (model prog w) A (Builtin.Re.reNewMatch P (.str (mkS l) tk) 0 0 lm m) Q E s := by
  obtain ⟨hp, g, dr, tks, os⟩ := s
  dsimp only at h ⊢
  unfold Builtin.Re.reNewMatch
  repeat (any_goals (first
    | assumption
    | wp_step))
  rw [h1, h2, h4]
  have es : ∀ o : Obj, (hp.push o).objs.size = hp.objs.size + 1 := fun o => size_push' ..
  rw [es]
  exact h
end
/-- header_decode's reading of =HH -/
def hdL : List Nat → List Nat
  | 61 :: a :: b :: r => if a ∈ hexL ∧ b ∈ hexL then (hv a * 16 + hv b) :: hdL r else 61 :: hdL (a :: b :: r)
  | c :: r => c :: hdL r
  | [] => []
theorem hdL_cons {c : Nat} {r : List Nat} (h : ¬ (c = 61 ∧ ∃ a b r', r = a :: b :: r' ∧ a ∈ hexL ∧ b ∈ hexL)) : hdL (c :: r) = c :: hdL r := by
  by_cases hc : c = 61
  · subst hc
    match r with
    | [] => rw [hdL]; intro a' b r' e1 e2; simp at e2
    | [a] => rw [hdL]; intro a' b r' e1 e2; simp at e2
    | a :: b :: r' => rw [hdL, if_neg fun q => h ⟨rfl, a, b, r', rfl, q⟩]
  · rw [hdL]; intro a b r' e1 e2; exact hc e1
theorem hdL_esc {a b : Nat} {r : List Nat} (ha : a ∈ hexL) (hb : b ∈ hexL) : hdL (61 :: a :: b :: r) = (hv a * 16 + hv b) :: hdL r := by rw [hdL, if_pos ⟨ha, hb⟩]
theorem hd_none : ∀ (n : Nat) (l : List Nat), l.length ≤ n → nextHex l = none → hdL l = l
  | _, [], _, _ => by rw [hdL]
  | 0, c :: r, h, _ => by simp at h
  | n + 1, c :: r, hl, h => by
    by_cases hq : c = 61 ∧ ∃ a b r', r = a :: b :: r' ∧ a ∈ hexL ∧ b ∈ hexL
    · obtain ⟨rfl, a, b, r', rfl, ha, hb⟩ := hq
      rw [nextHex, if_pos ⟨ha, hb⟩] at h; cases h
    · rw [nextHex_cons hq] at h
      rw [hdL_cons hq, hd_none n r (by simp at hl; omega) (by simpa using h)]
theorem hd_some : ∀ (n : Nat) (l : List Nat) (k : Nat), l.length ≤ n → nextHex l = some k → ∃ a b r, l.drop k = 61 :: a :: b :: r ∧ a ∈ hexL ∧ b ∈ hexL ∧ hdL l = l.take k ++ (hv a * 16 + hv b) :: hdL r
  | _, [], _, _, h => by rw [nextHex] at h; cases h
  | 0, c :: r, _, h, _ => by simp at h
  | n + 1, c :: r, k, hl, h => by
    by_cases hq : c = 61 ∧ ∃ a b r', r = a :: b :: r' ∧ a ∈ hexL ∧ b ∈ hexL
    · obtain ⟨rfl, a, b, r', rfl, ha, hb⟩ := hq
      rw [nextHex, if_pos ⟨ha, hb⟩] at h; cases h
      exact ⟨a, b, r', rfl, ha, hb, by rw [hdL_esc ha hb]; rfl⟩
    · rw [nextHex_cons hq] at h
      cases hr : nextHex r with
      | none => rw [hr] at h; cases h
      | some j =>
        rw [hr] at h; cases h
        obtain ⟨a, b, r', h1, h2, h3, h4⟩ := hd_some n r j (by simp at hl; omega) hr
        exact ⟨a, b, r', h1, h2, h3, by rw [hdL_cons hq, h4]; rfl⟩
theorem hdL_len : ∀ (n : Nat) (l : List Nat), l.length ≤ n → (hdL l).length ≤ l.length
  | _, [], _ => by rw [hdL]; simp
  | 0, c :: r, h => by simp at h
  | n + 1, c :: r, hl => by
    by_cases hq : c = 61 ∧ ∃ a b r', r = a :: b :: r' ∧ a ∈ hexL ∧ b ∈ hexL
    · obtain ⟨rfl, a, b, r', rfl, ha, hb⟩ := hq
      have := hdL_len n r' (by simp at hl; omega)
      rw [hdL_esc ha hb]; simp; omega
    · have := hdL_len n r (by simp at hl; omega)
      rw [hdL_cons hq]; simp; omega
@[reducible] def Cx.in1 (C : Cx) : Cx := { C with A := C.A.in1 }
section
variable {C : Cx} {Z : Addr → Prop} {s : Shared} {x : List Nat} {tk t u : Tok} {P cd q S : Addr} {n : Str} {R : Result → Shared → Prop}
theorem strsAre_append : ∀ {vs ws : List Value} {xs ys : List Str}, StrsAre vs xs → StrsAre ws ys → StrsAre (vs ++ ws) (xs ++ ys)
  | _, _, _, _, .nil, h => h
  | _, _, _, _, .cons _ _ a, h => .cons _ _ (strsAre_append a h)
theorem push_items {h : Heap} {items : List Value} {c : Nat} {v : Value} (hs : h.get? S = some (seqObj "list" items.toArray c)) : ∃ c', (h.update S (Obj.mapSeq fun x => x.push v)).get? S = some (seqObj "list" (items ++ [v]).toArray c') := by
  have := get?_update_seq hs fun x => x.push v
  rw [show items.toArray.push v = (items ++ [v]).toArray by simp] at this
  exact ⟨_, this⟩
theorem wp_slice {A : Around} {E : Value → Shared → Prop} {b e : Nat} {s' : Shared} {Q : Value → Shared → Prop} (hlim : x.length ≤ 1000000) (h : Q (.str (mkS ((x.drop b).take (e - b))) s'.toks) { s' with toks := s'.toks + 1 }) :
    wpAny C.M A (Builtin.Re.reSlice x.toArray 0 b e) Q E s' := by
  unfold Builtin.Re.reSlice
  refine wpAny_ite_true rfl ?_
  have e1 : Str.mk (x.toArray.extract b e) = mkS ((x.drop b).take (e - b)) := by
    apply congrArg Str.mk; apply Array.ext'; simp
  rw [e1]
  refine wpAny_mkStr' h ?_
  rw [mkS_length]
  have : ((x.drop b).take (e - b)).length ≤ x.length := by simp; omega
  exact lim_le (by simp only [lim]; omega)
/-- what stands behind a found place -/
theorem sub_tail (hlim : x.length ≤ 1000000) (U : Und C Z s) (hS : s.heap.get? S = none)
    (turn : ∀ (a sp : Addr) (b : Nat) (y z : Nat) (r : List Nat), x.drop b = 61 :: y :: z :: r → y ∈ hexL → z ∈ hexL → DoC C.in1 (.ref q) [.frag [(a, matObj (mkS x) tk (.ref P) (.int 0 0) (.int x.length 0) (.int (-1) 0) sp), (sp, spanObj b (b + 3))] (.ref a)] (fun d => d = .str [hv y * 16 + hv z]))
    {m : M} {b y z nn : Nat} {r : List Nat} (hm1 : m.start = b) (hm2 : m.handed = b + 3) (hm3 : m.lastmark = -1) (hm4 : m.lastindex = -1) (hm5 : m.marks = #[]) (hd : x.drop b = 61 :: y :: z :: r) (hy : y ∈ hexL) (hz : z ∈ hexL)
    {h : Heap} {k c : Nat} {items : List Value} {ps : List (List Nat)} (hk0 : 0 < k) (hk : KG Z s.heap h) (hs : h.get? S = some (seqObj "list" items.toArray c)) (hi : StrsAre items (ps.map mkS)) (hil : items.length ≤ 3000000)
    (ih : ∀ (h' : Heap) (k' : Nat) (items' : List Value) (c' : Nat), 0 < k' → KG Z s.heap h' → h'.get? S = some (seqObj "list" items'.toArray c') → StrsAre items' ((ps ++ [[hv y * 16 + hv z]]).map mkS) → items'.length = items.length + 1 →
      codeAny C.M C.A (.builtin "re.Pattern.sub.loop" ⟨[.ref P, .str (mkS x) tk, .ref q, .int 1 0, .int 0 0, .int (nn + 1) 0, .int (b + 3 : Nat) 0, .int (b + 3 : Nat) 0, .bool false, .ref S, .bool false], []⟩) R { s with heap := h', toks := k' }) :
    wpAny C.M C.A.in1 (do
      let found ← Builtin.Re.reNewMatch (Value.ref P) (Value.str (mkS x) tk) 0 0 x.length m
      let item ← holding [found] (if ((1 : Int) == 1) = true then call (Value.ref q) [found] else do
        let f ← Builtin.Re.reFound found
        Builtin.Re.reExpand (Value.ref q) f)
      if (item != Value.none) = true then do
        updateSeq S fun x => x.push item
        again (Code.builtin "re.Pattern.sub.loop" { pos := [Value.ref P, Value.str (mkS x) tk, Value.ref q, rawInt 1, rawInt 0, rawInt (nn + 1), rawInt m.handed, rawInt m.handed, Value.bool (m.handed == m.start), Value.ref S, Value.bool false] })
      else again (Code.builtin "re.Pattern.sub.loop" { pos := [Value.ref P, Value.str (mkS x) tk, Value.ref q, rawInt 1, rawInt 0, rawInt (nn + 1), rawInt m.handed, rawInt m.handed, Value.bool (m.handed == m.start), Value.ref S, Value.bool false] }))
      (fun fin s' => match fin with | .done f => R (.ok f) s' | .again c' => c'.quiet = true ∧ codeAny C.M C.A c' R s') (fun e s' => R (.error e) s') { s with heap := h, toks := k } := by
  refine wpAny_bind (wp_newMatch hm1 hm2 hm3 hm4 hm5 ?_)
  dsimp only
  refine wpAny_bind (wpAny_holding (wpAny_ite_true rfl ?_))
  -- the heap with the match in it
  obtain ⟨h1, hh1⟩ : ∃ h1, h1 = (h.push (spanObj b (b + 3))).push (matObj (mkS x) tk (.ref P) (.int 0 0) (.int x.length 0) (.int (-1) 0) h.objs.size) := ⟨_, rfl⟩
  have es : (h.push (spanObj b (b + 3))).objs.size = h.objs.size + 1 := size_push' ..
  have k1 : ∀ b' o, h.get? b' = some o → h1.get? b' = some o := fun b' o e => by rw [hh1]; exact Heap.get?_push_of_some _ (Heap.get?_push_of_some _ e)
  have ga : h1.get? (h.objs.size + 1) = some (matObj (mkS x) tk (.ref P) (.int 0 0) (.int x.length 0) (.int (-1) 0) h.objs.size) := by rw [hh1, ← es]; exact Heap.get?_push_size _ rfl
  have gs : h1.get? h.objs.size = some (spanObj b (b + 3)) := by rw [hh1]; exact Heap.get?_push_of_some _ (Heap.get?_push_size _ rfl)
  have liveh : Live Z h := fun a ha => let ⟨_, ho⟩ := U.live a ha; hk.live ho
  have nz1 : ¬ Z h.objs.size := liveh.new
  have nz2 : ¬ Z (h.objs.size + 1) := fun q => by obtain ⟨o, ho⟩ := liveh _ q; have := Heap.lt_size ho; exact Nat.lt_irrefl _ (Nat.lt_of_succ_lt this)
  rw [← hh1]
  have U1 : Und C.in1 Z { s with heap := h1, toks := k } := ⟨liveh.keeps k1, fun b' o e => k1 b' o (hk.out (fun q => by rw [U.new b' q] at e; cases e) (U.base b' o e)), U.new, hk0, U.fr.of fun b o hz e hd => ⟨hz, let ⟨_, e'⟩ := (hk b o e).2; ⟨_, k1 _ _ e', hd⟩⟩⟩
  refine wpAny_mono ((turn (h.objs.size + 1) h.objs.size b y z r hd hy hz).run { s with heap := h1, toks := k } [.ref (h.objs.size + 1)] U1 (.one (.frag fun p hp => ?_))) (fun v s2 g => ?_) (fun _ _ e => e.elim)
  · rcases List.mem_cons.mp hp with rfl | hp
    · exact ⟨nz2, ga⟩
    · rw [List.mem_singleton.mp hp]; exact ⟨nz1, gs⟩
  obtain ⟨k2, d, i2, rfl⟩ := g
  obtain ⟨h2, t2, rfl, g2, l2⟩ := k2
  cases i2 with
  | str =>
    rename_i tkv
    refine wpAny_ite_true rfl ?_
    have hS2 : h2.get? S = some (seqObj "list" items.toArray c) := g2.nd (by rintro ⟨es, ep, e⟩; cases e) (k1 _ _ hs)
    refine wpAny_bind (wpAny_updateSeq hS2 rfl ?_ (by rw [List.size_toArray]; exact lim_le (by simp only [lim]; omega)) (by simp only [Array.size_push, List.size_toArray]; have := lim_le (n := items.length) (by simp only [lim]; omega); omega))
    obtain ⟨c3, hS3⟩ := push_items (v := Value.str (mkS [hv y * 16 + hv z]) tkv) hS2
    have sb := Heap.SameBut.update h2 S (Obj.mapSeq fun x => x.push (Value.str (mkS [hv y * 16 + hv z]) tkv))
    refine wpAny_pure ⟨plainId_quiet plain_sub_loop _, ?_⟩
    have e1 : (m.handed == m.start) = false := by rw [hm1, hm2]; simp
    rw [e1, hm2]
    refine ih _ _ (items ++ [Value.str (mkS [hv y * 16 + hv z]) tkv]) c3 (Nat.lt_of_lt_of_le hk0 l2) (((hk.trans (.of k1)).trans g2).after fun b' o o' e e' => (sb.2 b' (by rintro rfl; rw [hS] at e; cases e)).trans e') hS3 ?_ (by simp)
    · rw [List.map_append]; exact strsAre_append hi (.cons _ _ .nil)
theorem sub_loop (hlim : x.length ≤ 1000000) (U : Und C Z s) (hP : C.h₀.get? P = some (patObj n t u cd)) (hc : C.h₀.get? cd = some codeObj) (hS : s.heap.get? S = none)
    (turn : ∀ (a sp : Addr) (b : Nat) (y z : Nat) (r : List Nat), x.drop b = 61 :: y :: z :: r → y ∈ hexL → z ∈ hexL → DoC C.in1 (.ref q) [.frag [(a, matObj (mkS x) tk (.ref P) (.int 0 0) (.int x.length 0) (.int (-1) 0) sp), (sp, spanObj b (b + 3))] (.ref a)] (fun d => d = .str [hv y * 16 + hv z]))
    (hR : ∀ tk' h' k, KG Z s.heap h' → R (.ok (.ret (.str (mkS (hdL x)) tk'))) { s with heap := h', toks := k }) :
    ∀ (r p nn : Nat) (h : Heap) (k : Nat) (ps : List (List Nat)) (items : List Value) (c : Nat), x.length - p = r → p ≤ x.length → 0 < k → KG Z s.heap h → h.get? S = some (seqObj "list" items.toArray c) →
      StrsAre items (ps.map mkS) → ps.flatten ++ hdL (x.drop p) = hdL x → items.length ≤ 2 * p →
      codeAny C.M C.A (.builtin "re.Pattern.sub.loop" ⟨[.ref P, .str (mkS x) tk, .ref q, .int 1 0, .int 0 0, .int nn 0, .int p 0, .int p 0, .bool false, .ref S, .bool false], []⟩) R { s with heap := h, toks := k } := by
  intro r
  induction r using Nat.strongRecOn with
  | _ r ih =>
    intro p nn h k ps items c hr hp hk0 hk hs hi hps hil
    refine codeAny_builtin entry_sub_loop ?_
    rw [Around.under_plainId plain_sub_loop _]
    unfold Builtin.«re.Pattern.sub.loop»
    dsimp only
    have hP' := hk.nd (by rintro ⟨es, ep, e⟩; cases e) (U.base _ _ hP)
    have hc' := hk.nd (by rintro ⟨es, ep, e⟩; cases e) (U.base _ _ hc)
    refine wpAny_bind (wp_target hP' hc' ?_)
    refine wpAny_ite_false rfl ?_
    refine wpAny_bind ?_
    refine wpAny_ite_false rfl ?_
    rw [Int.toNat_natCast]
    refine wp_next hp (by simp only [lim]; omega) fun m' hF => ?_
    cases hq : nextHex (x.drop p) with
    | some j =>
      unfold Found at hF
      rw [hq] at hF
      obtain ⟨f1, f2, f3, f4, f5, f6⟩ := hF
      obtain ⟨y, z, r', d1, d2, d3, d4⟩ := hd_some _ _ j (Nat.le_refl _) hq
      rw [List.drop_drop] at d1
      have hlen := congrArg List.length d1
      simp only [List.length_drop, List.length_cons] at hlen
      have hr' : r' = x.drop (p + j + 3) := by
        have : x.drop (p + j + 3) = (x.drop (p + j)).drop 3 := by rw [List.drop_drop]
        rw [this, d1]; rfl
      simp only [Option.isSome_some, if_true]
      by_cases hj : p < m'.start
      · rw [if_pos hj]
        refine wpAny_bind (wp_slice hlim ?_)
        refine wpAny_bind (wpAny_updateSeq hs rfl ?_ (by rw [List.size_toArray]; exact lim_le (by simp only [lim]; omega)) (by simp only [Array.size_push, List.size_toArray]; have := lim_le (n := items.length) (by simp only [lim]; omega); omega))
        refine wpAny_ite_false rfl ?_
        obtain ⟨c3, hS3⟩ := push_items (v := Value.str (mkS ((x.drop p).take (m'.start - p))) k) hs
        have sb := Heap.SameBut.update h S (Obj.mapSeq fun x_1 => x_1.push (Value.str (mkS ((x.drop p).take (m'.start - p))) k))
        refine sub_tail (ps := ps ++ [(x.drop p).take (m'.start - p)]) hlim U hS turn f2 f3 f4 f5 f6 d1 d2 d3 (Nat.succ_pos _) (hk.after fun b' o o' e e' => (sb.2 b' (by rintro rfl; rw [hS] at e; cases e)).trans e') hS3 (by rw [List.map_append]; exact strsAre_append hi (.cons _ _ .nil)) (by simp; omega) fun h' k' items' c' g0 g1 g2 g3 g4 => ?_
        refine ih _ (by omega) (p + j + 3) (nn + 1) h' k' _ items' c' rfl (by omega) g0 g1 g2 g3 ?_ (by simp at g4; omega)
        rw [← hr', ← hps, d4]
        simp [show m'.start - p = j by omega]
      · have hj0 : j = 0 := by omega
        subst hj0
        rw [if_neg hj]
        refine wpAny_ite_false rfl ?_
        refine sub_tail hlim U hS turn f2 f3 f4 f5 f6 d1 d2 d3 hk0 hk hs hi (by omega) fun h' k' items' c' g0 g1 g2 g3 g4 => ?_
        refine ih _ (by omega) (p + 0 + 3) (nn + 1) h' k' _ items' c' rfl (by omega) g0 g1 g2 g3 ?_ (by omega)
        rw [← hr', ← hps, d4]
        simp
    | none =>
      have hd0 := hd_none _ _ (Nat.le_refl _) hq
      simp only [Option.isSome_none, Bool.false_eq_true, if_false]
      have fin : ∀ (h' : Heap) (k' : Nat) (items' : List Value) (ps' : List (List Nat)) (c' : Nat), KG Z s.heap h' → h'.get? S = some (seqObj "list" items'.toArray c') → StrsAre items' (ps'.map mkS) → ps'.flatten = hdL x → items'.length ≤ 2000001 →
          wpAny C.M C.A.in1 (do
            let joiner ← Builtin.Re.reSlice x.toArray 0 0 0
            let l ← seqItems? (Value.ref S)
            if (l.getD #[]).isEmpty = true then do
              let j ← pure joiner
              ret j
            else do
              let j ← call (Value.builtin (if ((0 : Nat) == 0) = true then "str.join" else "bytes.join")) [joiner, Value.ref S]
              ret j) (fun fin s' => match fin with | .done f => R (.ok f) s' | .again c' => c'.quiet = true ∧ codeAny C.M C.A c' R s') (fun e s' => R (.error e) s') { s with heap := h', toks := k' } := by
        intro h' k' items' ps' c' g1 g2 g3 g4 g5
        refine wpAny_bind (wp_slice hlim ?_)
        refine wpAny_bind (wpAny_seqItems g2 rfl ?_)
        have hlen : (hdL x).length ≤ 1000000 := Nat.le_trans (hdL_len _ x (Nat.le_refl _)) hlim
        cases items' with
        | nil =>
          refine wpAny_ite_true rfl ?_
          refine wpAny_bind (wpAny_pure (wpAny_pure ?_))
          cases ps' with
          | nil =>
            have : hdL x = [] := by rw [← g4]; rfl
            have := hR k' h' (k' + 1) g1
            rw [‹hdL x = []›] at this
            exact this
          | cons p ps' => cases g3
        | cons v vs =>
          refine wpAny_ite_false rfl ?_
          refine wpAny_bind (join_list (x := mkS []) (ys := ps'.map mkS) ⟨_, g2, rfl, c', rfl⟩ (by simpa using g3) ?_ fun t' k2 => ?_)
          · have : ((ps'.map mkS).map (·.length)).sum = (ps'.map List.length).sum := by
              rw [List.map_map]; congr 1
            rw [this, ← List.length_flatten, g4]
            show _ + _ * 0 ≤ _
            omega
          · refine wpAny_pure ?_
            rw [join_eq, joinL_nil, g4]
            exact hR _ _ _ g1
      by_cases hpl : p < x.length
      · rw [if_pos hpl]
        refine wpAny_bind (wp_slice hlim ?_)
        refine wpAny_bind (wpAny_updateSeq hs rfl ?_ (by rw [List.size_toArray]; exact lim_le (by simp only [lim]; omega)) (by simp only [Array.size_push, List.size_toArray]; have := lim_le (n := items.length) (by simp only [lim]; omega); omega))
        obtain ⟨c3, hS3⟩ := push_items (v := Value.str (mkS ((x.drop p).take (x.length - p))) k) hs
        have sb := Heap.SameBut.update h S (Obj.mapSeq fun x_1 => x_1.push (Value.str (mkS ((x.drop p).take (x.length - p))) k))
        refine fin _ _ _ (ps ++ [(x.drop p).take (x.length - p)]) c3 (hk.after fun b' o o' e e' => (sb.2 b' (by rintro rfl; rw [hS] at e; cases e)).trans e') hS3 (by rw [List.map_append]; exact strsAre_append hi (.cons _ _ .nil)) ?_ (by simp; omega)
        rw [← hps, hd0, List.take_of_length_le (by simp)]
        simp
      · rw [if_neg hpl]
        refine fin _ _ _ ps c hk hs hi ?_ (by omega)
        rw [← hps, List.drop_of_length_le (by omega)]
        simp [hdL]
/-- Pattern.sub with =HH and a def -/
theorem doc_sub {K : D → Prop} (hlim : x.length ≤ 1000000) (hP : C.h₀.get? P = some (patObj n t u cd)) (hc : C.h₀.get? cd = some codeObj) (hq : ∃ o, C.h₀.get? q = some o ∧ o.cls = .type "function")
    (turn : ∀ (tk : Tok) (a sp : Addr) (b : Nat) (y z : Nat) (r : List Nat), x.drop b = 61 :: y :: z :: r → y ∈ hexL → z ∈ hexL → DoC C.in1 (.ref q) [.frag [(a, matObj (mkS x) tk (.ref P) (.int 0 0) (.int x.length 0) (.int (-1) 0) sp), (sp, spanObj b (b + 3))] (.ref a)] (fun d => d = .str [hv y * 16 + hv z]))
    (h : K (.str (hdL x))) : DoC C (.builtin "re.Pattern.sub") [.val (.ref P), .val (.ref q), .str x] K := .mk fun {Z} s vs U i => by
  cases i with
  | cons i j => cases j with
    | cons j k => cases k with
      | cons k m =>
        cases m; cases i; cases j; cases k
        rename_i tk
        refine wpAny_free ?_
        refine wpAny_call (codeAny_call_builtin slot_sub.plain entry_sub (slot_sub.check _ _ _ _ _ _ _ _ ⟨_, U.base _ _ hP, rfl⟩ (args_sub_3 _ _ _) ?_))
        unfold Builtin.«re.Pattern.sub» Builtin.Re.reSubstitute
        dsimp only
        refine wpAny_bind (wpAny_of_eq (show Builtin.Re.reNamed "re.Pattern.sub" "sub" ["repl", "string", "count"] 2 [Value.ref q, Value.str (mkS x) tk] [] = pure [some (.ref q), some (.str (mkS x) tk), none] from rfl) ?_)
        dsimp only
        obtain ⟨of, hf, hcl⟩ := hq
        have hT : s.TypeIs (.ref q) "function" := ⟨of, U.base _ _ hf, hcl⟩
        refine wpAny_bind (wpAny_pure ?_)
        refine wpAny_bind (wpAny_specialOf hT call_function ?_)
        refine wpAny_ite_true rfl ?_
        refine wpAny_bind (wpAny_pure ?_)
        refine wpAny_ite_true rfl ?_
        refine wpAny_bind (wpAny_pure ?_)
        refine wpAny_bind (wpAny_holding (wp_target (U.base _ _ hP) (U.base _ _ hc) ?_))
        refine wpAny_ite_true rfl ?_
        refine wpAny_bind ?_
        unfold Builtin.Re.reNotHeld
        refine wpAny_bind (wpAny_isInstance (typeIs_str _ _ _) sub_str_ba ?_)
        refine wpAny_ite_false rfl (wpAny_pure ?_)
        refine wpAny_bind (wpAny_newList ?_ (Nat.zero_le _))
        refine wpAny_pure ⟨plainId_quiet plain_sub_loop _, ?_⟩
        refine sub_loop (s := s) (Z := Z) (S := s.heap.objs.size) hlim U hP hc (size_none _) (turn tk) (fun tk' h' k hk htk => ⟨⟨h', k, rfl, hk, htk⟩, _, .str, h⟩) _ 0 0 _ _ [] [] 0 rfl (Nat.zero_le _) U.tok (.of fun b o e => Heap.get?_push_of_some _ e) (Heap.get?_push_size _ rfl) .nil rfl (Nat.zero_le _)
end
end Mine
end

section
namespace Mine
section
variable {C : Cx} {ρ : Loc} {ω : Own} {l : Nat} {K : D → Prop} {x : List Nat}
theorem tyd_mat {a sp : Addr} {tk : Tok} {p q1 q2 q3 : Value} {b e : Nat} : TyD C "re.Match" (.frag [(a, matObj (mkS x) tk p q1 q2 q3 sp), (sp, spanObj b e)] (.ref a)) := fun Z s v U i => by
  cases i with
  | frag hf =>
    have ha := (hf _ (.head _)).2
    exact ⟨⟨_, ha, rfl⟩, fun a' e => by cases e; exact ⟨_, ha, rfl⟩⟩
theorem tyd_pat {P cd : Addr} {n : Str} {t u : Tok} (hP : C.h₀.get? P = some (patObj n t u cd)) : TyD C "re.Pattern" (.val (.ref P)) := fun Z s v U i => by
  cases i
  have ha := U.base _ _ hP
  exact ⟨⟨_, ha, rfl⟩, fun a' e => by cases e; exact ⟨_, ha, rfl⟩⟩
theorem doc_group {a sp : Addr} {tk : Tok} {p q1 q2 q3 : Value} {b e : Nat} (hl : x.length ≤ lim) (h : K (.str ((x.drop b).take (e - b)))) : DoC C (.builtin "re.Match.group") [.frag [(a, matObj (mkS x) tk p q1 q2 q3 sp), (sp, spanObj b e)] (.ref a), .int 0] K := .mk fun {Z} s vs U i => by
  cases i with
  | cons i j => cases j with
    | cons j k =>
      cases k; cases j
      cases i with
      | frag hf =>
        have e1 : Str.mk ((mkS x).cps.extract b e) = mkS ((x.drop b).take (e - b)) := by
          apply congrArg Str.mk; apply Array.ext'; simp
        refine wp_group (hf _ (.head _)).2 (hf _ (.tail _ (.head _))).2 ?_ ?_
        · rw [e1, mkS_length]
          have : ((x.drop b).take (e - b)).length ≤ x.length := by simp; omega
          exact lim_le (by omega)
        · rw [e1]; exact ⟨Kp.tok _ _, _, .str, h⟩
end
/-- header_decode -/
def hdF (x : List Nat) : List Nat := hdL (repL 95 [32] x)
theorem rep_len1 (c d : Nat) : ∀ x, (repL c [d] x).length = x.length
  | [] => rfl
  | e :: r => by rw [repL_one, List.length_append, rep_len1 c d r]; split <;> simp <;> omega
end Mine
end

section
namespace Mine
local macro_rules | `(tactic| walk_at "m_ne") => `(tactic| first | with_reducible assumption | decide +kernel)
local macro_rules | `(tactic| walk_at "m_get") => `(tactic| first | with_reducible exact get_put_same | with_reducible exact get_cons_same | with_reducible assumption | ((with_reducible refine get_put_eq ?_); rfl) | ((with_reducible refine get_cons_eq ?_); rfl) | ((with_reducible refine get_put_ne ?_ ?_); (walk_at "m_ne"); walk_at "m_get") | ((with_reducible refine get_cons_ne ?_ ?_); (walk_at "m_ne"); walk_at "m_get") | ((with_reducible refine cap_get1 ?_); walk_at "m_get") | ((with_reducible refine cap_get3 ?_); walk_at "m_get") | ((with_reducible refine cap_get2 ?_); walk_at "m_get"))
local macro_rules | `(tactic| walk_at "m_kind") => `(tactic| with_reducible assumption)
local macro_rules | `(tactic| walk_at "m_dbg") => `(tactic| decide +kernel)
local macro_rules | `(tactic| walk_at "m_stor") => `(tactic| first | exact Or.inl (by with_reducible assumption) | exact Or.inr ⟨by with_reducible assumption, cells_of (by with_reducible assumption) rfl⟩)
local macro_rules | `(tactic| walk_at "m_name") => `(tactic| first
  | (apply pe_loc; (with_reducible assumption); walk_at "m_get"; walk_at "m_kind"; rotate_left; walk_at "m_dbg")
  | (apply pe_cell; (with_reducible assumption); walk_at "m_get"; walk_at "m_kind"; rotate_left; walk_at "m_dbg")
  | (apply pe_blt; (with_reducible assumption); exact And.left (by with_reducible assumption); exact And.right (by with_reducible assumption); walk_at "m_kind"; rotate_left; walk_at "m_dbg")
  | (apply pe_glob; (with_reducible assumption); (with_reducible assumption); (first | exact is_lit (by with_reducible assumption) | (with_reducible assumption) | (with_reducible exact Is.val)); walk_at "m_kind"; rotate_left; walk_at "m_dbg"))
local macro_rules | `(tactic| walk_at "m_meth") => `(tactic| first
  | (apply pe_replace1; (with_reducible assumption); (with_reducible assumption); rotate_left; decide +kernel; rfl; rfl; rfl)
  | (refine pe_meth F.slot_str_split F.type_str_split ?_ ?_ ?_ ?_ ?_ ?_; rotate_left; rfl; rfl; rfl; rfl; rfl)
  | (refine pe_meth F.slot_str_translate F.type_str_translate ?_ ?_ ?_ ?_ ?_ ?_; rotate_left; rfl; rfl; rfl; rfl; rfl)
  | (refine pe_meth F.slot_str_rstrip F.type_str_rstrip ?_ ?_ ?_ ?_ ?_ ?_; rotate_left; rfl; rfl; rfl; rfl; rfl)
  | (refine pe_meth0 F.slot_str_rstrip F.type_str_rstrip ?_ ?_ ?_; rotate_left; rfl; rfl)
  | (refine pe_meth0 F.slot_str_lower F.type_str_lower ?_ ?_ ?_; rotate_left; rfl; rfl)
  | (refine pe_meth0 F.slot_str_splitlines F.type_str_splitlines ?_ ?_ ?_; rotate_left; rfl; rfl)
  | (refine pe_meth F.slot_str_endswith F.type_str_endswith ?_ ?_ ?_ ?_ ?_ ?_; rotate_left; rfl; rfl; rfl; rfl; rfl)
  | (refine pe_meth F.slot_str_index F.type_str_index ?_ ?_ ?_ ?_ ?_ ?_; rotate_left; rfl; rfl; rfl; rfl; rfl)
  | (refine pe_meth F.slot_str_find F.type_str_find ?_ ?_ ?_ ?_ ?_ ?_; rotate_left; rfl; rfl; rfl; rfl; rfl)
  | (refine pe_meth F.slot_str_join F.type_str_join ?_ ?_ ?_ ?_ ?_ ?_; rotate_left; rfl; rfl; rfl; rfl; rfl))
local macro_rules | `(tactic| walk_at "m_pe") => `(tactic| first
  | (guard_target =~ Pe _ _ _ (Expr.Name _ _) _; walk_at "m_name")
  | refine pe_int ?_
  | ((apply pe_strL); (with_reducible assumption))
  | refine pe_str ?_
  | refine pe_bool ?_
  | refine pe_bin ?_
  | refine pe_un ?_
  | (refine pe_rev ?_ ?_; rotate_left; (intros; rfl))
  | refine pe_slice ?_
  | (refine pe_cmp ?_ ?_; rotate_left; rfl)
  | (refine pe_sub ?_ ?_; rotate_left; (intros; rfl))
  | (refine pe_call ?_ ?_ ?_; rotate_left; rfl; rfl)
  | refine pe_ifexp ?_
  | refine pe_joined ?_
  | refine pe_fs ?_
  | refine pe_tup ?_
  | walk_at "m_meth")
local macro_rules | `(tactic| walk_at "m_asg") => `(tactic| (apply ex_assign; (with_reducible assumption); walk_at "m_stor"; rotate_left; rfl))
local macro_rules | `(tactic| walk_at "m_new") => `(tactic| (apply ex_new; (with_reducible assumption); walk_at "m_stor"; rotate_left; rfl))
local macro_rules | `(tactic| walk_at "m_ex") => `(tactic| first
  | refine ex_ret ?_
  | refine ex_if ?_
  | refine ex_cont ?_
  | refine ex_brk ?_
  | (refine ex_append ?_ ?_ ?_ ?_ ?_ ?_ ?_ ?_; rotate_left; rfl; rfl; rfl; rfl; rfl; exact inter (by assumption); rfl)
  | (refine ex_pop ?_ ?_ ?_ ?_ ?_; rotate_left; rfl; rfl; exact inter (by assumption); rfl)
  | ((fail_if_success (guard_target =~ Ex _ _ _ (Stmt.Assign _ (Expr.List _ _) _) _)); (fail_if_success (guard_target =~ Ex _ _ _ (Stmt.Assign _ (Expr.ListComp _ _ _ _) _) _)); walk_at "m_asg")
  | (apply ex_aug; (with_reducible assumption); walk_at "m_stor"; walk_at "m_get"))
local macro_rules | `(tactic| walk_at "m_do") => `(tactic| first
  | refine do_add_int ?_ | refine do_sub_int ?_ | refine do_iadd_int ?_ | refine do_isub_int ?_
  | refine do_eq_int ?_ | refine do_ne_int ?_ | refine do_lt_int ?_ | refine do_le_int ?_ | refine do_gt_int ?_ | refine do_ge_int ?_
  | refine do_eq_str ?_ | refine do_ne_str ?_ | refine do_in_str ?_ | refine do_notin_str ?_
  | refine do_mod_int (by decide) (by decide) ?_ | refine do_fdiv_int (by decide) (by decide) ?_)
local macro_rules | `(tactic| walk_at "m") => `(tactic| first
  | (guard_target =~ Pe _ _ _ _ _; walk_at "m_pe")
  | (guard_target =~ Exs _ _ _ _ _; (fail_if_success (guard_target =~ Exs _ _ _ (Stmt.If (Expr.BoolOp _ _ _) _ _ _ :: _) _)); first | refine exs_cons ?_ | refine exs_nil ?_)
  | (guard_target =~ Ex _ _ _ _ _; walk_at "m_ex")
  | (guard_target =~ Do2 _ _ _ _ _; walk_at "m_do")
  | (guard_target =~ Do1 _ _ _ _; first | refine do_neg_int ?_ | refine do_not ?_)
  | (guard_target =~ Pl _ _ _ _ _; first | refine pl_nil ?_ | (refine pl_cons ?_ ?_; rotate_left; rfl))
  | (guard_target =~ Pj _ _ _ _ _ _; first | refine pj_nil ?_ | refine pj_cons ?_)
  | (guard_target =~ Po _ _ _ _ _; first | refine po_none ?_ | refine po_some ?_)
  | (guard_target =~ Pt _ _ _ _ _; first | (refine pt_cmp ?_ ?_; rotate_left; rfl) | (refine pt_cmp2 ?_ ?_; rotate_left; rfl) | refine pt_not ?_ | refine pt_bool ?_ | (refine pt_val ?_ ?_; rotate_left; (intro _; rfl)))
  | (guard_target =~ Pi _ _ _ _ _ _; first | refine pi_nil ?_ | refine pi_one ?_)
  | (guard_target =~ Pb _ _ _ _ _ _; first | refine pb_and ?_ | refine pb_and_nil ?_ | refine pb_or ?_ | refine pb_or_nil ?_)
  | (guard_target =~ Tr1 _ _ _; first | refine tr_bool ?_ | refine tr_int ?_)
  | (guard_target =~ ite _ _ _; first | with_reducible refine ite_t ?_ | with_reducible refine ite_f ?_ | with_reducible refine ite_nt ?_ | with_reducible refine ite_nf ?_)
  | (guard_target =~ Exists _; first | refine ⟨_, rfl, .blt, ?_⟩ | refine ⟨_, rfl, .typ, ?_⟩ | refine ⟨_, rfl, ?_⟩))

theorem umatch07 {C : Cx} (B : B07 C) (room : Room C.A 2) {x : List Nat} {tk : Tok} {a sp : Addr} {p q1 q2 q3 : Value} {b y z : Nat} {r : List Nat} (hl : x.length ≤ lim) (hd : x.drop b = 61 :: y :: z :: r) (hy : y ∈ hexL) (hz : z ∈ hexL) :
    DoC C (.ref 86) [.frag [(a, matObj (mkS x) tk p q1 q2 q3 sp), (sp, spanObj b (b + 3))] (.ref a)] (fun d => d = .str [hv y * 16 + hv z]) := by
  refine enter' (l := 1) B.G room [(Str.ofString "match", .frag [(a, matObj (mkS x) tk p q1 q2 q3 sp), (sp, spanObj b (b + 3))] (.ref a))] ⟨⟨_, B.X 86 _ rfl, rfl⟩, codeRec_of B.X rfl, rfl, rfl, rfl, rfl, rfl, rfl, rfl⟩ ?_ ?_ ?_
  · intro Z s vs U ia
    cases ia with | cons i0 r0 => cases r0; exact ⟨[(Str.ofString "match", _)], BindsTo.of_eq rfl, rfl, .cons i0 .nil, by simp only [List.map_cons, List.map_nil]; decide +kernel⟩
  · intro n x hx
    simp only [List.map_cons, List.map_nil, List.mem_cons, List.not_mem_nil, or_false] at hx
    subst hx; exact Or.inl rfl
  intro C' ok kin hN hcl
  dsimp only at hN
  have B := B.kin kin
  replace hcl := hcl _ rfl
  replace hcl : C'.env.cells = [] := hcl
  have mg_unquote := B.g_unquote
  have k_match : C'.env.kindOf (Str.ofString "match") = some .local := kind_of hN rfl
  have k_s : C'.env.kindOf (Str.ofString "s") = some .local := kind_of hN rfl
  have k_unquote : C'.env.kindOf (Str.ofString "unquote") = some .globalImplicit := kind_of hN rfl
  clear kin hN
  repeat (walk_at "m")
  refine pe_methT plainAttrs_mat slot_group type_group ?_ rfl rfl rfl rfl rfl
  repeat (walk_at "m")
  refine ⟨tyd_mat, ?_⟩
  repeat (walk_at "m")
  refine doc_group hl ?_
  rw [hd, show b + 3 - b = 3 by omega]
  dsimp only [List.take_succ_cons, List.take_zero]
  repeat (walk_at "m")
  refine ⟨.fn ⟨_, _, _, _, B.X 59 _ rfl⟩, ?_⟩
  repeat (walk_at "m")
  refine unquote07 B ok.room hy hz ?_
  rfl
theorem hdec07 {C : Cx} {K : D → Prop} (B : B07 C) (room : Room C.A 4) {x : List Nat} (hl : x.length ≤ 500000) (h : K (.str (hdF x))) : DoC C (.ref 93) [.str x] K := by
  refine enter' (l := 3) B.G room [(Str.ofString "s", .str x)] ⟨⟨_, B.X 93 _ rfl, rfl⟩, codeRec_of B.X rfl, rfl, rfl, rfl, rfl, rfl, rfl, rfl⟩ ?_ ?_ ?_
  · intro Z s vs U ia
    cases ia with | cons i0 r0 => cases r0; exact ⟨[(Str.ofString "s", _)], BindsTo.of_eq rfl, rfl, .cons i0 .nil, by simp only [List.map_cons, List.map_nil]; decide +kernel⟩
  · intro n x hx
    simp only [List.map_cons, List.map_nil, List.mem_cons, List.not_mem_nil, or_false] at hx
    subst hx; exact Or.inl rfl
  intro C' ok kin hN hcl
  dsimp only at hN
  have B := B.kin kin
  replace hcl := hcl _ rfl
  replace hcl : C'.env.cells = [] := hcl
  have mg__twin_re_1 := B.g__twin_re_1
  have mg__unquote_match := B.g__unquote_match
  have k_s : C'.env.kindOf (Str.ofString "s") = some .local := kind_of hN rfl
  have k__twin_re_1 : C'.env.kindOf (Str.ofString "_twin_re_1") = some .globalImplicit := kind_of hN rfl
  have k__unquote_match : C'.env.kindOf (Str.ofString "_unquote_match") = some .globalImplicit := kind_of hN rfl
  clear kin hN
  have lit_0 : (Str.ofString "_").cps.toList = [95] := by decide +kernel
  have lit_1 : (Str.ofString " ").cps.toList = [32] := by decide +kernel
  have hlr : (repL 95 [32] x).length ≤ 1000000 := by rw [rep_len1]; omega
  repeat (walk_at "m")
  refine ⟨by simp only [lim, List.length_cons, List.length_nil]; omega, ?_⟩
  dsimp only
  repeat (walk_at "m")
  refine pe_methT plainAttrs_pat slot_sub type_sub ?_ rfl rfl rfl rfl rfl
  repeat (walk_at "m")
  refine ⟨tyd_pat (B.X 36 _ rfl), ?_⟩
  repeat (walk_at "m")
  refine doc_sub hlr (B.X 36 _ rfl) (B.X 35 _ rfl) ⟨_, B.X 86 _ rfl, rfl⟩ ?_ h
  intro tk a sp b y z r hd hy hz
  exact umatch07 (C := C'.in1) (B.kin ⟨rfl, rfl, rfl, rfl, rfl⟩) ⟨ok.room.hd, by have := ok.room.depth; show C'.A.depth + 2 < 900; omega, by have := ok.room.units; show C'.A.units + 1 + 10 * 2 < 9000; omega⟩ (by simp only [lim]; omega) hd hy hz

end Mine
end

section
namespace Mine
/-- a piece: one sign or an escape -/
def Pc (p : List Nat) : Prop := (∃ c, p = [c] ∧ c ≠ 61) ∨ ∃ a b, p = [61, a, b] ∧ a ≠ 61 ∧ b ≠ 61 ∧ b ≠ 32 ∧ b ≠ 9
/-- the last two signs are no = -/
def Gd (acc : List Nat) : Prop := ∀ i, acc.length ≤ i + 2 → acc[i]? ≠ some 61
def rowsGo (m : Nat) : List Nat → List (List Nat) → List (List Nat)
  | acc, [] => [acc]
  | acc, p :: ps => if acc.length + p.length ≤ m then rowsGo m (acc ++ p) ps else acc :: rowsGo m p ps
/-- the rows' ends; wl: the white sign that ends the line -/
def endR (M : Nat) (wl : Option Nat) (x : List Nat) : List (List Nat) := match wl with
  | some c => if M < x.length + 2 then [x ++ [61], []] else [x.dropLast ++ qm c]
  | none => [x]
def pairR (M : Nat) (wl : Option Nat) (y x : List Nat) : List (List Nat) := match wl with
  | some c => (y ++ [61]) :: endR M (some c) x
  | none => if y.length + x.length = M then [y ++ x] else [y ++ [61], x]
theorem last_app {a b : List Nat} (h : b ≠ []) : (a ++ b).getLast? = b.getLast? := by
  rw [List.getLast?_append]
  cases hb : b.getLast? with
  | none => exact (h (List.getLast?_eq_none_iff.mp hb)).elim
  | some c => rfl
def fixR (M : Nat) (wl : Option Nat) : List (List Nat) → List (List Nat)
  | [] => [[]]
  | [x] => endR M wl x
  | [y, x] => pairR M wl y x
  | y :: z :: w :: rest => (y ++ [61]) :: fixR M wl (z :: w :: rest)
def lastX (M : Nat) (eol : List Nat) (wl : Option Nat) (r : List Nat) : List Nat := match wl with
  | some c => if r.length + 2 ≤ M then r.dropLast ++ qm c else if r.length + 1 = M then r.dropLast ++ ([c] ++ (61 :: eol)) else r.dropLast ++ ((61 :: eol) ++ qm c)
  | none => r
def encX (M : Nat) (eol : List Nat) (wl : Option Nat) (r : List Nat) : List (List Nat) := (encW M r).1 ++ [lastX M eol wl (encW M r).2]
/-- the sizes as _max_append makes them -/
def maStep (m : Nat) (L : List Nat) (n : Nat) : List Nat := if L = [] then [n] else if L.getLastD 0 + n ≤ m then L.dropLast ++ [L.getLastD 0 + n] else L ++ [n]
def szGo (m : Nat) : Nat → List Nat → List Nat
  | k, [] => [k]
  | k, n :: ns => if k + n ≤ m then szGo m (k + n) ns else k :: szGo m n ns
def cutBy : List Nat → List Nat → List (List Nat)
  | [], _ => []
  | n :: ns, l => l.take n :: cutBy ns (l.drop n)
/-- the rows as the law's code cuts them -/
def rows0 (M : Nat) (l : List Nat) : List (List Nat) := cutBy (((l.map bm).map List.length).foldl (maStep (M - 1)) []) ((l.map bm).flatten)
def wlOf (l : List Nat) : Option Nat := if l.getLast? = some 32 then some 32 else if l.getLast? = some 9 then some 9 else none
/-- a line's rows in the law -/
def rowsF (M : Nat) (l : List Nat) : List (List Nat) := if l = [] then [[]] else fixR M (wlOf l) (rows0 M l)
end Mine
end

section
namespace Mine
def encT (l : List Nat) : List Nat := (l.map bm).flatten
/-- the signs that go into m -/
def nK (m : Nat) : List Nat → Nat
  | [] => 0
  | c :: l => if (bm c).length ≤ m then 1 + nK (m - (bm c).length) l else 0
/-- how many signs stand ahead of the last row -/
def startK (M : Nat) : Nat → List Nat → Nat
  | 0, _ => 0
  | n + 1, l => if (encT l).length ≤ M then 0 else nK (M - 1) l + startK M n (l.drop (nK (M - 1) l))
def softs (mark : List Nat) (rows : List (List Nat)) : List Nat := (rows.map (lineF mark)).flatten
theorem softs_app (mark : List Nat) (a b : List (List Nat)) : softs mark (a ++ b) = softs mark a ++ softs mark b := by simp [softs]
theorem softs_cons (mark a : List Nat) (b : List (List Nat)) : softs mark (a :: b) = lineF mark a ++ softs mark b := by simp [softs]
theorem rstrip_keep {l : List Nat} {c : Nat} (h : l.getLast? = some c) (hc : Unicode.isSpace c = false) : rstripL l = l := by
  unfold rstripL
  have hne : l ≠ [] := by intro q; subst q; simp at h
  have e : l = l.dropLast ++ [c] := by
    rw [List.getLast?_eq_some_getLast hne] at h; cases h
    exact (List.dropLast_concat_getLast hne).symm
  rw [e]; simp [hc]
theorem hex_sp : ∀ n, n < 16 → Unicode.isSpace (hxB n) = false := by
  have h : ∀ n : _root_.Fin 16, Unicode.isSpace (hxB n.1) = false := by decide +kernel
  intro n hn; exact h ⟨n, hn⟩
def farL : List Nat := [5760, 8239, 8287, 12288] ++ (List.range 11).map (8192 + ·)
/-- whites that are written as they are -/
def whiteK (c : Nat) : Bool := decide (c ∈ farL ∨ c = 32 ∨ c = 9)
def rstripK (l : List Nat) : List Nat := (l.reverse.dropWhile whiteK).reverse
theorem line_nil (mark : List Nat) : lineF mark [] = mark := by simp [lineF, rstripL]
/-- the rows of a line, one text each -/
def lastRs (M : Nat) (line r : List Nat) : List (List Nat) :=
  if line ≠ [] ∧ (line.getLast? = some 32 ∨ line.getLast? = some 9) then
    (if r.length + 2 ≤ M then [r.dropLast ++ qm (line.getLastD 0)] else if r.length + 1 = M then [r.dropLast ++ ([line.getLastD 0] ++ [61]), []] else [r.dropLast ++ [61], qm (line.getLastD 0)])
  else [r]
def rowsX (M : Nat) (line : List Nat) : List (List Nat) := (encW M line).1 ++ lastRs M line (encW M line).2
def kept (M : Nat) (l : List Nat) : List Nat := if l = [] ∨ l.getLastD 0 ∉ farL then l else l.take (startK M l.length l) ++ rstripK (l.drop (startK M l.length l))
end Mine
end

section
namespace Mine
/-- no sign of it ends a line -/
def Nb (x : List Nat) : Prop := ∀ d ∈ x, Unicode.isLineBreak d = false ∧ d ≠ 10 ∧ d ≠ 13
theorem nb_one {d : Nat} (h : d = 9 ∨ (32 ≤ d ∧ d ≤ 126) ∨ (256 ≤ d ∧ d ≠ 8232 ∧ d ≠ 8233)) : Unicode.isLineBreak d = false ∧ d ≠ 10 ∧ d ≠ 13 := by
  refine ⟨?_, by omega, by omega⟩
  rw [lb_iff]
  refine decide_eq_false ?_
  simp only [ends05, List.mem_cons, List.not_mem_nil, or_false]
  omega
theorem nb_qm {c : Nat} (h : c < 256) : Nb (qm c) := by
  have a := hxB_ok (c / 16) (by omega)
  have b := hxB_ok (c % 16) (by omega)
  intro d hd
  simp only [qm, List.mem_cons, List.not_mem_nil, or_false] at hd
  rcases hd with rfl | rfl | rfl <;> exact nb_one (by omega)
theorem Nb.app {a b : List Nat} (h1 : Nb a) (h2 : Nb b) : Nb (a ++ b) := fun d hd => (List.mem_append.mp hd).elim (h1 d) (h2 d)
theorem nb_nil : Nb [] := fun d hd => by cases hd
/-- the line ends that body_encode may be given -/
def E3 (e : List Nat) : Prop := e = [10] ∨ e = [13, 10] ∨ e = [13]
theorem flow_nb {r : List Nat} : ∀ {p : List Nat} {cur : List Nat}, Nb p → linesGo cur false (p ++ r) = linesGo (cur ++ p) false r
  | [], cur, _ => by simp
  | d :: p, cur, h => by
    have hd := h d (.head _)
    rw [List.cons_append, linesGo, if_neg (by simp), hd.1, if_neg (by simp), flow_nb fun e he => h e (.tail _ he)]
    simp
theorem lines_rows {e : List Nat} (he : E3 e) : ∀ (P : List (List Nat)) (r cur : List Nat), (∀ x ∈ P, Nb x) → Nb r → linesGo cur false (joinL e (P ++ [r])) = match P with
    | [] => if cur ++ r = [] then [] else [cur ++ r]
    | p :: P => (cur ++ p) :: (P ++ (if r = [] then [] else [r]))
  | [], r, cur, _, hr => by
    have := flow_nb (r := []) (cur := cur) hr
    simp only [List.append_nil] at this
    simp only [List.nil_append, joinL]
    rw [this]; simp [linesGo]
  | p :: P, r, cur, hP, hr => by
    have hp := hP p (.head _)
    have ih := lines_rows he P r [] (fun x hx => hP x (.tail _ hx)) hr
    rw [List.cons_append, joinL_cons (by simp), List.append_assoc, flow_nb hp]
    have l10 : Unicode.isLineBreak 10 = true := by decide +kernel
    have l13 : Unicode.isLineBreak 13 = true := by decide +kernel
    have hrest : linesGo [] false (joinL e (P ++ [r])) = P ++ (if r = [] then [] else [r]) := by
      rw [ih]
      cases P with
      | nil => by_cases q : r = [] <;> simp [q]
      | cons => simp
    have hhead : e = [13] → (joinL e (P ++ [r])).head? ≠ some 10 := by
      intro h13 hh
      cases P with
      | nil =>
        simp only [List.nil_append, joinL] at hh
        cases r with
        | nil => simp at hh
        | cons x r => simp at hh; exact (hr x (.head _)).2.1 hh
      | cons q P =>
        rw [List.cons_append, joinL_cons (by simp), List.append_assoc] at hh
        cases q with
        | nil => rw [h13] at hh; simp at hh
        | cons x q => simp at hh; exact (hP (x :: q) (.tail _ (.head _)) x (.head _)).2.1 hh
    dsimp only
    rcases he with rfl | rfl | rfl
    · rw [List.cons_append, List.nil_append, linesGo, if_neg (by simp), if_pos l10]
      rw [show decide ((10 : Nat) = 13) = false by decide, hrest]
    · rw [List.cons_append, List.cons_append, List.nil_append, linesGo, if_neg (by simp), if_pos l13, linesGo, if_pos (by simp), hrest]
    · rw [List.cons_append, List.nil_append, linesGo, if_neg (by simp), if_pos l13]
      rw [show decide ((13 : Nat) = 13) = true by decide, linesGo_cr (hhead rfl), hrest]
theorem sl_off {l m : List Nat} (h : m ≠ []) : sl (l ++ m) none (some (-(m.length : Int))) = l := by
  have hp : 0 < m.length := List.length_pos_iff.mpr h
  have e2 : clipAt (l ++ m).length (-(m.length : Int)) = l.length := by
    unfold clipAt
    rw [List.length_append]
    split <;> omega
  unfold sl
  simp only [Option.elim, e2, List.drop_zero, Nat.sub_zero]
  exact List.take_left
/-- what decode gives of rows that are joined -/
theorem dec_rows {e mark : List Nat} (he : E3 e) (hm : mark ≠ []) {P : List (List Nat)} {r X : List Nat} (hP : ∀ x ∈ P, Nb x) (hr : Nb r) (hX : lineF mark r = X ++ mark) : decF mark (joinL e (P ++ [r])) ++ mark = softs mark (P ++ [r]) := by
  have hl := lines_rows he P r [] hP hr
  have hL : linesL (joinL e (P ++ [r])) = P ++ (if r = [] then [] else [r]) := by
    unfold linesL
    rw [hl]
    cases P with
    | nil => by_cases q : r = [] <;> simp [q]
    | cons => simp
  have hraw : decRaw mark (joinL e (P ++ [r])) = softs mark (P ++ (if r = [] then [] else [r])) := by unfold decRaw; rw [hL]; rfl
  unfold decF
  rw [hraw]
  by_cases hr0 : r = []
  · subst hr0
    have hgoal : softs mark (P ++ [[]]) = softs mark P ++ mark := by rw [softs_app, softs_cons, line_nil]; simp [softs]
    rw [hgoal]
    simp only [if_true, List.append_nil]
    cases hPn : P with
    | nil => simp [joinL, softs]
    | cons p P' =>
      rw [← hPn]
      have hj : joinL e (P ++ [[]]) = joinL e P ++ e := by rw [joinL_app (by rw [hPn]; simp) (by simp)]; simp [joinL]
      rw [hj]
      have hne : joinL e P ++ e ≠ [] := by rcases he with rfl | rfl | rfl <;> simp
      rw [if_neg hne]
      have hlast : ¬ ((joinL e P ++ e).getLast? ≠ some 13 ∧ (joinL e P ++ e).getLast? ≠ some 10 ∧ endsL (softs mark P) mark = true) := by
        rcases he with rfl | rfl | rfl
        · rintro ⟨_, q, _⟩; exact q (by simp)
        · rintro ⟨_, q, _⟩; exact q (by simp)
        · rintro ⟨q, _, _⟩; exact q (by simp)
      rw [if_neg hlast]
  · rw [if_neg hr0]
    have hgl : (joinL e (P ++ [r])).getLast? = r.getLast? := by
      cases P with
      | nil => rfl
      | cons p P' => rw [joinL_app (by simp) (by simp), List.append_assoc]; show (_ ++ (e ++ r)).getLast? = _; rw [last_app (by simp [hr0]), last_app hr0]
    have hne : joinL e (P ++ [r]) ≠ [] := by
      intro q
      rw [q] at hgl
      cases r with
      | nil => exact hr0 rfl
      | cons a b => rw [List.getLast?_eq_some_getLast (List.cons_ne_nil a b)] at hgl; cases hgl
    rw [if_neg hne]
    obtain ⟨c, hc⟩ : ∃ c, r.getLast? = some c := ⟨_, List.getLast?_eq_some_getLast hr0⟩
    have hcn := hr c (List.mem_of_getLast? hc)
    have hs : softs mark (P ++ [r]) = (softs mark P ++ X) ++ mark := by rw [softs_app, softs_cons, hX]; simp [softs]
    rw [hs]
    have hends : endsL ((softs mark P ++ X) ++ mark) mark = true := by
      unfold endsL
      rw [Bool.and_eq_true]
      refine ⟨decide_eq_true (by simp only [List.length_append]; omega), decide_eq_true ?_⟩
      rw [show (softs mark P ++ X ++ mark).length - mark.length = (softs mark P ++ X).length by simp only [List.length_append]; omega]
      exact List.drop_left
    rw [if_pos ⟨by rw [hgl, hc]; intro q; cases q; exact hcn.2.2 rfl, by rw [hgl, hc]; intro q; cases q; exact hcn.2.1 rfl, hends⟩, sl_off hm]
end Mine
end

section
namespace Mine
/-- a layer over a text -/
def lay (p : List Nat) : List Nat := p.flatMap qm
abbrev Oct (p : List Nat) : Prop := ∀ c ∈ p, c < 256
theorem qm_sign {c d : Nat} (hc : c < 256) (hd : d ∈ qm c) : d = 61 ∨ (48 ≤ d ∧ d < 71) := by
  have h1 := hxB_ok (c / 16) (by omega)
  have h2 := hxB_ok (c % 16) (by omega)
  simp only [qm, List.mem_cons, List.not_mem_nil, or_false] at hd
  rcases hd with rfl | rfl | rfl
  · exact .inl rfl
  · exact .inr ⟨by omega, by omega⟩
  · exact .inr ⟨by omega, by omega⟩
theorem lay_sign {p : List Nat} (hp : Oct p) {d : Nat} (hd : d ∈ lay p) : d = 61 ∨ (48 ≤ d ∧ d < 71) := by
  obtain ⟨c, hc, h⟩ := List.mem_flatMap.mp hd
  exact qm_sign (hp c hc) h
theorem lay_oct {p : List Nat} (hp : Oct p) : Oct (lay p) := fun d hd => by
  rcases lay_sign hp hd with rfl | h
  · decide
  · omega
theorem lay_len : ∀ p : List Nat, (lay p).length = 3 * p.length
  | [] => rfl
  | c :: p => by
    have := lay_len p
    simp only [lay, List.flatMap_cons, List.length_append, List.length_cons] at this ⊢
    rw [this, show (qm c).length = 3 from rfl]; omega
theorem lay_cons (c : Nat) (p : List Nat) : lay (c :: p) = 61 :: hxB (c / 16) :: hxB (c % 16) :: lay p := rfl
theorem lay_val {c : Nat} (hc : c < 256) : hxB (c / 16) ∈ hexL ∧ hxB (c % 16) ∈ hexL ∧ hv (hxB (c / 16)) * 16 + hv (hxB (c % 16)) = c := by
  have h1 := hxB_ok (c / 16) (by omega)
  have h2 := hxB_ok (c % 16) (by omega)
  refine ⟨h1.1, h2.1, ?_⟩
  rw [h1.2.1, h2.2.1]; omega
theorem go_lay {mark : List Nat} : ∀ {p : List Nat}, Oct p → p ≠ [] → lineGo mark (lay p) = p ++ mark
  | [], _, h => (h rfl).elim
  | c :: p, hp, _ => by
    obtain ⟨h1, h2, h3⟩ := lay_val (hp c (.head _))
    rw [lay_cons, lineGo, if_neg (by simp), if_pos ⟨h1, h2⟩, h3]
    cases p with
    | nil => simp [lay]
    | cons d p =>
      rw [if_neg (by simp [lay_cons]), go_lay (fun x hx => hp x (.tail _ hx)) (by simp)]
      rfl
theorem lay_last : ∀ {p : List Nat}, Oct p → p ≠ [] → ∃ n, n < 16 ∧ (lay p).getLast? = some (hxB n)
  | [], _, h => (h rfl).elim
  | [c], hp, _ => ⟨c % 16, by omega, rfl⟩
  | c :: d :: p, hp, _ => by
    obtain ⟨n, hn, h⟩ := lay_last (p := d :: p) (fun x hx => hp x (.tail _ hx)) (by simp)
    refine ⟨n, hn, ?_⟩
    rw [lay_cons, ← h]
    have : lay (d :: p) ≠ [] := by simp [lay_cons]
    simp only [List.getLast?_cons_cons, lay_cons d p]
theorem nb_lay : ∀ {p : List Nat}, Oct p → Nb (lay p)
  | [], _ => nb_nil
  | c :: p, hp => by
    have : lay (c :: p) = qm c ++ lay p := rfl
    rw [this]
    exact (nb_qm (hp c (.head _))).app (nb_lay fun x hx => hp x (.tail _ hx))
theorem dec07 {p : List Nat} (hp : Oct p) : decF [10] (lay p) = p := by
  by_cases hn : p = []
  · subst hn; rfl
  · obtain ⟨n, hlt, hlast⟩ := lay_last hp hn
    have hr : lineF [10] (lay p) = p ++ [10] := by
      unfold lineF
      rw [rstrip_keep hlast (hex_sp n hlt), if_neg (by intro e; rw [e] at hlast; cases hlast), go_lay hp hn]
    have := dec_rows (e := [10]) (mark := [10]) (P := []) (r := lay p) (X := p) (by simp [E3]) (by simp) (fun x hx => by cases hx) (nb_lay hp) hr
    have e1 : joinL [10] ([] ++ [lay p]) = lay p := by simp [joinL]
    rw [e1] at this
    have e2 : softs [10] ([] ++ [lay p]) = p ++ [10] := by simp [softs, hr]
    rw [e2] at this
    exact List.append_cancel_right this
theorem rep_lay {p : List Nat} (hp : Oct p) : repL 95 [32] (lay p) = lay p := by
  have gen : ∀ x : List Nat, (∀ d ∈ x, d ≠ 95) → repL 95 [32] x = x := by
    intro x
    induction x with
    | nil => intro _; rfl
    | cons c x ih => intro h; rw [repL_one, if_neg (h c (.head _)), ih fun d hd => h d (.tail _ hd)]; rfl
  refine gen _ fun d hd => ?_
  rcases lay_sign hp hd with rfl | h
  · decide
  · omega
theorem hd07 {p : List Nat} (hp : Oct p) : hdF (lay p) = p := by
  unfold hdF
  rw [rep_lay hp]
  induction p with
  | nil => rfl
  | cons c p ih =>
    obtain ⟨h1, h2, h3⟩ := lay_val (hp c (.head _))
    rw [lay_cons, hdL_esc h1 h2, h3, ih fun d hd => hp d (.tail _ hd)]
/-- the script's text -/
def parts07 (x : Int) : List (List Nat) := [[(x / 8 % 300).toNat], [(x / 8 / 300 % 300).toNat]].take (if x % 8 = 3 then 0 else if x % 8 = 7 then 2 else 1)
def txt07 (x : Int) : List Nat := (parts07 x).flatten
def cnt07 (x : Int) : Nat := if x % 8 = 3 then 0 else if x % 8 = 7 then 2 else 1
theorem mod8 (x : Int) : x % 8 = 0 ∨ x % 8 = 1 ∨ x % 8 = 2 ∨ x % 8 = 3 ∨ x % 8 = 4 ∨ x % 8 = 5 ∨ x % 8 = 6 ∨ x % 8 = 7 := by omega
theorem cnt_idx (x : Int) : idx ([1, 1, 1, 0, 1, 1, 1, 2].map D.int) (x % 8) = some (.int (cnt07 x)) := by
  unfold cnt07
  rcases mod8 x with h | h | h | h | h | h | h | h <;> rw [h] <;> rfl
theorem txt07_few (x : Int) : txt07 x = [] ∨ (∃ a b, txt07 x = [a, b]) ∨ ∃ c, txt07 x = [c] ∧ c < 1114112 := by
  unfold txt07 parts07
  split
  · exact .inl rfl
  · split
    · exact .inr (.inl ⟨_, _, rfl⟩)
    · exact .inr (.inr ⟨_, rfl, by omega⟩)
theorem txt07_len (x : Int) : (txt07 x).length ≤ 2 := by
  rcases txt07_few x with h | ⟨a, b, h⟩ | ⟨c, h, _⟩ <;> rw [h] <;> simp
end Mine
end

section
namespace Mine
local macro_rules | `(tactic| walk_at "m_ne") => `(tactic| first | with_reducible assumption | decide +kernel)
local macro_rules | `(tactic| walk_at "m_get") => `(tactic| first | with_reducible exact get_put_same | with_reducible exact get_cons_same | with_reducible assumption | ((with_reducible refine get_put_eq ?_); rfl) | ((with_reducible refine get_cons_eq ?_); rfl) | ((with_reducible refine get_put_ne ?_ ?_); (walk_at "m_ne"); walk_at "m_get") | ((with_reducible refine get_cons_ne ?_ ?_); (walk_at "m_ne"); walk_at "m_get") | ((with_reducible refine cap_get1 ?_); walk_at "m_get") | ((with_reducible refine cap_get3 ?_); walk_at "m_get") | ((with_reducible refine cap_get2 ?_); walk_at "m_get"))
local macro_rules | `(tactic| walk_at "m_kind") => `(tactic| with_reducible assumption)
local macro_rules | `(tactic| walk_at "m_dbg") => `(tactic| decide +kernel)
local macro_rules | `(tactic| walk_at "m_stor") => `(tactic| first | exact Or.inl (by with_reducible assumption) | exact Or.inr ⟨by with_reducible assumption, cells_of (by with_reducible assumption) rfl⟩)
local macro_rules | `(tactic| walk_at "m_name") => `(tactic| first
  | (apply pe_loc; (with_reducible assumption); walk_at "m_get"; walk_at "m_kind"; rotate_left; walk_at "m_dbg")
  | (apply pe_cell; (with_reducible assumption); walk_at "m_get"; walk_at "m_kind"; rotate_left; walk_at "m_dbg")
  | (apply pe_blt; (with_reducible assumption); exact And.left (by with_reducible assumption); exact And.right (by with_reducible assumption); walk_at "m_kind"; rotate_left; walk_at "m_dbg")
  | (apply pe_glob; (with_reducible assumption); (with_reducible assumption); (first | exact is_lit (by with_reducible assumption) | (with_reducible assumption) | (with_reducible exact Is.val)); walk_at "m_kind"; rotate_left; walk_at "m_dbg"))
local macro_rules | `(tactic| walk_at "m_meth") => `(tactic| first
  | (apply pe_replace1; (with_reducible assumption); (with_reducible assumption); rotate_left; decide +kernel; rfl; rfl; rfl)
  | (refine pe_meth F.slot_str_split F.type_str_split ?_ ?_ ?_ ?_ ?_ ?_; rotate_left; rfl; rfl; rfl; rfl; rfl)
  | (refine pe_meth F.slot_str_translate F.type_str_translate ?_ ?_ ?_ ?_ ?_ ?_; rotate_left; rfl; rfl; rfl; rfl; rfl)
  | (refine pe_meth F.slot_str_rstrip F.type_str_rstrip ?_ ?_ ?_ ?_ ?_ ?_; rotate_left; rfl; rfl; rfl; rfl; rfl)
  | (refine pe_meth0 F.slot_str_rstrip F.type_str_rstrip ?_ ?_ ?_; rotate_left; rfl; rfl)
  | (refine pe_meth0 F.slot_str_lower F.type_str_lower ?_ ?_ ?_; rotate_left; rfl; rfl)
  | (refine pe_meth0 F.slot_str_splitlines F.type_str_splitlines ?_ ?_ ?_; rotate_left; rfl; rfl)
  | (refine pe_meth F.slot_str_endswith F.type_str_endswith ?_ ?_ ?_ ?_ ?_ ?_; rotate_left; rfl; rfl; rfl; rfl; rfl)
  | (refine pe_meth F.slot_str_index F.type_str_index ?_ ?_ ?_ ?_ ?_ ?_; rotate_left; rfl; rfl; rfl; rfl; rfl)
  | (refine pe_meth F.slot_str_find F.type_str_find ?_ ?_ ?_ ?_ ?_ ?_; rotate_left; rfl; rfl; rfl; rfl; rfl)
  | (refine pe_meth F.slot_str_join F.type_str_join ?_ ?_ ?_ ?_ ?_ ?_; rotate_left; rfl; rfl; rfl; rfl; rfl))
local macro_rules | `(tactic| walk_at "m_pe") => `(tactic| first
  | (guard_target =~ Pe _ _ _ (Expr.Name _ _) _; walk_at "m_name")
  | refine pe_int ?_
  | ((apply pe_strL); (with_reducible assumption))
  | refine pe_str ?_
  | refine pe_bool ?_
  | refine pe_bin ?_
  | refine pe_un ?_
  | (refine pe_rev ?_ ?_; rotate_left; (intros; rfl))
  | refine pe_slice ?_
  | (refine pe_cmp ?_ ?_; rotate_left; rfl)
  | (refine pe_sub ?_ ?_; rotate_left; (intros; rfl))
  | (refine pe_call ?_ ?_ ?_; rotate_left; rfl; rfl)
  | refine pe_ifexp ?_
  | refine pe_joined ?_
  | refine pe_fs ?_
  | refine pe_tup ?_
  | walk_at "m_meth")
local macro_rules | `(tactic| walk_at "m_asg") => `(tactic| (apply ex_assign; (with_reducible assumption); walk_at "m_stor"; rotate_left; rfl))
local macro_rules | `(tactic| walk_at "m_new") => `(tactic| (apply ex_new; (with_reducible assumption); walk_at "m_stor"; rotate_left; rfl))
local macro_rules | `(tactic| walk_at "m_ex") => `(tactic| first
  | refine ex_ret ?_
  | refine ex_if ?_
  | refine ex_cont ?_
  | refine ex_brk ?_
  | (refine ex_append ?_ ?_ ?_ ?_ ?_ ?_ ?_ ?_; rotate_left; rfl; rfl; rfl; rfl; rfl; exact inter (by assumption); rfl)
  | (refine ex_pop ?_ ?_ ?_ ?_ ?_; rotate_left; rfl; rfl; exact inter (by assumption); rfl)
  | ((fail_if_success (guard_target =~ Ex _ _ _ (Stmt.Assign _ (Expr.List _ _) _) _)); (fail_if_success (guard_target =~ Ex _ _ _ (Stmt.Assign _ (Expr.ListComp _ _ _ _) _) _)); walk_at "m_asg")
  | (apply ex_aug; (with_reducible assumption); walk_at "m_stor"; walk_at "m_get"))
local macro_rules | `(tactic| walk_at "m_do") => `(tactic| first
  | refine do_add_int ?_ | refine do_sub_int ?_ | refine do_iadd_int ?_ | refine do_isub_int ?_
  | refine do_eq_int ?_ | refine do_ne_int ?_ | refine do_lt_int ?_ | refine do_le_int ?_ | refine do_gt_int ?_ | refine do_ge_int ?_
  | refine do_eq_str ?_ | refine do_ne_str ?_ | refine do_in_str ?_ | refine do_notin_str ?_
  | refine do_mod_int (by decide) (by decide) ?_ | refine do_fdiv_int (by decide) (by decide) ?_)
local macro_rules | `(tactic| walk_at "m") => `(tactic| first
  | (guard_target =~ Pe _ _ _ _ _; walk_at "m_pe")
  | (guard_target =~ Exs _ _ _ _ _; (fail_if_success (guard_target =~ Exs _ _ _ (Stmt.If (Expr.BoolOp _ _ _) _ _ _ :: _) _)); first | refine exs_cons ?_ | refine exs_nil ?_)
  | (guard_target =~ Ex _ _ _ _ _; walk_at "m_ex")
  | (guard_target =~ Do2 _ _ _ _ _; walk_at "m_do")
  | (guard_target =~ Do1 _ _ _ _; first | refine do_neg_int ?_ | refine do_not ?_)
  | (guard_target =~ Pl _ _ _ _ _; first | refine pl_nil ?_ | (refine pl_cons ?_ ?_; rotate_left; rfl))
  | (guard_target =~ Pj _ _ _ _ _ _; first | refine pj_nil ?_ | refine pj_cons ?_)
  | (guard_target =~ Po _ _ _ _ _; first | refine po_none ?_ | refine po_some ?_)
  | (guard_target =~ Pt _ _ _ _ _; first | (refine pt_cmp ?_ ?_; rotate_left; rfl) | (refine pt_cmp2 ?_ ?_; rotate_left; rfl) | refine pt_not ?_ | refine pt_bool ?_ | (refine pt_val ?_ ?_; rotate_left; (intro _; rfl)))
  | (guard_target =~ Pi _ _ _ _ _ _; first | refine pi_nil ?_ | refine pi_one ?_)
  | (guard_target =~ Pb _ _ _ _ _ _; first | refine pb_and ?_ | refine pb_and_nil ?_ | refine pb_or ?_ | refine pb_or_nil ?_)
  | (guard_target =~ Tr1 _ _ _; first | refine tr_bool ?_ | refine tr_int ?_)
  | (guard_target =~ ite _ _ _; first | with_reducible refine ite_t ?_ | with_reducible refine ite_f ?_ | with_reducible refine ite_nt ?_ | with_reducible refine ite_nf ?_)
  | (guard_target =~ Exists _; first | refine ⟨_, rfl, .blt, ?_⟩ | refine ⟨_, rfl, .typ, ?_⟩ | refine ⟨_, rfl, ?_⟩))

theorem fm_str (l : List (List Nat)) (f : List Nat → Option (List Nat)) (g : D → Option D) (e : ∀ c, g (.str c) = (f c).map D.str) : (l.map D.str).filterMap g = (l.filterMap f).map .str := by
  induction l with
  | nil => rfl
  | cons a l ih => cases h : f a <;> simp [List.filterMap_cons, e, h, ih]
def ptDue : D → Option D | .str x => some (.str (due07 x)) | _ => none
def isOct (x : List Nat) : Option (List Nat) := match x with | [c] => if c < 256 then some [c] else none | _ => none
def ptOct : D → Option D | .str x => (isOct x).map .str | _ => none
def ptQ : D → Option D | .str [c] => some (.str (qm c)) | _ => none
theorem fm_oct : ∀ (ts : List (List Nat)), ∃ cs : List Nat, ts.filterMap isOct = cs.map (fun c => [c]) ∧ Oct cs
  | [] => ⟨[], rfl, fun _ h => by cases h⟩
  | x :: ts => by
    obtain ⟨cs, h1, h2⟩ := fm_oct ts
    match x with
    | [] => exact ⟨cs, h1, h2⟩
    | a :: b :: r => exact ⟨cs, h1, h2⟩
    | [c] =>
      by_cases hc : c < 256
      · refine ⟨c :: cs, ?_, ?_⟩
        · rw [List.filterMap_cons_some (b := [c]) (by simp [isOct, hc]), h1]; rfl
        · intro d hd
          rcases List.mem_cons.mp hd with rfl | hd
          · exact hc
          · exact h2 d hd
      · refine ⟨cs, ?_, h2⟩
        rw [List.filterMap_cons_none (by simp [isOct, hc]), h1]
theorem join_lay (p : List Nat) : joinL [] (p.map qm) = lay p := by
  rw [joinL_nil, lay, List.flatMap_def]
theorem fm_lay : ∀ (p : List Nat) , (p.map fun c => D.str [c]).filterMap ptQ = (p.map qm).map .str
  | [] => rfl
  | c :: p => by rw [List.map_cons, List.filterMap_cons_some (f := ptQ) (b := .str (qm c)) rfl, fm_lay p]; rfl
theorem due_head {x : List Nat} (hx : Few x) : ∃ h r, due07 x = h :: r ∧ r.length ≤ 10 ∧ ((h = 61 ∧ isOct x = some x) ∨ (h ≠ 61 ∧ isOct x = none)) := by
  rcases hx with rfl | ⟨a, b, rfl⟩ | ⟨c, rfl, hc⟩
  · exact ⟨_, _, rfl, by simp, .inr ⟨by decide, rfl⟩⟩
  · exact ⟨_, _, rfl, by simp, .inr ⟨by decide, rfl⟩⟩
  · by_cases h : c < 256
    · refine ⟨61, [hxB (c / 16), hxB (c % 16)], by rw [due07, if_pos h]; rfl, by simp, .inl ⟨rfl, by simp [isOct, h]⟩⟩
    · refine ⟨73, _, by rw [due07, if_neg h]; rfl, by simp, .inr ⟨by decide, by simp [isOct, h]⟩⟩
theorem idx_zero {α : Type} (c : α) (r : List α) : idx (c :: r) 0 = some c := by simpa using idx_of (l := c :: r) (n := 0) rfl
theorem due_oct {c : Nat} (h : c < 256) : due07 [c] = qm c := by rw [due07, if_pos h]
theorem law07 {C : Cx} (B : B07 C) (room : Room C.A 5) {ns : List Int} (hn : ns.length ≤ 63) : CodeC C (.ref 112) [.list (ns.map .int)] (fun d => d = .bool true) := by
  refine enterK' (l := 4) B.G room [(Str.ofString "script", .list (ns.map .int))] ⟨⟨_, B.X 112 _ rfl, rfl⟩, codeRec_of B.X rfl, rfl, rfl, rfl, rfl, rfl, rfl, rfl⟩ ?_ ?_ ⟨_, _, _, rfl, rfl⟩ ?_
  · intro Z s vs U ia
    cases ia with | cons i0 r0 => cases r0; exact ⟨[(Str.ofString "script", _)], BindsTo.of_eq rfl, rfl, .cons i0 .nil, by simp only [List.map_cons, List.map_nil]; decide +kernel⟩
  · intro n x hx
    simp only [List.map_cons, List.map_nil, List.mem_cons, List.not_mem_nil, or_false] at hx
    subst hx; exact Or.inl rfl
  intro C' ok kin hN hcl
  dsimp only at hN
  have B := B.kin kin
  replace hcl := hcl _ rfl
  replace hcl : C'.env.cells = [] := hcl
  have mg__law_due := B.g__law_due
  have mg__law_told := B.g__law_told
  have mg_chr := B.g_chr
  have mg_decode := B.g_decode
  have mg_divmod := B.g_divmod
  have mg_header_decode := B.g_header_decode
  have mg_len := B.g_len
  have mg_quote := B.g_quote
  have mg_range := B.g_range
  have k_script : C'.env.kindOf (Str.ofString "script") = some .local := kind_of hN rfl
  have k_texts : C'.env.kindOf (Str.ofString "texts") = some .local := kind_of hN rfl
  have k_x : C'.env.kindOf (Str.ofString "x") = some .local := kind_of hN rfl
  have k_rest : C'.env.kindOf (Str.ofString "rest") = some .local := kind_of hN rfl
  have k_kind : C'.env.kindOf (Str.ofString "kind") = some .local := kind_of hN rfl
  have k_divmod : C'.env.kindOf (Str.ofString "divmod") = some .globalImplicit := kind_of hN rfl
  have k_count : C'.env.kindOf (Str.ofString "count") = some .local := kind_of hN rfl
  have k_chr : C'.env.kindOf (Str.ofString "chr") = some .globalImplicit := kind_of hN rfl
  have k_plain : C'.env.kindOf (Str.ofString "plain") = some .local := kind_of hN rfl
  have k_turn : C'.env.kindOf (Str.ofString "turn") = some .local := kind_of hN rfl
  have k_range : C'.env.kindOf (Str.ofString "range") = some .globalImplicit := kind_of hN rfl
  have k_len : C'.env.kindOf (Str.ofString "len") = some .globalImplicit := kind_of hN rfl
  have k_layer : C'.env.kindOf (Str.ofString "layer") = some .local := kind_of hN rfl
  have k_decode : C'.env.kindOf (Str.ofString "decode") = some .globalImplicit := kind_of hN rfl
  have k_header_decode : C'.env.kindOf (Str.ofString "header_decode") = some .globalImplicit := kind_of hN rfl
  clear kin hN
  have lit_0 : (Str.ofString "").cps.toList = [] := by decide +kernel
  have lit_1 : (Str.ofString "=").cps.toList = [61] := by decide +kernel
  have hl63 : (ns.map D.int).length ≤ lim := by simp [lim]; omega
  have hr2 : Room C'.A 2 := ok.room.le (by decide)
  have hr1 : Room C'.A 1 := ok.room.le (by decide)
  have hr4 : Room C'.A 4 := ok.room
  have hs300 : sl (ns.map D.int) none (some 300) = ns.map .int := by
    have := sl_to (ns.map D.int) 300
    rw [show ((300 : Nat) : Int) = 300 from rfl] at this
    rw [this]; exact List.take_of_length_le (by simp; omega)
  refine exs_cons (ex_assign ok (by walk_at "m_stor") (Pe.mono (K := fun d => d = .list (ns.map .int)) ?_ ?_) rfl)
  · repeat (walk_at "m")
    refine ⟨hl63, ?_⟩
    rw [hs300]
  rintro d rfl
  dsimp only
  refine exs_cons ?_
  walk_at "m_new"
  refine pl_nil ⟨by simp [lim], fun a _ => ?_⟩
  dsimp only
  refine exs_cons (ex_for ok (by walk_at "m_stor") (Pe.mono (K := fun d => d = .list (ns.map .int)) ?_ ?_) (by intro _; rfl))
  · repeat (walk_at "m")
    rfl
  rintro d rfl
  refine ⟨_, rfl, fun k ρ' ω' => ω' = [(a, ((ns.take k).map txt07).map .str)] ∧ get ρ' (Str.ofString "texts") = some (.val (.ref a)) ∧ get ρ' (Str.ofString "script") = some (.list (ns.map .int)), ?_, ?_, ?_⟩
  · refine ⟨rfl, ?_, ?_⟩ <;> walk_at "m_get"
  · rintro k d ρ' ω' hk ⟨rfl, g1, g2⟩
    obtain ⟨x, hx, rfl⟩ : ∃ x, ns[k]? = some x ∧ d = .int x := by
      rw [List.getElem?_map] at hk
      cases e : ns[k]? with
      | none => rw [e] at hk; cases hk
      | some x => rw [e] at hk; cases hk; exact ⟨x, rfl, rfl⟩
    have hstep : ((ns.take (k + 1)).map txt07).map D.str = ((ns.take k).map txt07).map .str ++ [.str (txt07 x)] := by
      rw [List.take_add_one, hx]; simp
    have hlen : (ns.take k).length ≤ 63 := by rw [List.length_take]; omega
    refine exs_cons (ex_unpack (xs := [(Str.ofString "rest", _), (Str.ofString "kind", _)]) ok ?_ ?_ rfl rfl)
    · intro y hy
      simp only [List.mem_cons, List.not_mem_nil, or_false] at hy
      rcases hy with rfl | rfl <;> walk_at "m_stor"
    repeat (walk_at "m")
    refine doc_divmod (by decide) (by decide) ?_
    refine ⟨_, rfl, rfl, ?_⟩
    dsimp only [puts]
    refine exs_cons (ex_assign ok (by walk_at "m_stor") (Pe.mono (K := fun d => d = .int (cnt07 x)) ?_ ?_) rfl)
    · refine pe_sub (pe_list ?_) (by intros; rfl)
      repeat (walk_at "m")
      refine ⟨by simp [lim], ?_⟩
      repeat (walk_at "m")
      exact ⟨_, cnt_idx x, by simp [lim], rfl⟩
    rintro d rfl
    dsimp only
    repeat (walk_at "m")
    refine ⟨a, _, rfl, getO_one, by simp only [List.length_map, lim]; omega, ?_⟩
    refine pe_meth F.slot_str_join F.type_str_join ?_ rfl rfl rfl rfl rfl
    refine pe_strL (l := []) (by assumption) ?_
    refine ⟨_, rfl, ?_⟩
    refine pl_cons ?_ rfl
    refine pe_slice (pe_list ?_)
    repeat (walk_at "m")
    refine doc_chr (by omega) (by omega) ?_
    repeat (walk_at "m")
    refine doc_chr (by omega) (by omega) ?_
    repeat (walk_at "m")
    refine ⟨by simp [lim], ?_⟩
    repeat (walk_at "m")
    refine ⟨by simp [lim], ?_⟩
    rw [sl_to]
    have hpt : ([D.str [(x / 8 % 300).toNat], D.str [(x / 8 / 300 % 300).toNat]] : List D).take (cnt07 x) = (parts07 x).map .str := by
      unfold parts07 cnt07; rw [List.map_take]; rfl
    rw [hpt]
    refine pl_nil ?_
    refine doc_join (by have := txt07_len x; unfold txt07 at this; rw [List.length_flatten] at this; simp only [List.length_nil, Nat.mul_zero, lim]; omega) ?_
    rw [joinL_nil, show (parts07 x).flatten = txt07 x from rfl, setO_one, ← hstep]
    repeat (walk_at "m")
    refine ⟨rfl, ?_, ?_⟩ <;> walk_at "m_get"
  · rintro ρ' ω' ⟨rfl, g1, g2⟩
    rw [List.length_map, List.take_length]
    have hfew : ∀ x ∈ ns.map txt07, Few x := fun x hx => by
      obtain ⟨y, _, rfl⟩ := List.mem_map.mp hx
      exact txt07_few y
    have htl : (ns.map txt07).length ≤ 63 := by rw [List.length_map]; omega
    obtain ⟨ts, hts⟩ : ∃ ts, ts = ns.map txt07 := ⟨_, rfl⟩
    rw [← hts] at hfew htl ⊢
    have hdue : (ts.map D.str).filterMap ptDue = (ts.map due07).map .str := by
      have := fm_str ts (fun x => some (due07 x)) ptDue (fun c => rfl)
      rw [this]; simp
    refine exs_cons (ex_if ?_)
    refine pt_cmp (pe_comp ok (compOk0 (by rw [hcl]; rfl) (by decide +kernel) rfl (by decide +kernel) rfl) ?_ (by intro _; rfl)) rfl
    repeat (walk_at "m")
    refine ⟨_, getO_one, by simp only [List.length_map, lim]; omega, ptDue, ?_, ?_⟩
    · intro d hd n
      obtain ⟨x, hx, rfl⟩ := List.mem_map.mp hd
      refine in_pi ok rfl fun C2 ok2 kin2 hK => ?_
      have B := B.kin kin2
      have mg__law_told := B.g__law_told
      have k2_text : C2.env.kindOf (Str.ofString "text") = some .local := hK.same rfl (by decide)
      have k2__law_told : C2.env.kindOf (Str.ofString "_law_told") = some .globalImplicit := hK.same rfl (by decide)
      clear ok
      repeat (walk_at "m")
      refine ⟨.fn ⟨_, _, _, _, B.X 100 _ rfl⟩, ?_⟩
      repeat (walk_at "m")
      refine told07 B (ok2.room.le (by decide)) (hfew x hx) ?_
      rfl
    rw [hdue]
    refine pe_comp ok (compOk0 (by rw [hcl]; rfl) (by decide +kernel) rfl (by decide +kernel) rfl) ?_ (by intro _; rfl)
    repeat (walk_at "m")
    refine ⟨_, getO_one, by simp only [List.length_map, lim]; omega, ptDue, ?_, ?_⟩
    · intro d hd n
      obtain ⟨x, hx, rfl⟩ := List.mem_map.mp hd
      refine in_pi ok rfl fun C2 ok2 kin2 hK => ?_
      have B := B.kin kin2
      have mg__law_due := B.g__law_due
      have k2_text : C2.env.kindOf (Str.ofString "text") = some .local := hK.same rfl (by decide)
      have k2__law_due : C2.env.kindOf (Str.ofString "_law_due") = some .globalImplicit := hK.same rfl (by decide)
      clear ok
      repeat (walk_at "m")
      refine ⟨.fn ⟨_, _, _, _, B.X 107 _ rfl⟩, ?_⟩
      repeat (walk_at "m")
      refine lawdue07 B (ok2.room.le (by decide)) (hfew x hx) ?_
      rfl
    rw [hdue]
    refine do_ne_strs (by have := ok.room.units; omega) ?_
    rw [decide_eq_false (by simp)]
    refine tr_bool (ite_f (exs_nil ?_))
    dsimp only
    obtain ⟨cs, hcs, hoct⟩ := fm_oct ts
    have hcl2 : cs.length ≤ 63 := by
      have h1 := List.length_filterMap_le isOct ts
      rw [hcs, List.length_map] at h1; omega
    refine exs_cons (ex_assign ok (by walk_at "m_stor") (Pe.mono (K := fun d => d = .str (cs.take 12)) ?_ ?_) rfl)
    · refine pe_meth F.slot_str_join F.type_str_join ?_ rfl rfl rfl rfl rfl
      refine pe_strL (l := []) (by assumption) ?_
      refine ⟨_, rfl, ?_⟩
      refine pl_cons ?_ rfl
      refine pe_slice ?_
      refine pe_comp ok (compOk0 (by rw [hcl]; rfl) (by decide +kernel) rfl (by decide +kernel) rfl) ?_ (by intro _; rfl)
      repeat (walk_at "m")
      refine ⟨_, getO_one, by simp only [List.length_map, lim]; omega, ptOct, ?_, ?_⟩
      · intro d hd n
        obtain ⟨x, hx, rfl⟩ := List.mem_map.mp hd
        refine in_pi ok rfl fun C2 ok2 kin2 hK => ?_
        have B := B.kin kin2
        have mg__law_due := B.g__law_due
        have k2_text : C2.env.kindOf (Str.ofString "text") = some .local := hK.same rfl (by decide)
        have k2__law_due : C2.env.kindOf (Str.ofString "_law_due") = some .globalImplicit := hK.same rfl (by decide)
        clear ok
        repeat (walk_at "m")
        refine ⟨.fn ⟨_, _, _, _, B.X 107 _ rfl⟩, ?_⟩
        repeat (walk_at "m")
        refine lawdue07 B (ok2.room.le (by decide)) (hfew x hx) ?_
        obtain ⟨hh, r, e1, e2, e3⟩ := due_head (hfew x hx)
        rw [e1]
        repeat (walk_at "m")
        refine ⟨hh, idx_zero hh r, by simp only [List.length_cons, lim]; omega, ?_⟩
        repeat (walk_at "m")
        rcases e3 with ⟨rfl, e3⟩ | ⟨hne, e3⟩
        · rw [decide_eq_true rfl]
          refine ite_t ?_
          repeat (walk_at "m")
          rw [ptOct, e3]; rfl
        · rw [decide_eq_false (by simpa using hne)]
          refine ite_f ?_
          rw [ptOct, e3]; rfl
      rw [fm_str ts isOct ptOct (fun c => rfl), hcs]
      repeat (walk_at "m")
      refine ⟨by simp only [List.length_map, lim]; omega, ?_⟩
      have hs12 : sl ((cs.map fun c => [c]).map D.str) none (some 12) = (((cs.take 12).map fun c => [c])).map .str := by
        have := sl_to ((cs.map fun c => [c]).map D.str) 12
        rw [show ((12 : Nat) : Int) = 12 from rfl] at this
        rw [this, List.map_take, List.map_take]
      rw [hs12]
      have hfl : ((cs.take 12).map fun c => [c]).flatten = cs.take 12 := by rw [← List.flatMap_def]; simp
      refine pl_nil (doc_join ?_ ?_)
      · rw [← List.length_flatten, hfl]
        simp only [List.length_nil, Nat.mul_zero, lim, List.length_take]; omega
      · rw [joinL_nil, hfl]
    rintro d rfl
    dsimp only
    obtain ⟨m, hm, hm3⟩ : ∃ m : Nat, (1 + (ns.length : Int) % 3) = m ∧ m ≤ 3 := ⟨1 + ns.length % 3, by omega, by omega⟩
    refine exs_cons (ex_for ok (by walk_at "m_stor") (Pe.mono (K := fun d => d = .rng 0 m 1) ?_ ?_) (by intro _; rfl))
    · repeat (walk_at "m")
      refine doc_len_list (by simp only [List.length_map, lim]; omega) ?_
      rw [List.length_map]
      repeat (walk_at "m")
      rw [hm]
      exact doc_range1 rfl
    rintro d rfl
    refine ⟨_, rng_up false m (by simp only [lim]; omega), fun k ρ2 ω2 => ω2 = [(a, ts.map .str)] ∧ ∃ p, get ρ2 (Str.ofString "plain") = some (.str p) ∧ Oct p ∧ p.length ≤ 12 * 3 ^ k, ?_, ?_, ?_⟩
    · refine ⟨rfl, cs.take 12, by walk_at "m_get", fun c hc => hoct c (List.mem_of_mem_take hc), ?_⟩
      rw [List.length_take]; omega
    · rintro k d ρ2 ω2 hk ⟨rfl, p, gp, hp, hpl⟩
      have hk3 : k < 3 := by
        have := (List.getElem?_eq_some_iff.mp hk).1
        simp at this; omega
      have hpl2 : p.length ≤ 108 := by
        have : (3 : Nat) ^ k ≤ 3 ^ 2 := Nat.pow_le_pow_right (by decide) (by omega)
        omega
      have hll := lay_len p
      refine exs_cons (ex_assign ok (by walk_at "m_stor") (Pe.mono (K := fun d => d = .str (lay p)) ?_ ?_) rfl)
      · refine pe_meth F.slot_str_join F.type_str_join ?_ rfl rfl rfl rfl rfl
        refine pe_strL (l := []) (by assumption) ?_
        refine ⟨_, rfl, ?_⟩
        refine pl_cons ?_ rfl
        refine pe_comp ok (compOk0 (by rw [hcl]; rfl) (by decide +kernel) rfl (by decide +kernel) rfl) ?_ (by intro _; rfl)
        repeat (walk_at "m")
        refine ⟨by simp only [List.length_map, lim]; omega, ptQ, ?_, ?_⟩
        · intro d hd n
          obtain ⟨c, hc, rfl⟩ := List.mem_map.mp hd
          refine in_pi ok rfl fun C2 ok2 kin2 hK => ?_
          have B := B.kin kin2
          have mg_quote := B.g_quote
          have k2_sign : C2.env.kindOf (Str.ofString "sign") = some .local := hK.same rfl (by decide)
          have k2_quote : C2.env.kindOf (Str.ofString "quote") = some .globalImplicit := hK.same rfl (by decide)
          clear ok
          repeat (walk_at "m")
          refine ⟨.fn ⟨_, _, _, _, B.X 66 _ rfl⟩, ?_⟩
          repeat (walk_at "m")
          refine quote07 B (ok2.room.le (by decide)) (hp c hc) ?_
          rfl
        rw [fm_lay]
        refine pl_nil (doc_join ?_ ?_)
        · rw [← List.length_flatten, ← List.flatMap_def]
          show (lay p).length + _ ≤ _
          simp only [List.length_nil, Nat.mul_zero, lim]; omega
        · rw [join_lay]
      rintro d rfl
      dsimp only
      refine exs_cons (ex_if (pt_cmp ?_ rfl))
      walk_at "m"
      refine pe_meth F.slot_str_join F.type_str_join ?_ rfl rfl rfl rfl rfl
      refine pe_strL (l := []) (by assumption) ?_
      refine ⟨_, rfl, ?_⟩
      refine pl_cons ?_ rfl
      refine pe_comp ok (compOk0 (by rw [hcl]; rfl) (by decide +kernel) rfl (by decide +kernel) rfl) ?_ (by intro _; rfl)
      repeat (walk_at "m")
      refine ⟨by simp only [List.length_map, lim]; omega, ptQ, ?_, ?_⟩
      · intro d hd n
        obtain ⟨c, hc, rfl⟩ := List.mem_map.mp hd
        refine in_pi ok rfl fun C2 ok2 kin2 hK => ?_
        have B := B.kin kin2
        have mg__law_due := B.g__law_due
        have k2_sign : C2.env.kindOf (Str.ofString "sign") = some .local := hK.same rfl (by decide)
        have k2__law_due : C2.env.kindOf (Str.ofString "_law_due") = some .globalImplicit := hK.same rfl (by decide)
        clear ok
        repeat (walk_at "m")
        refine ⟨.fn ⟨_, _, _, _, B.X 107 _ rfl⟩, ?_⟩
        repeat (walk_at "m")
        refine lawdue07 B (ok2.room.le (by decide)) (.inr (.inr ⟨c, rfl, by have := hp c hc; omega⟩)) ?_
        rw [due_oct (hp c hc)]; rfl
      rw [fm_lay]
      refine pl_nil (doc_join ?_ ?_)
      · rw [← List.length_flatten, ← List.flatMap_def]
        show (lay p).length + _ ≤ _
        simp only [List.length_nil, Nat.mul_zero, lim]; omega
      rw [join_lay]
      refine do_ne_str ?_
      rw [decide_eq_false (by simp)]
      refine tr_bool (ite_f (exs_nil ?_))
      dsimp only
      refine exs_cons (ex_if (pt_bool ?_))
      refine Pb.mono (K := fun b => b = false) ?_ ?_
      · repeat (walk_at "m")
        refine ⟨.fn ⟨_, _, _, _, B.X 79 _ rfl⟩, ?_⟩
        repeat (walk_at "m")
        refine decode07 B hr2 (.inr ⟨rfl, rfl⟩) (by simp only [lim, List.length_cons, List.length_nil]; omega) ?_
        rw [dec07 hp]
        repeat (walk_at "m")
        rw [decide_eq_false (by simp)]
        refine ite_f ?_
        repeat (walk_at "m")
        refine ⟨.fn ⟨_, _, _, _, B.X 93 _ rfl⟩, ?_⟩
        repeat (walk_at "m")
        refine hdec07 B hr4 (by omega) ?_
        rw [hd07 hp]
        repeat (walk_at "m")
        rw [decide_eq_false (by simp)]
        refine ite_f ?_
        repeat (walk_at "m")
        rfl
      rintro _ rfl
      refine ite_f ?_
      repeat (walk_at "m")
      refine ⟨rfl, lay p, by walk_at "m_get", lay_oct hp, ?_⟩
      rw [hll, Nat.pow_succ]; omega
    · rintro ρ2 ω2 ⟨rfl, p, gp, hp, hpl⟩
      repeat (walk_at "m")
      rfl

end Mine
end

theorem PySem.Challenge.cw_dm0095_07_holds : PySem.Challenge.rw_dm0095_07.Holds := by
  refine Mine.hd ?_
  k_fill
  intro w s₀ s₁ mg mb G Y fa o pm cd doc dV kV ho hd hcd hD hmg hg args vals as hpre hlay hrd hwl hlo
  have KX := kIn_of Y
  refine Ground.open G ?_
  intro T B D TE TW
  wrow_args hpre hlay hrd hwl hlo
  refine enter_call ?_
  clear hD hcd hd
  have BB : Mine.B07 ⟨PySem.Challenge.rw_dm0095_07.row.prog, w, callerA, default, s₁.heap, mg, mb⟩ := ⟨KX, ⟨T.g, T.b, T.nolimit⟩, T.builtins⟩
  have hfa : fa = 112 := by
    have h1 : mg (Str.ofString "law") = some (.ref 112) := by rw [Mine.mg_of T.g (KX 3 _ rfl) rfl]; rfl
    have h2 : mg (Str.ofString "law") = some (.ref fa) := hmg
    rw [h1] at h2; cases h2; rfl
  subst hfa
  rename_i hlist _ _ _ hints _ hlen _
  refine Mine.law_run (Mine.law07 BB ⟨rfl, (show callerA.depth + 5 < 900 by decide), (show callerA.units + 10 * 5 < 9000 by decide)⟩ (by omega)) hlist hints fun s' k => ?_
  obtain ⟨h', tk, rfl, hk, _⟩ := k
  exact GoodW.toG ⟨.inl ⟨.bool true, .bool true, [], rfl, raisesW_false (by intro ct h; cases h), .bool true, postW_of rfl (w_eq_bool (w_res rfl) w_lit) rfl, unshared_nil⟩, fun b o e => hk.out id e, rfl, hg⟩
